import JvmDerived
import JvmDerived.Pilot.@@N@@Statement
import JvmDerived.Pilot.@@N@@Code
set_option linter.unusedVariables false
set_option linter.unusedSimpArgs false
namespace Jvm.Pilot.@@N@@
open Jvm Jvm.ClassFile Sem Op Lib Jvm.Free Jvm.Stand Jvm.LawKit Jvm.RoadKit Bundle Jvm.Pilot.@@N@@.Jvm.D
section Own
variable {p : Program} {l : Launch} {e : Env} {R : Room} {s : State} {m : MethodId} {args : Array Value} {below : List Frame} {meth : Method} {c : Code} {T : State} {locs : List Loc} {cells slots : Nat} {Z : State} {a0 : Array Value} {h h' : Heap}
/-- from A the run comes to its end, and G holds there -/
def OGo (p : Program) (e : Env) (below : List Frame) (G : State → Outcome → Prop) (A : State) : Prop := ∃ s₂ o, Steps p.tables e below A s₂ ∧ s₂.status = .running ∧ Ended s₂ below o ∧ G s₂ o
theorem OGo.st {G : State → Outcome → Prop} {A B : State} (k : ∀ t, Steps p.tables e below B t → Steps p.tables e below A t) (g : OGo p e below G B) : OGo p e below G A := by
  obtain ⟨s₂, o, q, r⟩ := g
  exact ⟨s₂, o, k _ q, r⟩
theorem OGo.join {α : Type} {G : State → Outcome → Prop} {A : State} (F : α → State) (P : α → Prop) (h1 : ∀ a, P a → OGo p e below G (F a)) (h2 : (∀ a, P a → OGo p e below G (F a)) → OGo p e below G A) : OGo p e below G A := h2 h1
/-- what a body leaves -/
def ODone (s : State) (rm : Room) (Q : Option Value → Heap → List Loc → Prop) (t : State) (o : Outcome) : Prop := ∃ v L, o = .returned v ∧ Q v t.heap L ∧ FrameEnd s o t L rm.cells rm.slots
/-- a body's contract -/
def OMet (l : Launch) (Z : State) (y : MethodName) (bytes : ByteArray) (maxL : Nat) (ret : Option FieldType) (ws : List Jvm.Cond) (rm : Room) (as' : Array Value) (h0 : Heap) (Q : Option Value → Heap → List Loc → Prop) : Prop :=
  MetFree l y (head1 (Jvm.Cond.code y bytes maxL ret :: ws) rm) (fun a U => a = as' ∧ Z.Warmed39 U.vm ∧ U.heap = h0) (fun _ _ _ _ _ => True) (fun _ U o U' => ∃ v L, o = .returned v ∧ Q v U'.heap L ∧ FrameEnd U o U' L rm.cells rm.slots)
section M
variable {y : MethodName} {bytes : ByteArray} {maxL : Nat} {ret : Option FieldType} {ws : List Jvm.Cond} {rm : Room} {as' : Array Value} {Q : Option Value → Heap → List Loc → Prop}
theorem OMet.of (hp : plainFor y = true)
    (body : ∀ (p : Program) (e : Env) (s : State) (m : MethodId) (below : List Frame) (meth : Method) (c : Code) (s₁ : State), p.tables.exec = Jvm.exec → c.code = bytes → c.maxLocals = maxL → s.methodNamed? y = some m → s.vm.findClass y.cls = some m.cls → meth.name = y.name → meth.sig.returnType = ret → meth.locks = false → Z.Warmed39 s.vm →
      Stand p l e rm s m as' below meth c s₁ [] 0 0 → s₁.heap = h → OGo p e below (ODone s rm Q) (s₁.setTop (entryFrame m as' maxL))) : OMet l Z y bytes maxL ret ws rm as' h Q := by
  refine MetFree.of_bodySF hp hisR ?_
  intro p e s m args below meth c s₁ Bd hml hP hK
  obtain ⟨hA, hZ, hh⟩ := hP
  subst hA
  exact body p e s m below meth c s₁ Bd.exec Bd.bytes hml Bd.named (findClass_of_methodNamed Bd.named) (name_of_methodNamed Bd.named Bd.method).1 Bd.returns Bd.notSynchronized hZ (Stand.of_body Bd) (by rw [← hh, Bd.state]; rfl)
theorem OMet.back {len W : Nat} (hM : OMet l Z y bytes maxL ret [] rm as' h Q) (hZ : Z.Warmed39 s.vm) (wc : (Jvm.Cond.code y bytes maxL ret).before a0 Z = true) (wz : (Jvm.Cond.initialized y.cls).before a0 Z = true) (hf : rm.frames + 1 ≤ R.frames) (hl : W + (maxL + 11) + rm.locals ≤ R.locals) :
    Back l R p e below s args y len W (fun A a => a = as' ∧ A.U.heap = h ∧ A.cells + rm.cells ≤ R.cells ∧ A.slots + rm.slots ≤ R.slots) (fun A _ v B => ∃ L, Q v B.U.heap L ∧ B.locs = A.locs ++ L ∧ B.cells = A.cells + rm.cells ∧ B.slots = A.slots + rm.slots) :=
  backOf hM hZ wc wz hf hl
/-- a static call by its contract -/
theorem OMet.static (hM : OMet l Z y bytes maxL ret [] rm as' h Q) (X : Stand p l e R s m args below meth c T locs cells slots) (hx : p.tables.exec = Jvm.exec) (hZ : Z.Warmed39 s.vm) {own : String} {index W : Nat} (hown : s.vm.findClass own = some m.cls)
    (w1 : (Jvm.Cond.methodLink own index y).before a0 Z = true) (w2 : (Jvm.Cond.static y).before a0 Z = true) (w3 : (Jvm.Cond.initialized y.cls).before a0 Z = true) (w4 : (Jvm.Cond.code y bytes maxL ret).before a0 Z = true)
    (hy : y.cls ≠ "java/lang/invoke/MethodHandle" ∧ y.cls ≠ "java/lang/invoke/VarHandle") (hf : rm.frames + 1 ≤ R.frames) (hl : W + (maxL + 11) + rm.locals ≤ R.locals) (eT : T.heap = h) (hc : cells + rm.cells ≤ R.cells) (hs : slots + rm.slots ≤ R.slots)
    {g : JFrame} (hg : g.method = m) (hsize : g.locals.size = c.maxLocals) {argsL rest : List Value} (ha : argsL.toArray = as') (hlen : ∀ sig, parseMethodDescriptor y.desc = some sig → argsL.length = sig.parameters.length) (hstack : g.stack = argsL.reverse ++ rest) (hW : 2 * g.monitorRoom + (rest.map fun v => v.category).sum ≤ W)
    (hd : decode c.code g.pc = .ok (.invokestatic index, 3)) :
    ∃ (v : Option Value) (T' : State) (L : List Loc), Stand p l e R s m args below meth c T' (locs ++ L) (cells + rm.cells) (slots + rm.slots) ∧ Q v T'.heap L ∧ ∀ target, Steps p.tables e below (T'.setTop { g with pc := g.pc + 3, stack := v.toList ++ rest }) target → Steps p.tables e below (T.setTop g) target := by
  obtain ⟨v, vm, ⟨T', L', k', n'⟩, -, X', ⟨L, hQ, e1, e2, e3⟩, st⟩ := Jvm.LawKit.callS X hx hown (mvT hZ w1) (mvT hZ w2) (mvT hZ w3) (mvT hZ w4) hy (OMet.back (W := W) hM hZ w4 w3 hf hl) (g := g) hg hsize hlen hstack hW hd (fun _ _ => ⟨ha, eT, hc, hs⟩)
  dsimp only [Pt.U, Pt.locs, Pt.cells, Pt.slots] at X' e1 e2 e3 st hQ
  subst e1 e2 e3
  exact ⟨v, T', L, X', hQ, st⟩
/-- a constructor by its contract -/
theorem OMet.init (hM : OMet l Z y bytes maxL none [] rm as' h Q) (X : Stand p l e R s m args below meth c T locs cells slots) (hx : p.tables.exec = Jvm.exec) (hZ : Z.Warmed39 s.vm) {own : String} {index W : Nat} (hy1 : y.name = "<init>") (hown : s.vm.findClass own = some m.cls)
    (w1 : (Jvm.Cond.methodLink own index y).before a0 Z = true) (w2 : (Jvm.Cond.instanceMethod y).before a0 Z = true) (w3 : (Jvm.Cond.initialized y.cls).before a0 Z = true) (w4 : (Jvm.Cond.code y bytes maxL none).before a0 Z = true)
    (hy : y.cls ≠ "java/lang/invoke/MethodHandle" ∧ y.cls ≠ "java/lang/invoke/VarHandle") (hf : rm.frames + 1 ≤ R.frames) (hl : W + (maxL + 11) + rm.locals ≤ R.locals) (eT : T.heap = h) (hc : cells + rm.cells ≤ R.cells) (hs : slots + rm.slots ≤ R.slots)
    {g : JFrame} (hg : g.method = m) (hsize : g.locals.size = c.maxLocals) {a : Addr} {argsL rest : List Value} (ha : (Value.ref a :: argsL).toArray = as') (hlen : ∀ sig, parseMethodDescriptor y.desc = some sig → argsL.length = sig.parameters.length) (hstack : g.stack = argsL.reverse ++ .ref a :: rest) (hW : 2 * g.monitorRoom + (rest.map fun v => v.category).sum ≤ W)
    (hd : decode c.code g.pc = .ok (.invokespecial index, 3)) :
    ∃ (v : Option Value) (T' : State) (L : List Loc), Stand p l e R s m args below meth c T' (locs ++ L) (cells + rm.cells) (slots + rm.slots) ∧ Q v T'.heap L ∧ ∀ target, Steps p.tables e below (T'.setTop { g with pc := g.pc + 3, stack := v.toList ++ rest }) target → Steps p.tables e below (T.setTop g) target := by
  obtain ⟨v, vm, ⟨T', L', k', n'⟩, -, X', ⟨L, hQ, e1, e2, e3⟩, st⟩ := X.specialBack hx hy1 hown (mvT hZ w1) (mvT hZ w2) (mvT hZ w4) hy (OMet.back (W := W) hM hZ w4 w3 hf hl) (g := g) hg hsize (Steps.refl _) (a := a) hlen hstack hW hd (fun _ _ => ⟨ha, eT, hc, hs⟩)
  dsimp only [Pt.U, Pt.locs, Pt.cells, Pt.slots] at X' e1 e2 e3 st hQ
  subst e1 e2 e3
  exact ⟨v, T', L, X', hQ, fun _ k => st.trans k⟩
/-- a virtual call by the contract of the body that the receiver's class selects -/
theorem OMet.virt (hM : OMet l Z y bytes maxL ret [] rm as' h Q) (X : Stand p l e R s m args below meth c T locs cells slots) (hx : p.tables.exec = Jvm.exec) (hZ : Z.Warmed39 s.vm) {own C : String} {index W : Nat} {y0 : MethodName} (hown : s.vm.findClass own = some m.cls)
    (w1 : (Jvm.Cond.methodLink own index y0).before a0 Z = true) (w2 : (Jvm.Cond.declares y0).before a0 Z = true) (nf : NotFace s y0) (w5 : (Jvm.Cond.selects C y0 y).before a0 Z = true) (w6 : (Jvm.Cond.instanceMethod y).before a0 Z = true)
    (w3 : (Jvm.Cond.initialized y.cls).before a0 Z = true) (w4 : (Jvm.Cond.code y bytes maxL ret).before a0 Z = true)
    (hy : y0.cls ≠ "java/lang/invoke/MethodHandle" ∧ y0.cls ≠ "java/lang/invoke/VarHandle") (hf : rm.frames + 1 ≤ R.frames) (hl : W + (maxL + 11) + rm.locals ≤ R.locals) (eT : T.heap = h) (hc : cells + rm.cells ≤ R.cells) (hs : slots + rm.slots ≤ R.slots)
    {g : JFrame} (hg : g.method = m) (hsize : g.locals.size = c.maxLocals) {a : Addr} (E : Exa Z h a C) {argsL rest : List Value} (ha : (Value.ref a :: argsL).toArray = as') (hlen : ∀ sig, parseMethodDescriptor y0.desc = some sig → argsL.length = sig.parameters.length) (hstack : g.stack = argsL.reverse ++ .ref a :: rest) (hW : 2 * g.monitorRoom + (rest.map fun v => v.category).sum ≤ W)
    (hd : decode c.code g.pc = .ok (.invokevirtual index, 3)) :
    ∃ (v : Option Value) (T' : State) (L : List Loc), Stand p l e R s m args below meth c T' (locs ++ L) (cells + rm.cells) (slots + rm.slots) ∧ Q v T'.heap L ∧ ∀ target, Steps p.tables e below (T'.setTop { g with pc := g.pc + 3, stack := v.toList ++ rest }) target → Steps p.tables e below (T.setTop g) target := by
  obtain ⟨cB, kB, qa, qb, qc⟩ := isOf hZ eT E
  obtain ⟨v, vm, ⟨T', L', k', n'⟩, -, X', ⟨L, hQ, e1, e2, e3⟩, st⟩ := X.virtualBack hx hown (mvT hZ w1) (mvT hZ w2) nf (mvT hZ w5) (mvT hZ w6) hy (OMet.back (W := W) hM hZ w4 w3 hf hl) qa qc (g := g) hg hsize (Steps.refl _) hlen hstack hW hd (fun _ _ => ⟨ha, eT, hc, hs⟩)
  dsimp only [Pt.U, Pt.locs, Pt.cells, Pt.slots] at X' e1 e2 e3 st hQ
  subst e1 e2 e3
  exact ⟨v, T', L, X', hQ, fun _ k => st.trans k⟩
/-- a call through an interface by the contract of the body that the receiver's class selects -/
theorem OMet.iface (hM : OMet l Z y bytes maxL ret [] rm as' h Q) (X : Stand p l e R s m args below meth c T locs cells slots) (hx : p.tables.exec = Jvm.exec) (hZ : Z.Warmed39 s.vm) {own C : String} {index count W : Nat} {y0 : MethodName} (hown : s.vm.findClass own = some m.cls)
    (w1 : (Jvm.Cond.methodLink own index y0).before a0 Z = true) (w2 : (Jvm.Cond.declares y0).before a0 Z = true) (w7 : (Jvm.Cond.interfaceMethod y0.cls y0.cls y0.name y0.desc).before a0 Z = true) (w5 : (Jvm.Cond.selects C y0 y).before a0 Z = true) (w6 : (Jvm.Cond.instanceMethod y).before a0 Z = true)
    (w8 : (Jvm.Cond.publicMethod y).before a0 Z = true) (w9 : (Jvm.Cond.unhidden C y0.name y0.desc).before a0 Z = true) (w0 : (Jvm.Cond.castable C y0.cls).before a0 Z = true) (w3 : (Jvm.Cond.initialized y.cls).before a0 Z = true) (w4 : (Jvm.Cond.code y bytes maxL ret).before a0 Z = true)
    (hy : y0.cls ≠ "java/lang/invoke/MethodHandle" ∧ y0.cls ≠ "java/lang/invoke/VarHandle") (hf : rm.frames + 1 ≤ R.frames) (hl : W + (maxL + 11) + rm.locals ≤ R.locals) (eT : T.heap = h) (hc : cells + rm.cells ≤ R.cells) (hs : slots + rm.slots ≤ R.slots)
    {g : JFrame} (hg : g.method = m) (hsize : g.locals.size = c.maxLocals) {a : Addr} (E : Exa Z h a C) {argsL rest : List Value} (ha : (Value.ref a :: argsL).toArray = as') (hlen : ∀ sig, parseMethodDescriptor y0.desc = some sig → argsL.length = sig.parameters.length) (hstack : g.stack = argsL.reverse ++ .ref a :: rest) (hW : 2 * g.monitorRoom + (rest.map fun v => v.category).sum ≤ W)
    (hd : decode c.code g.pc = .ok (.invokeinterface index count, 5)) :
    ∃ (v : Option Value) (T' : State) (L : List Loc), Stand p l e R s m args below meth c T' (locs ++ L) (cells + rm.cells) (slots + rm.slots) ∧ Q v T'.heap L ∧ ∀ target, Steps p.tables e below (T'.setTop { g with pc := g.pc + 5, stack := v.toList ++ rest }) target → Steps p.tables e below (T.setTop g) target := by
  obtain ⟨cB, kB, qa, qb, qc⟩ := isOf hZ eT E
  obtain ⟨v, vm, ⟨T', L', k', n'⟩, -, X', ⟨L, hQ, e1, e2, e3⟩, st⟩ := X.interfaceBack hx hown (mvT hZ w1) (mvT hZ w2) (mvT hZ w7 (by simp [Cond.onTables, Cond.keepsFace, Cond.keeps, Cond.steady, Cond.faceAtom, hy.1, hy.2])) (mvT hZ w5) (mvT hZ w6) (mvT hZ w8) (mvT hZ w9) (mvT hZ w0) hy (OMet.back (W := W) hM hZ w4 w3 hf hl) qa qb qc (g := g) hg hsize (Steps.refl _) hlen hstack hW hd (fun _ _ => ⟨ha, eT, hc, hs⟩)
  dsimp only [Pt.U, Pt.locs, Pt.cells, Pt.slots] at X' e1 e2 e3 st hQ
  subst e1 e2 e3
  exact ⟨v, T', L, X', hQ, fun _ k => st.trans k⟩
end M
theorem nf_sel {C : String} {y : MethodName} (hZ : Z.Warmed39 s.vm) (w : (Jvm.Cond.selects C y y).before a0 Z = true) : NotFace s y := notFace_of_selects (args := #[]) (mvT hZ w)
/-- the returns -/
theorem own_ret (X : Stand p l e R s m args below meth c T locs cells slots) {rm : Room} {Q : Option Value → Heap → List Loc → Prop} {A : State} {v : Option Value} (hv : meth.sig.returnType = none → v = none) (hlk : meth.locks = false)
    (k : ∀ fs, (∀ (f : JFrame) (acts : List Action), f.method = m → f.locked = none → f.entered = [] → (doReturn e (T.setTop f) acts v).1 = T.setFrames fs) → Steps p.tables e below A (T.setFrames fs)) (hQ : Q v T.heap locs) (hc : cells ≤ rm.cells) (hs : slots ≤ rm.slots) : OGo p e below (ODone s rm Q) A := by
  obtain ⟨fs, hr, hrun, hended, hW, hsame⟩ := X.leave (v := v) hv hlk
  exact ⟨_, _, k fs hr, hrun, hended, v, locs, rfl, hQ, ⟨_, rfl⟩, hW, hsame.mono hc hs⟩
theorem own_retZ (X : Stand p l e R s m args below meth c T locs cells slots) (hx : p.tables.exec = Jvm.exec) {rm : Room} {Q : Option Value → Heap → List Loc → Prop} {pc : Nat} {Ls : Array Slot} {z : Int32} {rest : List Value} (hret : meth.sig.returnType = some .boolean) (hlk : meth.locks = false)
    (hd : decode c.code pc = .ok (.ireturn, 1)) (hQ : Q (some (.int (nar .boolean z))) T.heap locs) (hc : cells ≤ rm.cells) (hs : slots ≤ rm.slots) : OGo p e below (ODone s rm Q) (T.setTop (mkF m pc Ls (.int z :: rest))) :=
  own_ret X (fun h => by rw [hret] at h; cases h) hlk (fun fs hr => retN X hx hret (Or.inl rfl) hd hr) hQ hc hs
theorem own_retI (X : Stand p l e R s m args below meth c T locs cells slots) (hx : p.tables.exec = Jvm.exec) {rm : Room} {Q : Option Value → Heap → List Loc → Prop} {pc : Nat} {Ls : Array Slot} {z : Int32} {rest : List Value} (hret : meth.sig.returnType = some .int) (hlk : meth.locks = false)
    (hd : decode c.code pc = .ok (.ireturn, 1)) (hQ : Q (some (.int z)) T.heap locs) (hc : cells ≤ rm.cells) (hs : slots ≤ rm.slots) : OGo p e below (ODone s rm Q) (T.setTop (mkF m pc Ls (.int z :: rest))) :=
  own_ret X (fun h => by rw [hret] at h; cases h) hlk (fun fs hr => retOut X hx hret rfl (Or.inl ⟨rfl, Or.inl rfl, z, rfl⟩) hd hr) hQ hc hs
theorem own_retJ (X : Stand p l e R s m args below meth c T locs cells slots) (hx : p.tables.exec = Jvm.exec) {rm : Room} {Q : Option Value → Heap → List Loc → Prop} {pc : Nat} {Ls : Array Slot} {z : Int64} {rest : List Value} (hret : meth.sig.returnType = some .long) (hlk : meth.locks = false)
    (hd : decode c.code pc = .ok (.lreturn, 1)) (hQ : Q (some (.long z)) T.heap locs) (hc : cells ≤ rm.cells) (hs : slots ≤ rm.slots) : OGo p e below (ODone s rm Q) (T.setTop (mkF m pc Ls (.long z :: rest))) :=
  own_ret X (fun h => by rw [hret] at h; cases h) hlk (fun fs hr => retOut X hx hret rfl (Or.inr (Or.inl ⟨rfl, rfl, z, rfl⟩)) hd hr) hQ hc hs
theorem own_retA (X : Stand p l e R s m args below meth c T locs cells slots) (hx : p.tables.exec = Jvm.exec) {rm : Room} {Q : Option Value → Heap → List Loc → Prop} {pc : Nat} {Ls : Array Slot} {w : Value} {t : FieldType} {rest : List Value} (hret : meth.sig.returnType = some t) (hlk : meth.locks = false)
    (hn : narrow t w = w) (ht : t.isReference = true) (hw : w.isRef = true) (hd : decode c.code pc = .ok (.areturn, 1)) (hQ : Q (some w) T.heap locs) (hc : cells ≤ rm.cells) (hs : slots ≤ rm.slots) : OGo p e below (ODone s rm Q) (T.setTop (mkF m pc Ls (w :: rest))) :=
  own_ret X (fun h => by rw [hret] at h; cases h) hlk (fun fs hr => retOut X hx hret hn (Or.inr (Or.inr (Or.inr (Or.inr ⟨rfl, ht, hw⟩)))) hd hr) hQ hc hs
theorem own_ret0 (X : Stand p l e R s m args below meth c T locs cells slots) (hx : p.tables.exec = Jvm.exec) {rm : Room} {Q : Option Value → Heap → List Loc → Prop} {pc : Nat} {Ls : Array Slot} (hret : meth.sig.returnType = none) (hlk : meth.locks = false)
    (hd : decode c.code pc = .ok (.return_, 1)) (hQ : Q none T.heap locs) (hc : cells ≤ rm.cells) (hs : slots ≤ rm.slots) : OGo p e below (ODone s rm Q) (T.setTop (mkF m pc Ls [])) :=
  own_ret X (fun _ => rfl) hlk (fun fs hr => X.returnOut hx hret hd hr) hQ hc hs
/-- a body that returns r and leaves the heap as it was -/
def OPure (r : Option Value) (h0 : Heap) (n0 : Nat) (v : Option Value) (h : Heap) (L : List Loc) : Prop := v = r ∧ Fr n0 L ∧ h = h0
/-- the start's words -/
theorem own_int {k : Int32} {t : Term} (hq : (Jvm.Cond.eq t (.int k)).value args s none s [] = some true) : t.eval args s none [] s = some (.int k) := by
  obtain ⟨x, y, e1, e2, k1, k2⟩ := cmp_v (Or.inl hq)
  have e3 : y = .int k := (Option.some.inj e2).symm
  subst e3
  obtain ⟨z, rfl⟩ := k2
  have q : (Jvm.Cond.eq t (.int k)).value args s none s [] = some (decide (z = k)) := by simp [Jvm.Cond.value, e1, Term.eval]
  rw [e1, gotT q hq]
theorem own_long {k : Int64} {t : Term} (hq : (Jvm.Cond.eq t (.long k)).value args s none s [] = some true) : t.eval args s none [] s = some (.long k) := by
  obtain ⟨x, y, e1, e2, k1, k2⟩ := cmp_v (Or.inl hq)
  have e3 : y = .long k := (Option.some.inj e2).symm
  subst e3
  obtain ⟨z, rfl⟩ := k2
  have q : (Jvm.Cond.eq t (.long k)).value args s none s [] = some (decide (z = k)) := eq_L e1 e2
  rw [e1, gotT q hq]
theorem own_ord {k : Int32} {t : Term} {C n d : String} {x : Addr} (ht : t.eval args s none [] s = some (.ref x)) (hq : (Jvm.Cond.eq (.field t C n d) (.int k)).value args s none s [] = some true) : Fld s s.heap x C n d (.int k) :=
  Fld.start ((fld_at ht).symm.trans (own_int hq))
theorem own_ordL {k : Int64} {t : Term} {C n d : String} {x : Addr} (ht : t.eval args s none [] s = some (.ref x)) (hq : (Jvm.Cond.eq (.field t C n d) (.long k)).value args s none s [] = some true) : Fld s s.heap x C n d (.long k) :=
  Fld.start ((fld_at ht).symm.trans (own_long hq))
theorem own_sta {t : String × String × String} {C : String} (hq : (Jvm.Cond.exactly (.static t.1 t.2.1 t.2.2) C).value args s none s [] = some true) (w1 : (Jvm.Cond.initialized t.1).before args s = true) (w2 : (Jvm.Cond.laysStatic t.1 t.2.1 t.2.2).before args s = true) :
    ∃ a, (Term.static t.1 t.2.1 t.2.2).eval args s none [] s = some (.ref a) ∧ Sta s s.heap t.1 t.2.1 t.2.2 (.ref a) ∧ Exa s s.heap a C := by
  obtain ⟨a, ea⟩ := exa_v hq
  exact ⟨a, ea, Sta.start ea (Or.inr ⟨w1, w2⟩), Exa.start ea hq⟩
theorem own_len {t : Term} {a : Addr} {c : Cell} {z : Int32} (et : t.eval args s none [] s = some (.ref a)) (ha : s.arrayAt? a = some c) (hq : (Term.length t).eval args s none [] s = some (.int z)) : c.slots.size < 2 ^ 31 ∧ c.slots.size.toInt32 = z := by
  by_cases hl : c.slots.size < 2 ^ 31
  · rw [len_f et ha hl] at hq
    exact ⟨hl, Value.int.inj (Option.some.inj hq)⟩
  · simp [Term.eval, et, ha, hl] at hq
theorem own_b01 {z : Int32} (hz : z = 0 ∨ z = 1) : narrow .boolean (.int z) = .int z ∧ fits .boolean (.int z) = true ∧ nar .boolean z = z := by
  rcases hz with rfl | rfl <;> decide
theorem own_ns_root {O K : String} {n : Nat} (w : (Jvm.Cond.noSuperclass O).before a0 Z = true) (wi : (Jvm.Cond.instantiable K n).before a0 Z = true) (hn : O ≠ K) : NS Z O K := by
  obtain ⟨c, k, h1, h2, h3, -⟩ := Cond.noSuperclass_spec w
  obtain ⟨t, kt, g1, -⟩ := Cond.instantiable_spec wi
  refine ⟨c, t, h1, g1, fun f => ?_⟩
  cases f with
  | zero => rfl
  | succ f => simp [Vm.isSubclassAux, ids_ne h1 g1 hn, h2, h3]
theorem own_ns_no {C S K : String} {n : Nat} (w : (Jvm.Cond.superclass C S).before a0 Z = true) (wi : (Jvm.Cond.instantiable K n).before a0 Z = true) (N : NS Z C K) (hn : C ≠ K) : ∃ c t, Z.vm.findClass C = some c ∧ Z.vm.findClass K = some t ∧ Z.vm.assignable c t = false := by
  obtain ⟨c, t, h0, g0, n3⟩ := N
  obtain ⟨p, k, kp, -, h2, -, -, h5, -, h7⟩ := Cond.superclass_spec h0 w
  obtain ⟨t', kt, g1, g2, g3, g4, -⟩ := Cond.instantiable_spec wi
  cases g0.symm.trans g1
  have g5 : kt.isInterface = false := (Bool.or_eq_false_iff.mp g4).1
  refine ⟨c, t, h0, g0, ?_⟩
  show Z.vm.assignableAux (255 + 1) c t = false
  simp [Vm.assignableAux, ids_ne h0 g0 hn, h2, g2, h5, g3, g5, Vm.isSubclass, n3]
end Own
theorem own_and3 (x : Int32) : x &&& (3 : Int32) = (0 : Int32) ∨ x &&& (3 : Int32) = (1 : Int32) ∨ x &&& (3 : Int32) = (2 : Int32) ∨ x &&& (3 : Int32) = (3 : Int32) := by
  have q := c_mask x 3 2 (by decide) (by decide)
  have q2 : (x &&& 3).toInt = 0 ∨ (x &&& 3).toInt = 1 ∨ (x &&& 3).toInt = 2 ∨ (x &&& 3).toInt = 3 := by omega
  rcases q2 with q | q | q | q
  · exact Or.inl (Int32.toInt_inj.mp (q.trans rfl))
  · exact Or.inr (Or.inl (Int32.toInt_inj.mp (q.trans rfl)))
  · exact Or.inr (Or.inr (Or.inl (Int32.toInt_inj.mp (q.trans rfl))))
  · exact Or.inr (Or.inr (Or.inr (Int32.toInt_inj.mp (q.trans rfl))))
theorem d1_0 : decode method_2_code 0 = .ok (.iload_n 0, 1) := by decide +kernel
theorem d1_1 : decode method_2_code 1 = .ok (.ifCond .ne 7, 3) := by decide +kernel
theorem d1_4 : decode method_2_code 4 = .ok (.getstatic 7, 3) := by decide +kernel
theorem d1_7 : decode method_2_code 7 = .ok (.areturn, 1) := by decide +kernel
theorem pn_com_example_hidden_gaps_hiddengaps_engine_LockKindCoversGapPinLaw : plainName "com/example/hidden_gaps/hiddengaps/engine/LockKindCoversGapPinLaw" = true := by first | (simp [plainName, overriddenIn]; done) | decide +kernel
theorem ef_rm1_0 (m : MethodId) (x0 : Int32) : entryFrame m #[(.int x0)] 1 = mkF m 0 #[.val (.int x0)] [] := by first | (simp [entryFrame, mkF, argsToLocals, Value.category]; done) | rfl
set_option maxRecDepth 65536 in
set_option maxHeartbeats 40000000 in
theorem rm1_0 (l : Launch) (Z : State) (a0 : Array Value) (hw : ∀ d ∈ tables_1, d.before a0 Z = true) (w : Addr) (h0 : Heap) (n0 : Nat) (S : Sta Z h0 "com/example/hidden_gaps/hiddengaps/engine/LockKind" "RECORD" "Lcom/example/hidden_gaps/hiddengaps/engine/LockKind;" (.ref w)) :
    OMet l Z (⟨"com/example/hidden_gaps/hiddengaps/engine/LockKindCoversGapPinLaw", "kindOf", "(I)Lcom/example/hidden_gaps/hiddengaps/engine/LockKind;"⟩ : MethodName) method_2_code 1 (some (.object "com/example/hidden_gaps/hiddengaps/engine/LockKind")) [] ({ frames := 0, cells := 0, slots := 0, locals := 0 } : Room) #[(.int (0 : Int32))] h0 (OPure (some (.ref w)) h0 n0) := by
  refine OMet.of (plainFor_of_name pn_com_example_hidden_gaps_hiddengaps_engine_LockKindCoversGapPinLaw) ?_
  intro p e s m below meth c s₁ hx hby hml hnd hown hnm hret hlk hZ X0 e0
  replace hown : s.vm.findClass "com/example/hidden_gaps/hiddengaps/engine/LockKindCoversGapPinLaw" = some m.cls := hown
  replace hml : c.maxLocals = 1 := hml
  have N0 := Fr.nil n0
  rw [ef_rm1_0 m (0 : Int32)]
  refine OGo.st (B := s₁.setTop (mkF m 1 #[.val (.int (0 : Int32))] [(.int (0 : Int32))])) (fun _ k => XS.iloadN X0.here hx rfl (hb hby d1_0) rfl k) ?_
  refine OGo.st (B := s₁.setTop (mkF m 4 #[.val (.int (0 : Int32))] [])) (fun _ k => XS.ifNo X0.here hx rfl (hb hby d1_1) rfl (by decide) k) ?_
  obtain ⟨T1, X1, e1, st1⟩ := getS2 X0 hx hZ hown (host := "") (Or.inl (hw _ (List.mem_of_getElem? (i := 4) rfl))) Via.refl e0 S (g := (mkF m 4 #[.val (.int (0 : Int32))] [])) rfl (hb hby d1_4)
  refine OGo.st (B := T1.setTop (mkF m 7 #[.val (.int (0 : Int32))] [(.ref w)])) st1 ?_
  exact own_retA X1 hx hret hlk rfl rfl rfl (hb hby d1_7) ⟨rfl, N0, e1⟩ (by decide) (by decide)
theorem d1_8 : decode method_2_code 8 = .ok (.iload_n 0, 1) := by decide +kernel
theorem d1_9 : decode method_2_code 9 = .ok (.iconst 1, 1) := by decide +kernel
theorem d1_10 : decode method_2_code 10 = .ok (.if_icmp .ne 7, 3) := by decide +kernel
theorem d1_13 : decode method_2_code 13 = .ok (.getstatic 13, 3) := by decide +kernel
theorem d1_16 : decode method_2_code 16 = .ok (.areturn, 1) := by decide +kernel
theorem ef_rm1_1 (m : MethodId) (x0 : Int32) : entryFrame m #[(.int x0)] 1 = mkF m 0 #[.val (.int x0)] [] := by first | (simp [entryFrame, mkF, argsToLocals, Value.category]; done) | rfl
set_option maxRecDepth 65536 in
set_option maxHeartbeats 40000000 in
theorem rm1_1 (l : Launch) (Z : State) (a0 : Array Value) (hw : ∀ d ∈ tables_1, d.before a0 Z = true) (w : Addr) (h0 : Heap) (n0 : Nat) (S : Sta Z h0 "com/example/hidden_gaps/hiddengaps/engine/LockKind" "GAP" "Lcom/example/hidden_gaps/hiddengaps/engine/LockKind;" (.ref w)) :
    OMet l Z (⟨"com/example/hidden_gaps/hiddengaps/engine/LockKindCoversGapPinLaw", "kindOf", "(I)Lcom/example/hidden_gaps/hiddengaps/engine/LockKind;"⟩ : MethodName) method_2_code 1 (some (.object "com/example/hidden_gaps/hiddengaps/engine/LockKind")) [] ({ frames := 0, cells := 0, slots := 0, locals := 0 } : Room) #[(.int (1 : Int32))] h0 (OPure (some (.ref w)) h0 n0) := by
  refine OMet.of (plainFor_of_name pn_com_example_hidden_gaps_hiddengaps_engine_LockKindCoversGapPinLaw) ?_
  intro p e s m below meth c s₁ hx hby hml hnd hown hnm hret hlk hZ X0 e0
  replace hown : s.vm.findClass "com/example/hidden_gaps/hiddengaps/engine/LockKindCoversGapPinLaw" = some m.cls := hown
  replace hml : c.maxLocals = 1 := hml
  have N0 := Fr.nil n0
  rw [ef_rm1_1 m (1 : Int32)]
  refine OGo.st (B := s₁.setTop (mkF m 1 #[.val (.int (1 : Int32))] [(.int (1 : Int32))])) (fun _ k => XS.iloadN X0.here hx rfl (hb hby d1_0) rfl k) ?_
  refine OGo.st (B := s₁.setTop (mkF m 8 #[.val (.int (1 : Int32))] [])) (fun _ k => XS.ifYes X0.here hx rfl (pc0 := 1) (pc' := 8) rfl (hb hby d1_1) rfl (by decide) (by decide) (by decide) k) ?_
  refine OGo.st (B := s₁.setTop (mkF m 9 #[.val (.int (1 : Int32))] [(.int (1 : Int32))])) (fun _ k => XS.iloadN X0.here hx rfl (hb hby d1_8) rfl k) ?_
  refine OGo.st (B := s₁.setTop (mkF m 10 #[.val (.int (1 : Int32))] [(.int (1 : Int32)), (.int (1 : Int32))])) (fun _ k => XS.iconst X0.here hx rfl (hb hby d1_9) k) ?_
  refine OGo.st (B := s₁.setTop (mkF m 13 #[.val (.int (1 : Int32))] [])) (fun _ k => XS.icmpNo X0.here hx rfl (hb hby d1_10) rfl (by decide) k) ?_
  obtain ⟨T1, X1, e1, st1⟩ := getS2 X0 hx hZ hown (host := "") (Or.inl (hw _ (List.mem_of_getElem? (i := 16) rfl))) Via.refl e0 S (g := (mkF m 13 #[.val (.int (1 : Int32))] [])) rfl (hb hby d1_13)
  refine OGo.st (B := T1.setTop (mkF m 16 #[.val (.int (1 : Int32))] [(.ref w)])) st1 ?_
  exact own_retA X1 hx hret hlk rfl rfl rfl (hb hby d1_16) ⟨rfl, N0, e1⟩ (by decide) (by decide)
theorem d1_17 : decode method_2_code 17 = .ok (.iload_n 0, 1) := by decide +kernel
theorem d1_18 : decode method_2_code 18 = .ok (.iconst 2, 1) := by decide +kernel
theorem d1_19 : decode method_2_code 19 = .ok (.if_icmp .ne 7, 3) := by decide +kernel
theorem d1_22 : decode method_2_code 22 = .ok (.getstatic 16, 3) := by decide +kernel
theorem d1_25 : decode method_2_code 25 = .ok (.areturn, 1) := by decide +kernel
theorem ef_rm1_2 (m : MethodId) (x0 : Int32) : entryFrame m #[(.int x0)] 1 = mkF m 0 #[.val (.int x0)] [] := by first | (simp [entryFrame, mkF, argsToLocals, Value.category]; done) | rfl
set_option maxRecDepth 65536 in
set_option maxHeartbeats 40000000 in
theorem rm1_2 (l : Launch) (Z : State) (a0 : Array Value) (hw : ∀ d ∈ tables_1, d.before a0 Z = true) (w : Addr) (h0 : Heap) (n0 : Nat) (S : Sta Z h0 "com/example/hidden_gaps/hiddengaps/engine/LockKind" "NEXT_KEY" "Lcom/example/hidden_gaps/hiddengaps/engine/LockKind;" (.ref w)) :
    OMet l Z (⟨"com/example/hidden_gaps/hiddengaps/engine/LockKindCoversGapPinLaw", "kindOf", "(I)Lcom/example/hidden_gaps/hiddengaps/engine/LockKind;"⟩ : MethodName) method_2_code 1 (some (.object "com/example/hidden_gaps/hiddengaps/engine/LockKind")) [] ({ frames := 0, cells := 0, slots := 0, locals := 0 } : Room) #[(.int (2 : Int32))] h0 (OPure (some (.ref w)) h0 n0) := by
  refine OMet.of (plainFor_of_name pn_com_example_hidden_gaps_hiddengaps_engine_LockKindCoversGapPinLaw) ?_
  intro p e s m below meth c s₁ hx hby hml hnd hown hnm hret hlk hZ X0 e0
  replace hown : s.vm.findClass "com/example/hidden_gaps/hiddengaps/engine/LockKindCoversGapPinLaw" = some m.cls := hown
  replace hml : c.maxLocals = 1 := hml
  have N0 := Fr.nil n0
  rw [ef_rm1_2 m (2 : Int32)]
  refine OGo.st (B := s₁.setTop (mkF m 1 #[.val (.int (2 : Int32))] [(.int (2 : Int32))])) (fun _ k => XS.iloadN X0.here hx rfl (hb hby d1_0) rfl k) ?_
  refine OGo.st (B := s₁.setTop (mkF m 8 #[.val (.int (2 : Int32))] [])) (fun _ k => XS.ifYes X0.here hx rfl (pc0 := 1) (pc' := 8) rfl (hb hby d1_1) rfl (by decide) (by decide) (by decide) k) ?_
  refine OGo.st (B := s₁.setTop (mkF m 9 #[.val (.int (2 : Int32))] [(.int (2 : Int32))])) (fun _ k => XS.iloadN X0.here hx rfl (hb hby d1_8) rfl k) ?_
  refine OGo.st (B := s₁.setTop (mkF m 10 #[.val (.int (2 : Int32))] [(.int (1 : Int32)), (.int (2 : Int32))])) (fun _ k => XS.iconst X0.here hx rfl (hb hby d1_9) k) ?_
  refine OGo.st (B := s₁.setTop (mkF m 17 #[.val (.int (2 : Int32))] [])) (fun _ k => XS.icmpYes X0.here hx rfl (pc0 := 10) (pc' := 17) rfl (hb hby d1_10) rfl (by decide) (by decide) (by decide) k) ?_
  refine OGo.st (B := s₁.setTop (mkF m 18 #[.val (.int (2 : Int32))] [(.int (2 : Int32))])) (fun _ k => XS.iloadN X0.here hx rfl (hb hby d1_17) rfl k) ?_
  refine OGo.st (B := s₁.setTop (mkF m 19 #[.val (.int (2 : Int32))] [(.int (2 : Int32)), (.int (2 : Int32))])) (fun _ k => XS.iconst X0.here hx rfl (hb hby d1_18) k) ?_
  refine OGo.st (B := s₁.setTop (mkF m 22 #[.val (.int (2 : Int32))] [])) (fun _ k => XS.icmpNo X0.here hx rfl (hb hby d1_19) rfl (by decide) k) ?_
  obtain ⟨T1, X1, e1, st1⟩ := getS2 X0 hx hZ hown (host := "") (Or.inl (hw _ (List.mem_of_getElem? (i := 25) rfl))) Via.refl e0 S (g := (mkF m 22 #[.val (.int (2 : Int32))] [])) rfl (hb hby d1_22)
  refine OGo.st (B := T1.setTop (mkF m 25 #[.val (.int (2 : Int32))] [(.ref w)])) st1 ?_
  exact own_retA X1 hx hret hlk rfl rfl rfl (hb hby d1_25) ⟨rfl, N0, e1⟩ (by decide) (by decide)
theorem d1_26 : decode method_2_code 26 = .ok (.getstatic 19, 3) := by decide +kernel
theorem d1_29 : decode method_2_code 29 = .ok (.areturn, 1) := by decide +kernel
theorem ef_rm1_3 (m : MethodId) (x0 : Int32) : entryFrame m #[(.int x0)] 1 = mkF m 0 #[.val (.int x0)] [] := by first | (simp [entryFrame, mkF, argsToLocals, Value.category]; done) | rfl
set_option maxRecDepth 65536 in
set_option maxHeartbeats 40000000 in
theorem rm1_3 (l : Launch) (Z : State) (a0 : Array Value) (hw : ∀ d ∈ tables_1, d.before a0 Z = true) (w : Addr) (h0 : Heap) (n0 : Nat) (S : Sta Z h0 "com/example/hidden_gaps/hiddengaps/engine/LockKind" "INSERT_INTENTION" "Lcom/example/hidden_gaps/hiddengaps/engine/LockKind;" (.ref w)) :
    OMet l Z (⟨"com/example/hidden_gaps/hiddengaps/engine/LockKindCoversGapPinLaw", "kindOf", "(I)Lcom/example/hidden_gaps/hiddengaps/engine/LockKind;"⟩ : MethodName) method_2_code 1 (some (.object "com/example/hidden_gaps/hiddengaps/engine/LockKind")) [] ({ frames := 0, cells := 0, slots := 0, locals := 0 } : Room) #[(.int (3 : Int32))] h0 (OPure (some (.ref w)) h0 n0) := by
  refine OMet.of (plainFor_of_name pn_com_example_hidden_gaps_hiddengaps_engine_LockKindCoversGapPinLaw) ?_
  intro p e s m below meth c s₁ hx hby hml hnd hown hnm hret hlk hZ X0 e0
  replace hown : s.vm.findClass "com/example/hidden_gaps/hiddengaps/engine/LockKindCoversGapPinLaw" = some m.cls := hown
  replace hml : c.maxLocals = 1 := hml
  have N0 := Fr.nil n0
  rw [ef_rm1_3 m (3 : Int32)]
  refine OGo.st (B := s₁.setTop (mkF m 1 #[.val (.int (3 : Int32))] [(.int (3 : Int32))])) (fun _ k => XS.iloadN X0.here hx rfl (hb hby d1_0) rfl k) ?_
  refine OGo.st (B := s₁.setTop (mkF m 8 #[.val (.int (3 : Int32))] [])) (fun _ k => XS.ifYes X0.here hx rfl (pc0 := 1) (pc' := 8) rfl (hb hby d1_1) rfl (by decide) (by decide) (by decide) k) ?_
  refine OGo.st (B := s₁.setTop (mkF m 9 #[.val (.int (3 : Int32))] [(.int (3 : Int32))])) (fun _ k => XS.iloadN X0.here hx rfl (hb hby d1_8) rfl k) ?_
  refine OGo.st (B := s₁.setTop (mkF m 10 #[.val (.int (3 : Int32))] [(.int (1 : Int32)), (.int (3 : Int32))])) (fun _ k => XS.iconst X0.here hx rfl (hb hby d1_9) k) ?_
  refine OGo.st (B := s₁.setTop (mkF m 17 #[.val (.int (3 : Int32))] [])) (fun _ k => XS.icmpYes X0.here hx rfl (pc0 := 10) (pc' := 17) rfl (hb hby d1_10) rfl (by decide) (by decide) (by decide) k) ?_
  refine OGo.st (B := s₁.setTop (mkF m 18 #[.val (.int (3 : Int32))] [(.int (3 : Int32))])) (fun _ k => XS.iloadN X0.here hx rfl (hb hby d1_17) rfl k) ?_
  refine OGo.st (B := s₁.setTop (mkF m 19 #[.val (.int (3 : Int32))] [(.int (2 : Int32)), (.int (3 : Int32))])) (fun _ k => XS.iconst X0.here hx rfl (hb hby d1_18) k) ?_
  refine OGo.st (B := s₁.setTop (mkF m 26 #[.val (.int (3 : Int32))] [])) (fun _ k => XS.icmpYes X0.here hx rfl (pc0 := 19) (pc' := 26) rfl (hb hby d1_19) rfl (by decide) (by decide) (by decide) k) ?_
  obtain ⟨T1, X1, e1, st1⟩ := getS2 X0 hx hZ hown (host := "") (Or.inl (hw _ (List.mem_of_getElem? (i := 24) rfl))) Via.refl e0 S (g := (mkF m 26 #[.val (.int (3 : Int32))] [])) rfl (hb hby d1_26)
  refine OGo.st (B := T1.setTop (mkF m 29 #[.val (.int (3 : Int32))] [(.ref w)])) st1 ?_
  exact own_retA X1 hx hret hlk rfl rfl rfl (hb hby d1_29) ⟨rfl, N0, e1⟩ (by decide) (by decide)
theorem d2_0 : decode prog_20_method_5_code 0 = .ok (.aload_n 0, 1) := by decide +kernel
theorem d2_1 : decode prog_20_method_5_code 1 = .ok (.getstatic 7, 3) := by decide +kernel
theorem d2_4 : decode prog_20_method_5_code 4 = .ok (.if_acmp .eq 10, 3) := by decide +kernel
theorem d2_7 : decode prog_20_method_5_code 7 = .ok (.aload_n 0, 1) := by decide +kernel
theorem d2_8 : decode prog_20_method_5_code 8 = .ok (.getstatic 10, 3) := by decide +kernel
theorem d2_11 : decode prog_20_method_5_code 11 = .ok (.if_acmp .ne 7, 3) := by decide +kernel
theorem d2_14 : decode prog_20_method_5_code 14 = .ok (.iconst 1, 1) := by decide +kernel
theorem d2_15 : decode prog_20_method_5_code 15 = .ok (.goto 4, 3) := by decide +kernel
theorem d2_18 : decode prog_20_method_5_code 18 = .ok (.iconst 0, 1) := by decide +kernel
theorem d2_19 : decode prog_20_method_5_code 19 = .ok (.ireturn, 1) := by decide +kernel
theorem pn_com_example_hidden_gaps_hiddengaps_engine_LockKind : plainName "com/example/hidden_gaps/hiddengaps/engine/LockKind" = true := by first | (simp [plainName, overriddenIn]; done) | decide +kernel
theorem ef_rm2 (m : MethodId) (x0 : Addr) : entryFrame m #[(.ref x0)] 1 = mkF m 0 #[.val (.ref x0)] [] := by first | (simp [entryFrame, mkF, argsToLocals, Value.category]; done) | rfl
set_option maxRecDepth 65536 in
set_option maxHeartbeats 40000000 in
theorem rm2 (l : Launch) (Z : State) (a0 : Array Value) (hw : ∀ d ∈ tables_1, d.before a0 Z = true) (a w_GAP w_NEXT_KEY : Addr) (r : Int32) (h0 : Heap) (n0 : Nat) (S_GAP : Sta Z h0 "com/example/hidden_gaps/hiddengaps/engine/LockKind" "GAP" "Lcom/example/hidden_gaps/hiddengaps/engine/LockKind;" (.ref w_GAP)) (S_NEXT_KEY : Sta Z h0 "com/example/hidden_gaps/hiddengaps/engine/LockKind" "NEXT_KEY" "Lcom/example/hidden_gaps/hiddengaps/engine/LockKind;" (.ref w_NEXT_KEY)) (hr : (if a = w_GAP ∨ a = w_NEXT_KEY then (1 : Int32) else 0) = r) :
    OMet l Z (⟨"com/example/hidden_gaps/hiddengaps/engine/LockKind", "coversGap", "()Z"⟩ : MethodName) prog_20_method_5_code 1 (some .boolean) [] ({ frames := 0, cells := 0, slots := 0, locals := 0 } : Room) #[(.ref a)] h0 (OPure (some (.int r)) h0 n0) := by
  refine OMet.of (plainFor_of_name pn_com_example_hidden_gaps_hiddengaps_engine_LockKind) ?_
  intro p e s m below meth c s₁ hx hby hml hnd hown hnm hret hlk hZ X0 e0
  replace hown : s.vm.findClass "com/example/hidden_gaps/hiddengaps/engine/LockKind" = some m.cls := hown
  replace hml : c.maxLocals = 1 := hml
  have N0 := Fr.nil n0
  rw [ef_rm2 m a]
  refine OGo.st (B := s₁.setTop (mkF m 1 #[.val (.ref a)] [(.ref a)])) (fun _ k => XS.aloadN X0.here hx rfl (hb hby d2_0) rfl rfl k) ?_
  obtain ⟨T1, X1, e1, st1⟩ := getS2 X0 hx hZ hown (host := "") (Or.inl (hw _ (List.mem_of_getElem? (i := 12) rfl))) Via.refl e0 S_GAP (g := (mkF m 1 #[.val (.ref a)] [(.ref a)])) rfl (hb hby d2_1)
  refine OGo.st (B := T1.setTop (mkF m 4 #[.val (.ref a)] [(.ref w_GAP), (.ref a)])) st1 ?_
  by_cases h0 : a = w_GAP
  · skip
    refine OGo.st (B := T1.setTop (mkF m 14 #[.val (.ref a)] [])) (fun _ k => Jvm.RoadKit.acmp (g := (mkF m 4 #[.val (.ref a)] [(.ref w_GAP), (.ref a)])) X1 hx rfl rfl rfl (pc0 := 4) (pc' := 14) (same := true) rfl (hb hby d2_4) rfl (decide_eq_true (congrArg Value.ref h0)) (by decide) (by decide) k) ?_
    refine OGo.st (B := T1.setTop (mkF m 15 #[.val (.ref a)] [(.int (1 : Int32))])) (fun _ k => XS.iconst X1.here hx rfl (hb hby d2_14) k) ?_
    refine OGo.st (B := T1.setTop (mkF m 19 #[.val (.ref a)] [(.int (1 : Int32))])) (fun _ k => XS.goto X1.here hx rfl (pc0 := 15) (pc' := 19) rfl (hb hby d2_15) (by decide) (by decide) k) ?_
    exact own_retZ X1 hx hret hlk (hb hby d2_19) ⟨by rw [← hr, if_pos (Or.inl h0)]; rfl, N0, e1⟩ (by decide) (by decide)
  · skip
    refine OGo.st (B := T1.setTop (mkF m 7 #[.val (.ref a)] [])) (fun _ k => Jvm.RoadKit.acmp (g := (mkF m 4 #[.val (.ref a)] [(.ref w_GAP), (.ref a)])) X1 hx rfl rfl rfl (pc0 := 4) (pc' := 7) (same := false) rfl (hb hby d2_4) rfl (decide_eq_false fun q => h0 (Value.ref.inj q)) (by decide) (by decide) k) ?_
    refine OGo.st (B := T1.setTop (mkF m 8 #[.val (.ref a)] [(.ref a)])) (fun _ k => XS.aloadN X1.here hx rfl (hb hby d2_7) rfl rfl k) ?_
    obtain ⟨T2, X2, e2, st2⟩ := getS2 X1 hx hZ hown (host := "") (Or.inl (hw _ (List.mem_of_getElem? (i := 14) rfl))) Via.refl e1 S_NEXT_KEY (g := (mkF m 8 #[.val (.ref a)] [(.ref a)])) rfl (hb hby d2_8)
    refine OGo.st (B := T2.setTop (mkF m 11 #[.val (.ref a)] [(.ref w_NEXT_KEY), (.ref a)])) st2 ?_
    by_cases h1 : a = w_NEXT_KEY
    · skip
      refine OGo.st (B := T2.setTop (mkF m 14 #[.val (.ref a)] [])) (fun _ k => Jvm.RoadKit.acmp (g := (mkF m 11 #[.val (.ref a)] [(.ref w_NEXT_KEY), (.ref a)])) X2 hx rfl rfl rfl (pc0 := 11) (pc' := 14) (same := true) rfl (hb hby d2_11) rfl (decide_eq_true (congrArg Value.ref h1)) (by decide) (by decide) k) ?_
      refine OGo.st (B := T2.setTop (mkF m 15 #[.val (.ref a)] [(.int (1 : Int32))])) (fun _ k => XS.iconst X2.here hx rfl (hb hby d2_14) k) ?_
      refine OGo.st (B := T2.setTop (mkF m 19 #[.val (.ref a)] [(.int (1 : Int32))])) (fun _ k => XS.goto X2.here hx rfl (pc0 := 15) (pc' := 19) rfl (hb hby d2_15) (by decide) (by decide) k) ?_
      exact own_retZ X2 hx hret hlk (hb hby d2_19) ⟨by rw [← hr, if_pos (Or.inr (h1))]; rfl, N0, e2⟩ (by decide) (by decide)
    · skip
      refine OGo.st (B := T2.setTop (mkF m 18 #[.val (.ref a)] [])) (fun _ k => Jvm.RoadKit.acmp (g := (mkF m 11 #[.val (.ref a)] [(.ref w_NEXT_KEY), (.ref a)])) X2 hx rfl rfl rfl (pc0 := 11) (pc' := 18) (same := false) rfl (hb hby d2_11) rfl (decide_eq_false fun q => h1 (Value.ref.inj q)) (by decide) (by decide) k) ?_
      refine OGo.st (B := T2.setTop (mkF m 19 #[.val (.ref a)] [(.int (0 : Int32))])) (fun _ k => XS.iconst X2.here hx rfl (hb hby d2_18) k) ?_
      exact own_retZ X2 hx hret hlk (hb hby d2_19) ⟨by rw [← hr, if_neg (by simp [h0, h1])]; rfl, N0, e2⟩ (by decide) (by decide)
theorem d3_0 : decode prog_20_method_6_code 0 = .ok (.aload_n 1, 1) := by decide +kernel
theorem d3_1 : decode prog_20_method_6_code 1 = .ok (.getstatic 13, 3) := by decide +kernel
theorem d3_4 : decode prog_20_method_6_code 4 = .ok (.if_acmp .eq 19, 3) := by decide +kernel
theorem d3_7 : decode prog_20_method_6_code 7 = .ok (.aload_n 0, 1) := by decide +kernel
theorem d3_8 : decode prog_20_method_6_code 8 = .ok (.aload_n 1, 1) := by decide +kernel
theorem d3_9 : decode prog_20_method_6_code 9 = .ok (.if_acmp .eq 10, 3) := by decide +kernel
theorem d3_12 : decode prog_20_method_6_code 12 = .ok (.aload_n 0, 1) := by decide +kernel
theorem d3_13 : decode prog_20_method_6_code 13 = .ok (.getstatic 10, 3) := by decide +kernel
theorem d3_16 : decode prog_20_method_6_code 16 = .ok (.if_acmp .ne 7, 3) := by decide +kernel
theorem d3_19 : decode prog_20_method_6_code 19 = .ok (.iconst 1, 1) := by decide +kernel
theorem d3_20 : decode prog_20_method_6_code 20 = .ok (.goto 4, 3) := by decide +kernel
theorem d3_23 : decode prog_20_method_6_code 23 = .ok (.iconst 0, 1) := by decide +kernel
theorem d3_24 : decode prog_20_method_6_code 24 = .ok (.ireturn, 1) := by decide +kernel
theorem ef_rm3 (m : MethodId) (x0 : Addr) (x1 : Addr) : entryFrame m #[(.ref x0), (.ref x1)] 2 = mkF m 0 #[.val (.ref x0), .val (.ref x1)] [] := by first | (simp [entryFrame, mkF, argsToLocals, Value.category]; done) | rfl
set_option maxRecDepth 65536 in
set_option maxHeartbeats 40000000 in
theorem rm3 (l : Launch) (Z : State) (a0 : Array Value) (hw : ∀ d ∈ tables_1, d.before a0 Z = true) (a b wi wn : Addr) (r : Int32) (h0 : Heap) (n0 : Nat) (S_I : Sta Z h0 "com/example/hidden_gaps/hiddengaps/engine/LockKind" "INSERT_INTENTION" "Lcom/example/hidden_gaps/hiddengaps/engine/LockKind;" (.ref wi)) (S_N : Sta Z h0 "com/example/hidden_gaps/hiddengaps/engine/LockKind" "NEXT_KEY" "Lcom/example/hidden_gaps/hiddengaps/engine/LockKind;" (.ref wn)) (hr : (if b = wi then (0 : Int32) else if a = b then 1 else if a = wn then 1 else 0) = r) :
    OMet l Z (⟨"com/example/hidden_gaps/hiddengaps/engine/LockKind", "covers", "(Lcom/example/hidden_gaps/hiddengaps/engine/LockKind;)Z"⟩ : MethodName) prog_20_method_6_code 2 (some .boolean) [] ({ frames := 0, cells := 0, slots := 0, locals := 0 } : Room) #[(.ref a), (.ref b)] h0 (OPure (some (.int r)) h0 n0) := by
  refine OMet.of (plainFor_of_name pn_com_example_hidden_gaps_hiddengaps_engine_LockKind) ?_
  intro p e s m below meth c s₁ hx hby hml hnd hown hnm hret hlk hZ X0 e0
  replace hown : s.vm.findClass "com/example/hidden_gaps/hiddengaps/engine/LockKind" = some m.cls := hown
  replace hml : c.maxLocals = 2 := hml
  have N0 := Fr.nil n0
  rw [ef_rm3 m a b]
  refine OGo.st (B := s₁.setTop (mkF m 1 #[.val (.ref a), .val (.ref b)] [(.ref b)])) (fun _ k => XS.aloadN X0.here hx rfl (hb hby d3_0) rfl rfl k) ?_
  obtain ⟨T1, X1, e1, st1⟩ := getS2 X0 hx hZ hown (host := "") (Or.inl (hw _ (List.mem_of_getElem? (i := 22) rfl))) Via.refl e0 S_I (g := (mkF m 1 #[.val (.ref a), .val (.ref b)] [(.ref b)])) rfl (hb hby d3_1)
  refine OGo.st (B := T1.setTop (mkF m 4 #[.val (.ref a), .val (.ref b)] [(.ref wi), (.ref b)])) st1 ?_
  by_cases h1 : b = wi
  · skip
    refine OGo.st (B := T1.setTop (mkF m 23 #[.val (.ref a), .val (.ref b)] [])) (fun _ k => Jvm.RoadKit.acmp (g := (mkF m 4 #[.val (.ref a), .val (.ref b)] [(.ref wi), (.ref b)])) X1 hx rfl rfl rfl (pc0 := 4) (pc' := 23) (same := true) rfl (hb hby d3_4) rfl (decide_eq_true (congrArg Value.ref h1)) (by decide) (by decide) k) ?_
    refine OGo.st (B := T1.setTop (mkF m 24 #[.val (.ref a), .val (.ref b)] [(.int (0 : Int32))])) (fun _ k => XS.iconst X1.here hx rfl (hb hby d3_23) k) ?_
    exact own_retZ X1 hx hret hlk (hb hby d3_24) ⟨by rw [← hr]; simp [h1, nar], N0, e1⟩ (by decide) (by decide)
  · skip
    refine OGo.st (B := T1.setTop (mkF m 7 #[.val (.ref a), .val (.ref b)] [])) (fun _ k => Jvm.RoadKit.acmp (g := (mkF m 4 #[.val (.ref a), .val (.ref b)] [(.ref wi), (.ref b)])) X1 hx rfl rfl rfl (pc0 := 4) (pc' := 7) (same := false) rfl (hb hby d3_4) rfl (decide_eq_false fun q => h1 (Value.ref.inj q)) (by decide) (by decide) k) ?_
    refine OGo.st (B := T1.setTop (mkF m 8 #[.val (.ref a), .val (.ref b)] [(.ref a)])) (fun _ k => XS.aloadN X1.here hx rfl (hb hby d3_7) rfl rfl k) ?_
    refine OGo.st (B := T1.setTop (mkF m 9 #[.val (.ref a), .val (.ref b)] [(.ref b), (.ref a)])) (fun _ k => XS.aloadN X1.here hx rfl (hb hby d3_8) rfl rfl k) ?_
    by_cases h2 : a = b
    · skip
      refine OGo.st (B := T1.setTop (mkF m 19 #[.val (.ref a), .val (.ref b)] [])) (fun _ k => Jvm.RoadKit.acmp (g := (mkF m 9 #[.val (.ref a), .val (.ref b)] [(.ref b), (.ref a)])) X1 hx rfl rfl rfl (pc0 := 9) (pc' := 19) (same := true) rfl (hb hby d3_9) rfl (decide_eq_true (congrArg Value.ref h2)) (by decide) (by decide) k) ?_
      refine OGo.st (B := T1.setTop (mkF m 20 #[.val (.ref a), .val (.ref b)] [(.int (1 : Int32))])) (fun _ k => XS.iconst X1.here hx rfl (hb hby d3_19) k) ?_
      refine OGo.st (B := T1.setTop (mkF m 24 #[.val (.ref a), .val (.ref b)] [(.int (1 : Int32))])) (fun _ k => XS.goto X1.here hx rfl (pc0 := 20) (pc' := 24) rfl (hb hby d3_20) (by decide) (by decide) k) ?_
      exact own_retZ X1 hx hret hlk (hb hby d3_24) ⟨by rw [← hr]; simp [h1, h2, nar], N0, e1⟩ (by decide) (by decide)
    · skip
      refine OGo.st (B := T1.setTop (mkF m 12 #[.val (.ref a), .val (.ref b)] [])) (fun _ k => Jvm.RoadKit.acmp (g := (mkF m 9 #[.val (.ref a), .val (.ref b)] [(.ref b), (.ref a)])) X1 hx rfl rfl rfl (pc0 := 9) (pc' := 12) (same := false) rfl (hb hby d3_9) rfl (decide_eq_false fun q => h2 (Value.ref.inj q)) (by decide) (by decide) k) ?_
      refine OGo.st (B := T1.setTop (mkF m 13 #[.val (.ref a), .val (.ref b)] [(.ref a)])) (fun _ k => XS.aloadN X1.here hx rfl (hb hby d3_12) rfl rfl k) ?_
      obtain ⟨T2, X2, e2, st2⟩ := getS2 X1 hx hZ hown (host := "") (Or.inl (hw _ (List.mem_of_getElem? (i := 14) rfl))) Via.refl e1 S_N (g := (mkF m 13 #[.val (.ref a), .val (.ref b)] [(.ref a)])) rfl (hb hby d3_13)
      refine OGo.st (B := T2.setTop (mkF m 16 #[.val (.ref a), .val (.ref b)] [(.ref wn), (.ref a)])) st2 ?_
      by_cases h3 : a = wn
      · skip
        refine OGo.st (B := T2.setTop (mkF m 19 #[.val (.ref a), .val (.ref b)] [])) (fun _ k => Jvm.RoadKit.acmp (g := (mkF m 16 #[.val (.ref a), .val (.ref b)] [(.ref wn), (.ref a)])) X2 hx rfl rfl rfl (pc0 := 16) (pc' := 19) (same := true) rfl (hb hby d3_16) rfl (decide_eq_true (congrArg Value.ref h3)) (by decide) (by decide) k) ?_
        refine OGo.st (B := T2.setTop (mkF m 20 #[.val (.ref a), .val (.ref b)] [(.int (1 : Int32))])) (fun _ k => XS.iconst X2.here hx rfl (hb hby d3_19) k) ?_
        refine OGo.st (B := T2.setTop (mkF m 24 #[.val (.ref a), .val (.ref b)] [(.int (1 : Int32))])) (fun _ k => XS.goto X2.here hx rfl (pc0 := 20) (pc' := 24) rfl (hb hby d3_20) (by decide) (by decide) k) ?_
        exact own_retZ X2 hx hret hlk (hb hby d3_24) ⟨by rw [← hr]; simp [h1, h2, h3, nar], N0, e2⟩ (by decide) (by decide)
      · skip
        refine OGo.st (B := T2.setTop (mkF m 23 #[.val (.ref a), .val (.ref b)] [])) (fun _ k => Jvm.RoadKit.acmp (g := (mkF m 16 #[.val (.ref a), .val (.ref b)] [(.ref wn), (.ref a)])) X2 hx rfl rfl rfl (pc0 := 16) (pc' := 23) (same := false) rfl (hb hby d3_16) rfl (decide_eq_false fun q => h3 (Value.ref.inj q)) (by decide) (by decide) k) ?_
        refine OGo.st (B := T2.setTop (mkF m 24 #[.val (.ref a), .val (.ref b)] [(.int (0 : Int32))])) (fun _ k => XS.iconst X2.here hx rfl (hb hby d3_23) k) ?_
        exact own_retZ X2 hx hret hlk (hb hby d3_24) ⟨by rw [← hr]; simp [h1, h2, h3, nar], N0, e2⟩ (by decide) (by decide)
theorem pd_0 : parseMethodDescriptor "(I)Lcom/example/hidden_gaps/hiddengaps/engine/LockKind;" = some ⟨[.int], some (.object "com/example/hidden_gaps/hiddengaps/engine/LockKind")⟩ := by decide +kernel
theorem pd_1 : parseMethodDescriptor "()Z" = some ⟨[], some .boolean⟩ := by decide +kernel
theorem pd_2 : parseMethodDescriptor "(Lcom/example/hidden_gaps/hiddengaps/engine/LockKind;)Z" = some ⟨[(.object "com/example/hidden_gaps/hiddengaps/engine/LockKind")], some .boolean⟩ := by decide +kernel
theorem ef_rm0 (m : MethodId) (x0 : Int32) : entryFrame m #[(.int x0)] maxLocals = mkF m 0 #[.val (.int x0), .unset, .unset, .unset, .unset] [] := by first | (simp [entryFrame, mkF, argsToLocals, Value.category, maxLocals]; done) | rfl
set_option maxRecDepth 65536 in
set_option maxHeartbeats 40000000 in
theorem rm0 (l : Launch) (Z : State) (a0 : Array Value) (hw : ∀ d ∈ tables_1, d.before a0 Z = true) (p1 : Int32) (w_RECORD w_GAP w_NEXT_KEY w_INSERT_INTENTION : Addr) (h0 : Heap) (n0 : Nat) (S_RECORD : Sta Z h0 "com/example/hidden_gaps/hiddengaps/engine/LockKind" "RECORD" "Lcom/example/hidden_gaps/hiddengaps/engine/LockKind;" (.ref w_RECORD)) (S_GAP : Sta Z h0 "com/example/hidden_gaps/hiddengaps/engine/LockKind" "GAP" "Lcom/example/hidden_gaps/hiddengaps/engine/LockKind;" (.ref w_GAP)) (S_NEXT_KEY : Sta Z h0 "com/example/hidden_gaps/hiddengaps/engine/LockKind" "NEXT_KEY" "Lcom/example/hidden_gaps/hiddengaps/engine/LockKind;" (.ref w_NEXT_KEY)) (S_INSERT_INTENTION : Sta Z h0 "com/example/hidden_gaps/hiddengaps/engine/LockKind" "INSERT_INTENTION" "Lcom/example/hidden_gaps/hiddengaps/engine/LockKind;" (.ref w_INSERT_INTENTION)) (E_RECORD : Exa Z h0 w_RECORD "com/example/hidden_gaps/hiddengaps/engine/LockKind") (E_GAP : Exa Z h0 w_GAP "com/example/hidden_gaps/hiddengaps/engine/LockKind") (E_NEXT_KEY : Exa Z h0 w_NEXT_KEY "com/example/hidden_gaps/hiddengaps/engine/LockKind") (E_INSERT_INTENTION : Exa Z h0 w_INSERT_INTENTION "com/example/hidden_gaps/hiddengaps/engine/LockKind") (n0_1 : w_RECORD ≠ w_GAP) (n0_2 : w_RECORD ≠ w_NEXT_KEY) (n0_3 : w_RECORD ≠ w_INSERT_INTENTION) (n1_0 : w_GAP ≠ w_RECORD) (n1_2 : w_GAP ≠ w_NEXT_KEY) (n1_3 : w_GAP ≠ w_INSERT_INTENTION) (n2_0 : w_NEXT_KEY ≠ w_RECORD) (n2_1 : w_NEXT_KEY ≠ w_GAP) (n2_3 : w_NEXT_KEY ≠ w_INSERT_INTENTION) (n3_0 : w_INSERT_INTENTION ≠ w_RECORD) (n3_1 : w_INSERT_INTENTION ≠ w_GAP) (n3_2 : w_INSERT_INTENTION ≠ w_NEXT_KEY) :
    OMet l Z x code maxLocals ret tables_1 room_1 #[(.int p1)] h0 (fun v _ L => v = some (.int (1 : Int32)) ∧ Fr n0 L) := by
  refine OMet.of (plainFor_of_name pn_com_example_hidden_gaps_hiddengaps_engine_LockKindCoversGapPinLaw) ?_
  intro p e s m below meth c s₁ hx hby hml hnd hown hnm hret hlk hZ X0 e0
  replace hown : s.vm.findClass "com/example/hidden_gaps/hiddengaps/engine/LockKindCoversGapPinLaw" = some m.cls := hown
  replace hml : c.maxLocals = 5 := hml
  have N0 := Fr.nil n0
  replace hret : meth.sig.returnType = some .boolean := hret
  rw [ef_rm0 m p1]
  refine OGo.st (B := s₁.setTop (mkF m 1 #[.val (.int p1), .unset, .unset, .unset, .unset] [(.int p1)])) (fun _ k => XS.iloadN X0.here hx rfl (hb hby at_0) rfl k) ?_
  refine OGo.st (B := s₁.setTop (mkF m 2 #[.val (.int p1), .unset, .unset, .unset, .unset] [(.int (3 : Int32)), (.int p1)])) (fun _ k => XS.iconst X0.here hx rfl (hb hby at_1) k) ?_
  refine OGo.st (B := s₁.setTop (mkF m 3 #[.val (.int p1), .unset, .unset, .unset, .unset] [(.int (p1 &&& (3 : Int32)))])) (fun _ k => XS.iand X0.here hx rfl (hb hby at_2) rfl k) ?_
  refine OGo.st (B := s₁.setTop (mkF m 4 #[.val (.int p1), .val (.int (p1 &&& (3 : Int32))), .unset, .unset, .unset] [])) (fun _ k => XS.istoreN X0.here hx rfl (hb hby at_3) rfl (l' := #[.val (.int p1), .val (.int (p1 &&& (3 : Int32))), .unset, .unset, .unset]) rfl k) ?_
  refine OGo.st (B := s₁.setTop (mkF m 5 #[.val (.int p1), .val (.int (p1 &&& (3 : Int32))), .unset, .unset, .unset] [(.int (p1 &&& (3 : Int32)))])) (fun _ k => XS.iloadN X0.here hx rfl (hb hby at_4) rfl k) ?_
  rcases own_and3 p1 with hk | hk | hk | hk
  · skip
    rw [hk]
    obtain ⟨v1, T1, L1, X1, hQ1, st1⟩ := (rm1_0 l Z a0 hw w_RECORD h0 n0 S_RECORD).static (W := 0) X0 hx hZ hown (hw _ (List.mem_of_getElem? (i := 0) rfl)) (hw _ (List.mem_of_getElem? (i := 1) rfl)) (hw _ (List.mem_of_getElem? (i := 2) rfl)) (hw _ (List.mem_of_getElem? (i := 3) rfl)) (by decide) (by decide) (by decide) e0 (by decide) (by decide) (g := (mkF m 5 #[.val (.int p1), .val (.int (0 : Int32)), .unset, .unset, .unset] [(.int (0 : Int32))])) rfl (by rw [hml]; rfl) (argsL := [(.int (0 : Int32))]) (rest := []) rfl (lenOf pd_0 rfl) rfl (by show 2 * 0 + _ ≤ _; exact Nat.le_of_eq rfl) (hb hby at_5)
    obtain ⟨rfl, N1q, e1⟩ := hQ1
    have N1 := Fr.app N0 N1q
    refine OGo.st (B := T1.setTop (mkF m 8 #[.val (.int p1), .val (.int (0 : Int32)), .unset, .unset, .unset] [(.ref w_RECORD)])) st1 ?_
    refine OGo.st (B := T1.setTop (mkF m 9 #[.val (.int p1), .val (.int (0 : Int32)), .val (.ref w_RECORD), .unset, .unset] [])) (fun _ k => XS.astoreN X1.here hx rfl (hb hby at_8) rfl rfl (l' := #[.val (.int p1), .val (.int (0 : Int32)), .val (.ref w_RECORD), .unset, .unset]) rfl k) ?_
    refine OGo.st (B := T1.setTop (mkF m 10 #[.val (.int p1), .val (.int (0 : Int32)), .val (.ref w_RECORD), .unset, .unset] [(.int (0 : Int32))])) (fun _ k => XS.iloadN X1.here hx rfl (hb hby at_9) rfl k) ?_
    refine OGo.st (B := T1.setTop (mkF m 11 #[.val (.int p1), .val (.int (0 : Int32)), .val (.ref w_RECORD), .unset, .unset] [(.int (1 : Int32)), (.int (0 : Int32))])) (fun _ k => XS.iconst X1.here hx rfl (hb hby at_10) k) ?_
    refine OGo.st (B := T1.setTop (mkF m 14 #[.val (.int p1), .val (.int (0 : Int32)), .val (.ref w_RECORD), .unset, .unset] [])) (fun _ k => XS.icmpNo X1.here hx rfl (hb hby at_11) rfl (by decide) k) ?_
    refine OGo.st (B := T1.setTop (mkF m 15 #[.val (.int p1), .val (.int (0 : Int32)), .val (.ref w_RECORD), .unset, .unset] [(.int (0 : Int32))])) (fun _ k => XS.iloadN X1.here hx rfl (hb hby at_14) rfl k) ?_
    refine OGo.st (B := T1.setTop (mkF m 16 #[.val (.int p1), .val (.int (0 : Int32)), .val (.ref w_RECORD), .unset, .unset] [(.int (2 : Int32)), (.int (0 : Int32))])) (fun _ k => XS.iconst X1.here hx rfl (hb hby at_15) k) ?_
    refine OGo.st (B := T1.setTop (mkF m 23 #[.val (.int p1), .val (.int (0 : Int32)), .val (.ref w_RECORD), .unset, .unset] [])) (fun _ k => XS.icmpYes X1.here hx rfl (pc0 := 16) (pc' := 23) rfl (hb hby at_16) rfl (by decide) (by decide) (by decide) k) ?_
    refine OGo.st (B := T1.setTop (mkF m 24 #[.val (.int p1), .val (.int (0 : Int32)), .val (.ref w_RECORD), .unset, .unset] [(.int (0 : Int32))])) (fun _ k => XS.iconst X1.here hx rfl (hb hby at_23) k) ?_
    refine OGo.st (B := T1.setTop (mkF m 25 #[.val (.int p1), .val (.int (0 : Int32)), .val (.ref w_RECORD), .val (.int (0 : Int32)), .unset] [])) (fun _ k => XS.istoreN X1.here hx rfl (hb hby at_24) rfl (l' := #[.val (.int p1), .val (.int (0 : Int32)), .val (.ref w_RECORD), .val (.int (0 : Int32)), .unset]) rfl k) ?_
    refine OGo.st (B := T1.setTop (mkF m 26 #[.val (.int p1), .val (.int (0 : Int32)), .val (.ref w_RECORD), .val (.int (0 : Int32)), .unset] [(.ref w_RECORD)])) (fun _ k => XS.aloadN X1.here hx rfl (hb hby at_25) rfl rfl k) ?_
    obtain ⟨v2, T2, L2, X2, hQ2, st2⟩ := (rm2 l Z a0 hw w_RECORD w_GAP w_NEXT_KEY (0 : Int32) h0 n0 S_GAP S_NEXT_KEY (by simp [n0_1, n0_2, n0_3, n1_0, n1_2, n1_3, n2_0, n2_1, n2_3, n3_0, n3_1, n3_2])).virt (W := 0) X1 hx hZ hown (hw _ (List.mem_of_getElem? (i := 7) rfl)) (hw _ (List.mem_of_getElem? (i := 8) rfl)) (nf_sel hZ (hw _ (List.mem_of_getElem? (i := 10) rfl))) (hw _ (List.mem_of_getElem? (i := 10) rfl)) (hw _ (List.mem_of_getElem? (i := 9) rfl)) (hw _ (List.mem_of_getElem? (i := 5) rfl)) (hw _ (List.mem_of_getElem? (i := 11) rfl)) (by decide) (by decide) (by decide) e1 (by decide) (by decide) (g := (mkF m 26 #[.val (.int p1), .val (.int (0 : Int32)), .val (.ref w_RECORD), .val (.int (0 : Int32)), .unset] [(.ref w_RECORD)])) rfl (by rw [hml]; rfl) E_RECORD (argsL := []) (rest := []) rfl (lenOf pd_1 rfl) rfl (by show 2 * 0 + _ ≤ _; exact Nat.le_of_eq rfl) (hb hby at_26)
    obtain ⟨rfl, N2q, e2⟩ := hQ2
    have N2 := Fr.app N1 N2q
    refine OGo.st (B := T2.setTop (mkF m 29 #[.val (.int p1), .val (.int (0 : Int32)), .val (.ref w_RECORD), .val (.int (0 : Int32)), .unset] [(.int (0 : Int32))])) st2 ?_
    refine OGo.st (B := T2.setTop (mkF m 31 #[.val (.int p1), .val (.int (0 : Int32)), .val (.ref w_RECORD), .val (.int (0 : Int32)), .val (.int (0 : Int32))] [])) (fun _ k => XS.istore X2.here hx rfl (hb hby at_29) rfl (l' := #[.val (.int p1), .val (.int (0 : Int32)), .val (.ref w_RECORD), .val (.int (0 : Int32)), .val (.int (0 : Int32))]) rfl k) ?_
    refine OGo.st (B := T2.setTop (mkF m 33 #[.val (.int p1), .val (.int (0 : Int32)), .val (.ref w_RECORD), .val (.int (0 : Int32)), .val (.int (0 : Int32))] [(.int (0 : Int32))])) (fun _ k => XS.iload X2.here hx rfl (hb hby at_31) rfl k) ?_
    refine OGo.st (B := T2.setTop (mkF m 34 #[.val (.int p1), .val (.int (0 : Int32)), .val (.ref w_RECORD), .val (.int (0 : Int32)), .val (.int (0 : Int32))] [(.int (0 : Int32)), (.int (0 : Int32))])) (fun _ k => XS.iloadN X2.here hx rfl (hb hby at_33) rfl k) ?_
    refine OGo.st (B := T2.setTop (mkF m 37 #[.val (.int p1), .val (.int (0 : Int32)), .val (.ref w_RECORD), .val (.int (0 : Int32)), .val (.int (0 : Int32))] [])) (fun _ k => XS.icmpNo X2.here hx rfl (hb hby at_34) rfl (by decide) k) ?_
    refine OGo.st (B := T2.setTop (mkF m 39 #[.val (.int p1), .val (.int (0 : Int32)), .val (.ref w_RECORD), .val (.int (0 : Int32)), .val (.int (0 : Int32))] [(.int (0 : Int32))])) (fun _ k => XS.iload X2.here hx rfl (hb hby at_37) rfl k) ?_
    refine OGo.st (B := T2.setTop (mkF m 40 #[.val (.int p1), .val (.int (0 : Int32)), .val (.ref w_RECORD), .val (.int (0 : Int32)), .val (.int (0 : Int32))] [(.ref w_RECORD), (.int (0 : Int32))])) (fun _ k => XS.aloadN X2.here hx rfl (hb hby at_39) rfl rfl k) ?_
    obtain ⟨T3, X3, e3, st3⟩ := getS2 X2 hx hZ hown (host := "") (Or.inl (hw _ (List.mem_of_getElem? (i := 16) rfl))) Via.refl e2 S_GAP (g := (mkF m 40 #[.val (.int p1), .val (.int (0 : Int32)), .val (.ref w_RECORD), .val (.int (0 : Int32)), .val (.int (0 : Int32))] [(.ref w_RECORD), (.int (0 : Int32))])) rfl (hb hby at_40)
    refine OGo.st (B := T3.setTop (mkF m 43 #[.val (.int p1), .val (.int (0 : Int32)), .val (.ref w_RECORD), .val (.int (0 : Int32)), .val (.int (0 : Int32))] [(.ref w_GAP), (.ref w_RECORD), (.int (0 : Int32))])) st3 ?_
    obtain ⟨v4, T4, L4, X4, hQ4, st4⟩ := (rm3 l Z a0 hw w_RECORD w_GAP w_INSERT_INTENTION w_NEXT_KEY (0 : Int32) h0 n0 S_INSERT_INTENTION S_NEXT_KEY (by simp [n0_1, n0_2, n0_3, n1_0, n1_2, n1_3, n2_0, n2_1, n2_3, n3_0, n3_1, n3_2])).virt (W := 1) X3 hx hZ hown (hw _ (List.mem_of_getElem? (i := 17) rfl)) (hw _ (List.mem_of_getElem? (i := 18) rfl)) (nf_sel hZ (hw _ (List.mem_of_getElem? (i := 20) rfl))) (hw _ (List.mem_of_getElem? (i := 20) rfl)) (hw _ (List.mem_of_getElem? (i := 19) rfl)) (hw _ (List.mem_of_getElem? (i := 5) rfl)) (hw _ (List.mem_of_getElem? (i := 21) rfl)) (by decide) (by decide) (by decide) e3 (by decide) (by decide) (g := (mkF m 43 #[.val (.int p1), .val (.int (0 : Int32)), .val (.ref w_RECORD), .val (.int (0 : Int32)), .val (.int (0 : Int32))] [(.ref w_GAP), (.ref w_RECORD), (.int (0 : Int32))])) rfl (by rw [hml]; rfl) E_RECORD (argsL := [(.ref w_GAP)]) (rest := [(.int (0 : Int32))]) rfl (lenOf pd_2 rfl) rfl (by show 2 * 0 + _ ≤ _; exact Nat.le_of_eq rfl) (hb hby at_43)
    obtain ⟨rfl, N4q, e4⟩ := hQ4
    have N4 := Fr.app N2 N4q
    refine OGo.st (B := T4.setTop (mkF m 46 #[.val (.int p1), .val (.int (0 : Int32)), .val (.ref w_RECORD), .val (.int (0 : Int32)), .val (.int (0 : Int32))] [(.int (0 : Int32)), (.int (0 : Int32))])) st4 ?_
    refine OGo.st (B := T4.setTop (mkF m 49 #[.val (.int p1), .val (.int (0 : Int32)), .val (.ref w_RECORD), .val (.int (0 : Int32)), .val (.int (0 : Int32))] [])) (fun _ k => XS.icmpNo X4.here hx rfl (hb hby at_46) rfl (by decide) k) ?_
    refine OGo.st (B := T4.setTop (mkF m 50 #[.val (.int p1), .val (.int (0 : Int32)), .val (.ref w_RECORD), .val (.int (0 : Int32)), .val (.int (0 : Int32))] [(.int (1 : Int32))])) (fun _ k => XS.iconst X4.here hx rfl (hb hby at_49) k) ?_
    refine OGo.st (B := T4.setTop (mkF m 54 #[.val (.int p1), .val (.int (0 : Int32)), .val (.ref w_RECORD), .val (.int (0 : Int32)), .val (.int (0 : Int32))] [(.int (1 : Int32))])) (fun _ k => XS.goto X4.here hx rfl (pc0 := 50) (pc' := 54) rfl (hb hby at_50) (by decide) (by decide) k) ?_
    exact own_retZ X4 hx hret hlk (hb hby at_54) ⟨rfl, N4⟩ (by decide) (by decide)
  · skip
    rw [hk]
    obtain ⟨v5, T5, L5, X5, hQ5, st5⟩ := (rm1_1 l Z a0 hw w_GAP h0 n0 S_GAP).static (W := 0) X0 hx hZ hown (hw _ (List.mem_of_getElem? (i := 0) rfl)) (hw _ (List.mem_of_getElem? (i := 1) rfl)) (hw _ (List.mem_of_getElem? (i := 2) rfl)) (hw _ (List.mem_of_getElem? (i := 3) rfl)) (by decide) (by decide) (by decide) e0 (by decide) (by decide) (g := (mkF m 5 #[.val (.int p1), .val (.int (1 : Int32)), .unset, .unset, .unset] [(.int (1 : Int32))])) rfl (by rw [hml]; rfl) (argsL := [(.int (1 : Int32))]) (rest := []) rfl (lenOf pd_0 rfl) rfl (by show 2 * 0 + _ ≤ _; exact Nat.le_of_eq rfl) (hb hby at_5)
    obtain ⟨rfl, N5q, e5⟩ := hQ5
    have N5 := Fr.app N0 N5q
    refine OGo.st (B := T5.setTop (mkF m 8 #[.val (.int p1), .val (.int (1 : Int32)), .unset, .unset, .unset] [(.ref w_GAP)])) st5 ?_
    refine OGo.st (B := T5.setTop (mkF m 9 #[.val (.int p1), .val (.int (1 : Int32)), .val (.ref w_GAP), .unset, .unset] [])) (fun _ k => XS.astoreN X5.here hx rfl (hb hby at_8) rfl rfl (l' := #[.val (.int p1), .val (.int (1 : Int32)), .val (.ref w_GAP), .unset, .unset]) rfl k) ?_
    refine OGo.st (B := T5.setTop (mkF m 10 #[.val (.int p1), .val (.int (1 : Int32)), .val (.ref w_GAP), .unset, .unset] [(.int (1 : Int32))])) (fun _ k => XS.iloadN X5.here hx rfl (hb hby at_9) rfl k) ?_
    refine OGo.st (B := T5.setTop (mkF m 11 #[.val (.int p1), .val (.int (1 : Int32)), .val (.ref w_GAP), .unset, .unset] [(.int (1 : Int32)), (.int (1 : Int32))])) (fun _ k => XS.iconst X5.here hx rfl (hb hby at_10) k) ?_
    refine OGo.st (B := T5.setTop (mkF m 19 #[.val (.int p1), .val (.int (1 : Int32)), .val (.ref w_GAP), .unset, .unset] [])) (fun _ k => XS.icmpYes X5.here hx rfl (pc0 := 11) (pc' := 19) rfl (hb hby at_11) rfl (by decide) (by decide) (by decide) k) ?_
    refine OGo.st (B := T5.setTop (mkF m 20 #[.val (.int p1), .val (.int (1 : Int32)), .val (.ref w_GAP), .unset, .unset] [(.int (1 : Int32))])) (fun _ k => XS.iconst X5.here hx rfl (hb hby at_19) k) ?_
    refine OGo.st (B := T5.setTop (mkF m 24 #[.val (.int p1), .val (.int (1 : Int32)), .val (.ref w_GAP), .unset, .unset] [(.int (1 : Int32))])) (fun _ k => XS.goto X5.here hx rfl (pc0 := 20) (pc' := 24) rfl (hb hby at_20) (by decide) (by decide) k) ?_
    refine OGo.st (B := T5.setTop (mkF m 25 #[.val (.int p1), .val (.int (1 : Int32)), .val (.ref w_GAP), .val (.int (1 : Int32)), .unset] [])) (fun _ k => XS.istoreN X5.here hx rfl (hb hby at_24) rfl (l' := #[.val (.int p1), .val (.int (1 : Int32)), .val (.ref w_GAP), .val (.int (1 : Int32)), .unset]) rfl k) ?_
    refine OGo.st (B := T5.setTop (mkF m 26 #[.val (.int p1), .val (.int (1 : Int32)), .val (.ref w_GAP), .val (.int (1 : Int32)), .unset] [(.ref w_GAP)])) (fun _ k => XS.aloadN X5.here hx rfl (hb hby at_25) rfl rfl k) ?_
    obtain ⟨v6, T6, L6, X6, hQ6, st6⟩ := (rm2 l Z a0 hw w_GAP w_GAP w_NEXT_KEY (1 : Int32) h0 n0 S_GAP S_NEXT_KEY (by simp [n0_1, n0_2, n0_3, n1_0, n1_2, n1_3, n2_0, n2_1, n2_3, n3_0, n3_1, n3_2])).virt (W := 0) X5 hx hZ hown (hw _ (List.mem_of_getElem? (i := 7) rfl)) (hw _ (List.mem_of_getElem? (i := 8) rfl)) (nf_sel hZ (hw _ (List.mem_of_getElem? (i := 10) rfl))) (hw _ (List.mem_of_getElem? (i := 10) rfl)) (hw _ (List.mem_of_getElem? (i := 9) rfl)) (hw _ (List.mem_of_getElem? (i := 5) rfl)) (hw _ (List.mem_of_getElem? (i := 11) rfl)) (by decide) (by decide) (by decide) e5 (by decide) (by decide) (g := (mkF m 26 #[.val (.int p1), .val (.int (1 : Int32)), .val (.ref w_GAP), .val (.int (1 : Int32)), .unset] [(.ref w_GAP)])) rfl (by rw [hml]; rfl) E_GAP (argsL := []) (rest := []) rfl (lenOf pd_1 rfl) rfl (by show 2 * 0 + _ ≤ _; exact Nat.le_of_eq rfl) (hb hby at_26)
    obtain ⟨rfl, N6q, e6⟩ := hQ6
    have N6 := Fr.app N5 N6q
    refine OGo.st (B := T6.setTop (mkF m 29 #[.val (.int p1), .val (.int (1 : Int32)), .val (.ref w_GAP), .val (.int (1 : Int32)), .unset] [(.int (1 : Int32))])) st6 ?_
    refine OGo.st (B := T6.setTop (mkF m 31 #[.val (.int p1), .val (.int (1 : Int32)), .val (.ref w_GAP), .val (.int (1 : Int32)), .val (.int (1 : Int32))] [])) (fun _ k => XS.istore X6.here hx rfl (hb hby at_29) rfl (l' := #[.val (.int p1), .val (.int (1 : Int32)), .val (.ref w_GAP), .val (.int (1 : Int32)), .val (.int (1 : Int32))]) rfl k) ?_
    refine OGo.st (B := T6.setTop (mkF m 33 #[.val (.int p1), .val (.int (1 : Int32)), .val (.ref w_GAP), .val (.int (1 : Int32)), .val (.int (1 : Int32))] [(.int (1 : Int32))])) (fun _ k => XS.iload X6.here hx rfl (hb hby at_31) rfl k) ?_
    refine OGo.st (B := T6.setTop (mkF m 34 #[.val (.int p1), .val (.int (1 : Int32)), .val (.ref w_GAP), .val (.int (1 : Int32)), .val (.int (1 : Int32))] [(.int (1 : Int32)), (.int (1 : Int32))])) (fun _ k => XS.iloadN X6.here hx rfl (hb hby at_33) rfl k) ?_
    refine OGo.st (B := T6.setTop (mkF m 37 #[.val (.int p1), .val (.int (1 : Int32)), .val (.ref w_GAP), .val (.int (1 : Int32)), .val (.int (1 : Int32))] [])) (fun _ k => XS.icmpNo X6.here hx rfl (hb hby at_34) rfl (by decide) k) ?_
    refine OGo.st (B := T6.setTop (mkF m 39 #[.val (.int p1), .val (.int (1 : Int32)), .val (.ref w_GAP), .val (.int (1 : Int32)), .val (.int (1 : Int32))] [(.int (1 : Int32))])) (fun _ k => XS.iload X6.here hx rfl (hb hby at_37) rfl k) ?_
    refine OGo.st (B := T6.setTop (mkF m 40 #[.val (.int p1), .val (.int (1 : Int32)), .val (.ref w_GAP), .val (.int (1 : Int32)), .val (.int (1 : Int32))] [(.ref w_GAP), (.int (1 : Int32))])) (fun _ k => XS.aloadN X6.here hx rfl (hb hby at_39) rfl rfl k) ?_
    obtain ⟨T7, X7, e7, st7⟩ := getS2 X6 hx hZ hown (host := "") (Or.inl (hw _ (List.mem_of_getElem? (i := 16) rfl))) Via.refl e6 S_GAP (g := (mkF m 40 #[.val (.int p1), .val (.int (1 : Int32)), .val (.ref w_GAP), .val (.int (1 : Int32)), .val (.int (1 : Int32))] [(.ref w_GAP), (.int (1 : Int32))])) rfl (hb hby at_40)
    refine OGo.st (B := T7.setTop (mkF m 43 #[.val (.int p1), .val (.int (1 : Int32)), .val (.ref w_GAP), .val (.int (1 : Int32)), .val (.int (1 : Int32))] [(.ref w_GAP), (.ref w_GAP), (.int (1 : Int32))])) st7 ?_
    obtain ⟨v8, T8, L8, X8, hQ8, st8⟩ := (rm3 l Z a0 hw w_GAP w_GAP w_INSERT_INTENTION w_NEXT_KEY (1 : Int32) h0 n0 S_INSERT_INTENTION S_NEXT_KEY (by simp [n0_1, n0_2, n0_3, n1_0, n1_2, n1_3, n2_0, n2_1, n2_3, n3_0, n3_1, n3_2])).virt (W := 1) X7 hx hZ hown (hw _ (List.mem_of_getElem? (i := 17) rfl)) (hw _ (List.mem_of_getElem? (i := 18) rfl)) (nf_sel hZ (hw _ (List.mem_of_getElem? (i := 20) rfl))) (hw _ (List.mem_of_getElem? (i := 20) rfl)) (hw _ (List.mem_of_getElem? (i := 19) rfl)) (hw _ (List.mem_of_getElem? (i := 5) rfl)) (hw _ (List.mem_of_getElem? (i := 21) rfl)) (by decide) (by decide) (by decide) e7 (by decide) (by decide) (g := (mkF m 43 #[.val (.int p1), .val (.int (1 : Int32)), .val (.ref w_GAP), .val (.int (1 : Int32)), .val (.int (1 : Int32))] [(.ref w_GAP), (.ref w_GAP), (.int (1 : Int32))])) rfl (by rw [hml]; rfl) E_GAP (argsL := [(.ref w_GAP)]) (rest := [(.int (1 : Int32))]) rfl (lenOf pd_2 rfl) rfl (by show 2 * 0 + _ ≤ _; exact Nat.le_of_eq rfl) (hb hby at_43)
    obtain ⟨rfl, N8q, e8⟩ := hQ8
    have N8 := Fr.app N6 N8q
    refine OGo.st (B := T8.setTop (mkF m 46 #[.val (.int p1), .val (.int (1 : Int32)), .val (.ref w_GAP), .val (.int (1 : Int32)), .val (.int (1 : Int32))] [(.int (1 : Int32)), (.int (1 : Int32))])) st8 ?_
    refine OGo.st (B := T8.setTop (mkF m 49 #[.val (.int p1), .val (.int (1 : Int32)), .val (.ref w_GAP), .val (.int (1 : Int32)), .val (.int (1 : Int32))] [])) (fun _ k => XS.icmpNo X8.here hx rfl (hb hby at_46) rfl (by decide) k) ?_
    refine OGo.st (B := T8.setTop (mkF m 50 #[.val (.int p1), .val (.int (1 : Int32)), .val (.ref w_GAP), .val (.int (1 : Int32)), .val (.int (1 : Int32))] [(.int (1 : Int32))])) (fun _ k => XS.iconst X8.here hx rfl (hb hby at_49) k) ?_
    refine OGo.st (B := T8.setTop (mkF m 54 #[.val (.int p1), .val (.int (1 : Int32)), .val (.ref w_GAP), .val (.int (1 : Int32)), .val (.int (1 : Int32))] [(.int (1 : Int32))])) (fun _ k => XS.goto X8.here hx rfl (pc0 := 50) (pc' := 54) rfl (hb hby at_50) (by decide) (by decide) k) ?_
    exact own_retZ X8 hx hret hlk (hb hby at_54) ⟨rfl, N8⟩ (by decide) (by decide)
  · skip
    rw [hk]
    obtain ⟨v9, T9, L9, X9, hQ9, st9⟩ := (rm1_2 l Z a0 hw w_NEXT_KEY h0 n0 S_NEXT_KEY).static (W := 0) X0 hx hZ hown (hw _ (List.mem_of_getElem? (i := 0) rfl)) (hw _ (List.mem_of_getElem? (i := 1) rfl)) (hw _ (List.mem_of_getElem? (i := 2) rfl)) (hw _ (List.mem_of_getElem? (i := 3) rfl)) (by decide) (by decide) (by decide) e0 (by decide) (by decide) (g := (mkF m 5 #[.val (.int p1), .val (.int (2 : Int32)), .unset, .unset, .unset] [(.int (2 : Int32))])) rfl (by rw [hml]; rfl) (argsL := [(.int (2 : Int32))]) (rest := []) rfl (lenOf pd_0 rfl) rfl (by show 2 * 0 + _ ≤ _; exact Nat.le_of_eq rfl) (hb hby at_5)
    obtain ⟨rfl, N9q, e9⟩ := hQ9
    have N9 := Fr.app N0 N9q
    refine OGo.st (B := T9.setTop (mkF m 8 #[.val (.int p1), .val (.int (2 : Int32)), .unset, .unset, .unset] [(.ref w_NEXT_KEY)])) st9 ?_
    refine OGo.st (B := T9.setTop (mkF m 9 #[.val (.int p1), .val (.int (2 : Int32)), .val (.ref w_NEXT_KEY), .unset, .unset] [])) (fun _ k => XS.astoreN X9.here hx rfl (hb hby at_8) rfl rfl (l' := #[.val (.int p1), .val (.int (2 : Int32)), .val (.ref w_NEXT_KEY), .unset, .unset]) rfl k) ?_
    refine OGo.st (B := T9.setTop (mkF m 10 #[.val (.int p1), .val (.int (2 : Int32)), .val (.ref w_NEXT_KEY), .unset, .unset] [(.int (2 : Int32))])) (fun _ k => XS.iloadN X9.here hx rfl (hb hby at_9) rfl k) ?_
    refine OGo.st (B := T9.setTop (mkF m 11 #[.val (.int p1), .val (.int (2 : Int32)), .val (.ref w_NEXT_KEY), .unset, .unset] [(.int (1 : Int32)), (.int (2 : Int32))])) (fun _ k => XS.iconst X9.here hx rfl (hb hby at_10) k) ?_
    refine OGo.st (B := T9.setTop (mkF m 14 #[.val (.int p1), .val (.int (2 : Int32)), .val (.ref w_NEXT_KEY), .unset, .unset] [])) (fun _ k => XS.icmpNo X9.here hx rfl (hb hby at_11) rfl (by decide) k) ?_
    refine OGo.st (B := T9.setTop (mkF m 15 #[.val (.int p1), .val (.int (2 : Int32)), .val (.ref w_NEXT_KEY), .unset, .unset] [(.int (2 : Int32))])) (fun _ k => XS.iloadN X9.here hx rfl (hb hby at_14) rfl k) ?_
    refine OGo.st (B := T9.setTop (mkF m 16 #[.val (.int p1), .val (.int (2 : Int32)), .val (.ref w_NEXT_KEY), .unset, .unset] [(.int (2 : Int32)), (.int (2 : Int32))])) (fun _ k => XS.iconst X9.here hx rfl (hb hby at_15) k) ?_
    refine OGo.st (B := T9.setTop (mkF m 19 #[.val (.int p1), .val (.int (2 : Int32)), .val (.ref w_NEXT_KEY), .unset, .unset] [])) (fun _ k => XS.icmpNo X9.here hx rfl (hb hby at_16) rfl (by decide) k) ?_
    refine OGo.st (B := T9.setTop (mkF m 20 #[.val (.int p1), .val (.int (2 : Int32)), .val (.ref w_NEXT_KEY), .unset, .unset] [(.int (1 : Int32))])) (fun _ k => XS.iconst X9.here hx rfl (hb hby at_19) k) ?_
    refine OGo.st (B := T9.setTop (mkF m 24 #[.val (.int p1), .val (.int (2 : Int32)), .val (.ref w_NEXT_KEY), .unset, .unset] [(.int (1 : Int32))])) (fun _ k => XS.goto X9.here hx rfl (pc0 := 20) (pc' := 24) rfl (hb hby at_20) (by decide) (by decide) k) ?_
    refine OGo.st (B := T9.setTop (mkF m 25 #[.val (.int p1), .val (.int (2 : Int32)), .val (.ref w_NEXT_KEY), .val (.int (1 : Int32)), .unset] [])) (fun _ k => XS.istoreN X9.here hx rfl (hb hby at_24) rfl (l' := #[.val (.int p1), .val (.int (2 : Int32)), .val (.ref w_NEXT_KEY), .val (.int (1 : Int32)), .unset]) rfl k) ?_
    refine OGo.st (B := T9.setTop (mkF m 26 #[.val (.int p1), .val (.int (2 : Int32)), .val (.ref w_NEXT_KEY), .val (.int (1 : Int32)), .unset] [(.ref w_NEXT_KEY)])) (fun _ k => XS.aloadN X9.here hx rfl (hb hby at_25) rfl rfl k) ?_
    obtain ⟨v10, T10, L10, X10, hQ10, st10⟩ := (rm2 l Z a0 hw w_NEXT_KEY w_GAP w_NEXT_KEY (1 : Int32) h0 n0 S_GAP S_NEXT_KEY (by simp [n0_1, n0_2, n0_3, n1_0, n1_2, n1_3, n2_0, n2_1, n2_3, n3_0, n3_1, n3_2])).virt (W := 0) X9 hx hZ hown (hw _ (List.mem_of_getElem? (i := 7) rfl)) (hw _ (List.mem_of_getElem? (i := 8) rfl)) (nf_sel hZ (hw _ (List.mem_of_getElem? (i := 10) rfl))) (hw _ (List.mem_of_getElem? (i := 10) rfl)) (hw _ (List.mem_of_getElem? (i := 9) rfl)) (hw _ (List.mem_of_getElem? (i := 5) rfl)) (hw _ (List.mem_of_getElem? (i := 11) rfl)) (by decide) (by decide) (by decide) e9 (by decide) (by decide) (g := (mkF m 26 #[.val (.int p1), .val (.int (2 : Int32)), .val (.ref w_NEXT_KEY), .val (.int (1 : Int32)), .unset] [(.ref w_NEXT_KEY)])) rfl (by rw [hml]; rfl) E_NEXT_KEY (argsL := []) (rest := []) rfl (lenOf pd_1 rfl) rfl (by show 2 * 0 + _ ≤ _; exact Nat.le_of_eq rfl) (hb hby at_26)
    obtain ⟨rfl, N10q, e10⟩ := hQ10
    have N10 := Fr.app N9 N10q
    refine OGo.st (B := T10.setTop (mkF m 29 #[.val (.int p1), .val (.int (2 : Int32)), .val (.ref w_NEXT_KEY), .val (.int (1 : Int32)), .unset] [(.int (1 : Int32))])) st10 ?_
    refine OGo.st (B := T10.setTop (mkF m 31 #[.val (.int p1), .val (.int (2 : Int32)), .val (.ref w_NEXT_KEY), .val (.int (1 : Int32)), .val (.int (1 : Int32))] [])) (fun _ k => XS.istore X10.here hx rfl (hb hby at_29) rfl (l' := #[.val (.int p1), .val (.int (2 : Int32)), .val (.ref w_NEXT_KEY), .val (.int (1 : Int32)), .val (.int (1 : Int32))]) rfl k) ?_
    refine OGo.st (B := T10.setTop (mkF m 33 #[.val (.int p1), .val (.int (2 : Int32)), .val (.ref w_NEXT_KEY), .val (.int (1 : Int32)), .val (.int (1 : Int32))] [(.int (1 : Int32))])) (fun _ k => XS.iload X10.here hx rfl (hb hby at_31) rfl k) ?_
    refine OGo.st (B := T10.setTop (mkF m 34 #[.val (.int p1), .val (.int (2 : Int32)), .val (.ref w_NEXT_KEY), .val (.int (1 : Int32)), .val (.int (1 : Int32))] [(.int (1 : Int32)), (.int (1 : Int32))])) (fun _ k => XS.iloadN X10.here hx rfl (hb hby at_33) rfl k) ?_
    refine OGo.st (B := T10.setTop (mkF m 37 #[.val (.int p1), .val (.int (2 : Int32)), .val (.ref w_NEXT_KEY), .val (.int (1 : Int32)), .val (.int (1 : Int32))] [])) (fun _ k => XS.icmpNo X10.here hx rfl (hb hby at_34) rfl (by decide) k) ?_
    refine OGo.st (B := T10.setTop (mkF m 39 #[.val (.int p1), .val (.int (2 : Int32)), .val (.ref w_NEXT_KEY), .val (.int (1 : Int32)), .val (.int (1 : Int32))] [(.int (1 : Int32))])) (fun _ k => XS.iload X10.here hx rfl (hb hby at_37) rfl k) ?_
    refine OGo.st (B := T10.setTop (mkF m 40 #[.val (.int p1), .val (.int (2 : Int32)), .val (.ref w_NEXT_KEY), .val (.int (1 : Int32)), .val (.int (1 : Int32))] [(.ref w_NEXT_KEY), (.int (1 : Int32))])) (fun _ k => XS.aloadN X10.here hx rfl (hb hby at_39) rfl rfl k) ?_
    obtain ⟨T11, X11, e11, st11⟩ := getS2 X10 hx hZ hown (host := "") (Or.inl (hw _ (List.mem_of_getElem? (i := 16) rfl))) Via.refl e10 S_GAP (g := (mkF m 40 #[.val (.int p1), .val (.int (2 : Int32)), .val (.ref w_NEXT_KEY), .val (.int (1 : Int32)), .val (.int (1 : Int32))] [(.ref w_NEXT_KEY), (.int (1 : Int32))])) rfl (hb hby at_40)
    refine OGo.st (B := T11.setTop (mkF m 43 #[.val (.int p1), .val (.int (2 : Int32)), .val (.ref w_NEXT_KEY), .val (.int (1 : Int32)), .val (.int (1 : Int32))] [(.ref w_GAP), (.ref w_NEXT_KEY), (.int (1 : Int32))])) st11 ?_
    obtain ⟨v12, T12, L12, X12, hQ12, st12⟩ := (rm3 l Z a0 hw w_NEXT_KEY w_GAP w_INSERT_INTENTION w_NEXT_KEY (1 : Int32) h0 n0 S_INSERT_INTENTION S_NEXT_KEY (by simp [n0_1, n0_2, n0_3, n1_0, n1_2, n1_3, n2_0, n2_1, n2_3, n3_0, n3_1, n3_2])).virt (W := 1) X11 hx hZ hown (hw _ (List.mem_of_getElem? (i := 17) rfl)) (hw _ (List.mem_of_getElem? (i := 18) rfl)) (nf_sel hZ (hw _ (List.mem_of_getElem? (i := 20) rfl))) (hw _ (List.mem_of_getElem? (i := 20) rfl)) (hw _ (List.mem_of_getElem? (i := 19) rfl)) (hw _ (List.mem_of_getElem? (i := 5) rfl)) (hw _ (List.mem_of_getElem? (i := 21) rfl)) (by decide) (by decide) (by decide) e11 (by decide) (by decide) (g := (mkF m 43 #[.val (.int p1), .val (.int (2 : Int32)), .val (.ref w_NEXT_KEY), .val (.int (1 : Int32)), .val (.int (1 : Int32))] [(.ref w_GAP), (.ref w_NEXT_KEY), (.int (1 : Int32))])) rfl (by rw [hml]; rfl) E_NEXT_KEY (argsL := [(.ref w_GAP)]) (rest := [(.int (1 : Int32))]) rfl (lenOf pd_2 rfl) rfl (by show 2 * 0 + _ ≤ _; exact Nat.le_of_eq rfl) (hb hby at_43)
    obtain ⟨rfl, N12q, e12⟩ := hQ12
    have N12 := Fr.app N10 N12q
    refine OGo.st (B := T12.setTop (mkF m 46 #[.val (.int p1), .val (.int (2 : Int32)), .val (.ref w_NEXT_KEY), .val (.int (1 : Int32)), .val (.int (1 : Int32))] [(.int (1 : Int32)), (.int (1 : Int32))])) st12 ?_
    refine OGo.st (B := T12.setTop (mkF m 49 #[.val (.int p1), .val (.int (2 : Int32)), .val (.ref w_NEXT_KEY), .val (.int (1 : Int32)), .val (.int (1 : Int32))] [])) (fun _ k => XS.icmpNo X12.here hx rfl (hb hby at_46) rfl (by decide) k) ?_
    refine OGo.st (B := T12.setTop (mkF m 50 #[.val (.int p1), .val (.int (2 : Int32)), .val (.ref w_NEXT_KEY), .val (.int (1 : Int32)), .val (.int (1 : Int32))] [(.int (1 : Int32))])) (fun _ k => XS.iconst X12.here hx rfl (hb hby at_49) k) ?_
    refine OGo.st (B := T12.setTop (mkF m 54 #[.val (.int p1), .val (.int (2 : Int32)), .val (.ref w_NEXT_KEY), .val (.int (1 : Int32)), .val (.int (1 : Int32))] [(.int (1 : Int32))])) (fun _ k => XS.goto X12.here hx rfl (pc0 := 50) (pc' := 54) rfl (hb hby at_50) (by decide) (by decide) k) ?_
    exact own_retZ X12 hx hret hlk (hb hby at_54) ⟨rfl, N12⟩ (by decide) (by decide)
  · skip
    rw [hk]
    obtain ⟨v13, T13, L13, X13, hQ13, st13⟩ := (rm1_3 l Z a0 hw w_INSERT_INTENTION h0 n0 S_INSERT_INTENTION).static (W := 0) X0 hx hZ hown (hw _ (List.mem_of_getElem? (i := 0) rfl)) (hw _ (List.mem_of_getElem? (i := 1) rfl)) (hw _ (List.mem_of_getElem? (i := 2) rfl)) (hw _ (List.mem_of_getElem? (i := 3) rfl)) (by decide) (by decide) (by decide) e0 (by decide) (by decide) (g := (mkF m 5 #[.val (.int p1), .val (.int (3 : Int32)), .unset, .unset, .unset] [(.int (3 : Int32))])) rfl (by rw [hml]; rfl) (argsL := [(.int (3 : Int32))]) (rest := []) rfl (lenOf pd_0 rfl) rfl (by show 2 * 0 + _ ≤ _; exact Nat.le_of_eq rfl) (hb hby at_5)
    obtain ⟨rfl, N13q, e13⟩ := hQ13
    have N13 := Fr.app N0 N13q
    refine OGo.st (B := T13.setTop (mkF m 8 #[.val (.int p1), .val (.int (3 : Int32)), .unset, .unset, .unset] [(.ref w_INSERT_INTENTION)])) st13 ?_
    refine OGo.st (B := T13.setTop (mkF m 9 #[.val (.int p1), .val (.int (3 : Int32)), .val (.ref w_INSERT_INTENTION), .unset, .unset] [])) (fun _ k => XS.astoreN X13.here hx rfl (hb hby at_8) rfl rfl (l' := #[.val (.int p1), .val (.int (3 : Int32)), .val (.ref w_INSERT_INTENTION), .unset, .unset]) rfl k) ?_
    refine OGo.st (B := T13.setTop (mkF m 10 #[.val (.int p1), .val (.int (3 : Int32)), .val (.ref w_INSERT_INTENTION), .unset, .unset] [(.int (3 : Int32))])) (fun _ k => XS.iloadN X13.here hx rfl (hb hby at_9) rfl k) ?_
    refine OGo.st (B := T13.setTop (mkF m 11 #[.val (.int p1), .val (.int (3 : Int32)), .val (.ref w_INSERT_INTENTION), .unset, .unset] [(.int (1 : Int32)), (.int (3 : Int32))])) (fun _ k => XS.iconst X13.here hx rfl (hb hby at_10) k) ?_
    refine OGo.st (B := T13.setTop (mkF m 14 #[.val (.int p1), .val (.int (3 : Int32)), .val (.ref w_INSERT_INTENTION), .unset, .unset] [])) (fun _ k => XS.icmpNo X13.here hx rfl (hb hby at_11) rfl (by decide) k) ?_
    refine OGo.st (B := T13.setTop (mkF m 15 #[.val (.int p1), .val (.int (3 : Int32)), .val (.ref w_INSERT_INTENTION), .unset, .unset] [(.int (3 : Int32))])) (fun _ k => XS.iloadN X13.here hx rfl (hb hby at_14) rfl k) ?_
    refine OGo.st (B := T13.setTop (mkF m 16 #[.val (.int p1), .val (.int (3 : Int32)), .val (.ref w_INSERT_INTENTION), .unset, .unset] [(.int (2 : Int32)), (.int (3 : Int32))])) (fun _ k => XS.iconst X13.here hx rfl (hb hby at_15) k) ?_
    refine OGo.st (B := T13.setTop (mkF m 23 #[.val (.int p1), .val (.int (3 : Int32)), .val (.ref w_INSERT_INTENTION), .unset, .unset] [])) (fun _ k => XS.icmpYes X13.here hx rfl (pc0 := 16) (pc' := 23) rfl (hb hby at_16) rfl (by decide) (by decide) (by decide) k) ?_
    refine OGo.st (B := T13.setTop (mkF m 24 #[.val (.int p1), .val (.int (3 : Int32)), .val (.ref w_INSERT_INTENTION), .unset, .unset] [(.int (0 : Int32))])) (fun _ k => XS.iconst X13.here hx rfl (hb hby at_23) k) ?_
    refine OGo.st (B := T13.setTop (mkF m 25 #[.val (.int p1), .val (.int (3 : Int32)), .val (.ref w_INSERT_INTENTION), .val (.int (0 : Int32)), .unset] [])) (fun _ k => XS.istoreN X13.here hx rfl (hb hby at_24) rfl (l' := #[.val (.int p1), .val (.int (3 : Int32)), .val (.ref w_INSERT_INTENTION), .val (.int (0 : Int32)), .unset]) rfl k) ?_
    refine OGo.st (B := T13.setTop (mkF m 26 #[.val (.int p1), .val (.int (3 : Int32)), .val (.ref w_INSERT_INTENTION), .val (.int (0 : Int32)), .unset] [(.ref w_INSERT_INTENTION)])) (fun _ k => XS.aloadN X13.here hx rfl (hb hby at_25) rfl rfl k) ?_
    obtain ⟨v14, T14, L14, X14, hQ14, st14⟩ := (rm2 l Z a0 hw w_INSERT_INTENTION w_GAP w_NEXT_KEY (0 : Int32) h0 n0 S_GAP S_NEXT_KEY (by simp [n0_1, n0_2, n0_3, n1_0, n1_2, n1_3, n2_0, n2_1, n2_3, n3_0, n3_1, n3_2])).virt (W := 0) X13 hx hZ hown (hw _ (List.mem_of_getElem? (i := 7) rfl)) (hw _ (List.mem_of_getElem? (i := 8) rfl)) (nf_sel hZ (hw _ (List.mem_of_getElem? (i := 10) rfl))) (hw _ (List.mem_of_getElem? (i := 10) rfl)) (hw _ (List.mem_of_getElem? (i := 9) rfl)) (hw _ (List.mem_of_getElem? (i := 5) rfl)) (hw _ (List.mem_of_getElem? (i := 11) rfl)) (by decide) (by decide) (by decide) e13 (by decide) (by decide) (g := (mkF m 26 #[.val (.int p1), .val (.int (3 : Int32)), .val (.ref w_INSERT_INTENTION), .val (.int (0 : Int32)), .unset] [(.ref w_INSERT_INTENTION)])) rfl (by rw [hml]; rfl) E_INSERT_INTENTION (argsL := []) (rest := []) rfl (lenOf pd_1 rfl) rfl (by show 2 * 0 + _ ≤ _; exact Nat.le_of_eq rfl) (hb hby at_26)
    obtain ⟨rfl, N14q, e14⟩ := hQ14
    have N14 := Fr.app N13 N14q
    refine OGo.st (B := T14.setTop (mkF m 29 #[.val (.int p1), .val (.int (3 : Int32)), .val (.ref w_INSERT_INTENTION), .val (.int (0 : Int32)), .unset] [(.int (0 : Int32))])) st14 ?_
    refine OGo.st (B := T14.setTop (mkF m 31 #[.val (.int p1), .val (.int (3 : Int32)), .val (.ref w_INSERT_INTENTION), .val (.int (0 : Int32)), .val (.int (0 : Int32))] [])) (fun _ k => XS.istore X14.here hx rfl (hb hby at_29) rfl (l' := #[.val (.int p1), .val (.int (3 : Int32)), .val (.ref w_INSERT_INTENTION), .val (.int (0 : Int32)), .val (.int (0 : Int32))]) rfl k) ?_
    refine OGo.st (B := T14.setTop (mkF m 33 #[.val (.int p1), .val (.int (3 : Int32)), .val (.ref w_INSERT_INTENTION), .val (.int (0 : Int32)), .val (.int (0 : Int32))] [(.int (0 : Int32))])) (fun _ k => XS.iload X14.here hx rfl (hb hby at_31) rfl k) ?_
    refine OGo.st (B := T14.setTop (mkF m 34 #[.val (.int p1), .val (.int (3 : Int32)), .val (.ref w_INSERT_INTENTION), .val (.int (0 : Int32)), .val (.int (0 : Int32))] [(.int (0 : Int32)), (.int (0 : Int32))])) (fun _ k => XS.iloadN X14.here hx rfl (hb hby at_33) rfl k) ?_
    refine OGo.st (B := T14.setTop (mkF m 37 #[.val (.int p1), .val (.int (3 : Int32)), .val (.ref w_INSERT_INTENTION), .val (.int (0 : Int32)), .val (.int (0 : Int32))] [])) (fun _ k => XS.icmpNo X14.here hx rfl (hb hby at_34) rfl (by decide) k) ?_
    refine OGo.st (B := T14.setTop (mkF m 39 #[.val (.int p1), .val (.int (3 : Int32)), .val (.ref w_INSERT_INTENTION), .val (.int (0 : Int32)), .val (.int (0 : Int32))] [(.int (0 : Int32))])) (fun _ k => XS.iload X14.here hx rfl (hb hby at_37) rfl k) ?_
    refine OGo.st (B := T14.setTop (mkF m 40 #[.val (.int p1), .val (.int (3 : Int32)), .val (.ref w_INSERT_INTENTION), .val (.int (0 : Int32)), .val (.int (0 : Int32))] [(.ref w_INSERT_INTENTION), (.int (0 : Int32))])) (fun _ k => XS.aloadN X14.here hx rfl (hb hby at_39) rfl rfl k) ?_
    obtain ⟨T15, X15, e15, st15⟩ := getS2 X14 hx hZ hown (host := "") (Or.inl (hw _ (List.mem_of_getElem? (i := 16) rfl))) Via.refl e14 S_GAP (g := (mkF m 40 #[.val (.int p1), .val (.int (3 : Int32)), .val (.ref w_INSERT_INTENTION), .val (.int (0 : Int32)), .val (.int (0 : Int32))] [(.ref w_INSERT_INTENTION), (.int (0 : Int32))])) rfl (hb hby at_40)
    refine OGo.st (B := T15.setTop (mkF m 43 #[.val (.int p1), .val (.int (3 : Int32)), .val (.ref w_INSERT_INTENTION), .val (.int (0 : Int32)), .val (.int (0 : Int32))] [(.ref w_GAP), (.ref w_INSERT_INTENTION), (.int (0 : Int32))])) st15 ?_
    obtain ⟨v16, T16, L16, X16, hQ16, st16⟩ := (rm3 l Z a0 hw w_INSERT_INTENTION w_GAP w_INSERT_INTENTION w_NEXT_KEY (0 : Int32) h0 n0 S_INSERT_INTENTION S_NEXT_KEY (by simp [n0_1, n0_2, n0_3, n1_0, n1_2, n1_3, n2_0, n2_1, n2_3, n3_0, n3_1, n3_2])).virt (W := 1) X15 hx hZ hown (hw _ (List.mem_of_getElem? (i := 17) rfl)) (hw _ (List.mem_of_getElem? (i := 18) rfl)) (nf_sel hZ (hw _ (List.mem_of_getElem? (i := 20) rfl))) (hw _ (List.mem_of_getElem? (i := 20) rfl)) (hw _ (List.mem_of_getElem? (i := 19) rfl)) (hw _ (List.mem_of_getElem? (i := 5) rfl)) (hw _ (List.mem_of_getElem? (i := 21) rfl)) (by decide) (by decide) (by decide) e15 (by decide) (by decide) (g := (mkF m 43 #[.val (.int p1), .val (.int (3 : Int32)), .val (.ref w_INSERT_INTENTION), .val (.int (0 : Int32)), .val (.int (0 : Int32))] [(.ref w_GAP), (.ref w_INSERT_INTENTION), (.int (0 : Int32))])) rfl (by rw [hml]; rfl) E_INSERT_INTENTION (argsL := [(.ref w_GAP)]) (rest := [(.int (0 : Int32))]) rfl (lenOf pd_2 rfl) rfl (by show 2 * 0 + _ ≤ _; exact Nat.le_of_eq rfl) (hb hby at_43)
    obtain ⟨rfl, N16q, e16⟩ := hQ16
    have N16 := Fr.app N14 N16q
    refine OGo.st (B := T16.setTop (mkF m 46 #[.val (.int p1), .val (.int (3 : Int32)), .val (.ref w_INSERT_INTENTION), .val (.int (0 : Int32)), .val (.int (0 : Int32))] [(.int (0 : Int32)), (.int (0 : Int32))])) st16 ?_
    refine OGo.st (B := T16.setTop (mkF m 49 #[.val (.int p1), .val (.int (3 : Int32)), .val (.ref w_INSERT_INTENTION), .val (.int (0 : Int32)), .val (.int (0 : Int32))] [])) (fun _ k => XS.icmpNo X16.here hx rfl (hb hby at_46) rfl (by decide) k) ?_
    refine OGo.st (B := T16.setTop (mkF m 50 #[.val (.int p1), .val (.int (3 : Int32)), .val (.ref w_INSERT_INTENTION), .val (.int (0 : Int32)), .val (.int (0 : Int32))] [(.int (1 : Int32))])) (fun _ k => XS.iconst X16.here hx rfl (hb hby at_49) k) ?_
    refine OGo.st (B := T16.setTop (mkF m 54 #[.val (.int p1), .val (.int (3 : Int32)), .val (.ref w_INSERT_INTENTION), .val (.int (0 : Int32)), .val (.int (0 : Int32))] [(.int (1 : Int32))])) (fun _ k => XS.goto X16.here hx rfl (pc0 := 50) (pc' := 54) rfl (hb hby at_50) (by decide) (by decide) k) ?_
    exact own_retZ X16 hx hret hlk (hb hby at_54) ⟨rfl, N16⟩ (by decide) (by decide)
set_option maxRecDepth 65536 in
set_option maxHeartbeats 40000000 in
theorem comes_1 {Post : Tables → Env → Array Value → State → Outcome → State → Prop} (hpost : ∀ tb e args s v u, (limb_1_1.after args s (.returned v) u = true ∧ limb_1_2.after args s (.returned v) u = true ∧ True) → FrameEnd s (.returned v) u (Jvm.fieldLocs frame_1_writes args s ++ Jvm.arrayLocs frame_1_arrays args s ++ Jvm.staticLocs frame_1_statics s) 0 0 → Post tb e args s (.returned v) u) :
    ArmFor flags0 classFile x code maxLocals ret World_1 tables_1 room_1 Calls_1 rest_1 Pre_1 Post := by
  intro l hfl _ _ p e ha hc hk s m args below hf hA hF happ hP
  obtain ⟨hcalls, hrest, hpre⟩ := hP
  obtain ⟨-, -, -, hnamed, -, -, -, hat⟩ := (Spec.applies_iff hf).mp happ
  obtain ⟨hg, hn⟩ := and_e (Cond.before_iff.mp (show (Jvm.Cond.and given_1 narrow_1).before args s = true from hpre))
  obtain ⟨q1, q2⟩ := and_e hg
  obtain ⟨w0, rfl⟩ : ∃ w0 : Value, args = #[w0] := by
    have hs : args.size = 1 := by simpa [Cond.value, given_1] using q1
    obtain ⟨L⟩ := args
    match L, hs with
    | [w0], _ => exact ⟨w0, rfl⟩
  have hw := fun d (hd : d ∈ tables_1) => atoms_spec (ws := Jvm.Cond.code x code maxLocals ret :: tables_1) hat d (List.mem_cons_of_mem _ hd)
  obtain ⟨i0, ei0⟩ := is_v q2
  obtain rfl : w0 = (.int i0) := Option.some.inj ei0
  obtain ⟨q3, q4⟩ := and_e hn
  obtain ⟨q5, q6⟩ := and_e q4
  obtain ⟨q7, q8⟩ := and_e q6
  obtain ⟨q9, q10⟩ := and_e q8
  obtain ⟨q11, q12⟩ := and_e q10
  obtain ⟨q13, q14⟩ := and_e q12
  obtain ⟨q15, q16⟩ := and_e q14
  obtain ⟨u_RECORD, ev_RECORD, S_RECORD, E_RECORD⟩ := own_sta (t := ("com/example/hidden_gaps/hiddengaps/engine/LockKind", "RECORD", "Lcom/example/hidden_gaps/hiddengaps/engine/LockKind;")) q3 (hw _ (List.mem_of_getElem? (i := 5) rfl)) (hw _ (List.mem_of_getElem? (i := 6) rfl))
  replace S_RECORD : Sta s s.heap "com/example/hidden_gaps/hiddengaps/engine/LockKind" "RECORD" "Lcom/example/hidden_gaps/hiddengaps/engine/LockKind;" (.ref u_RECORD) := S_RECORD
  obtain ⟨u_GAP, ev_GAP, S_GAP, E_GAP⟩ := own_sta (t := ("com/example/hidden_gaps/hiddengaps/engine/LockKind", "GAP", "Lcom/example/hidden_gaps/hiddengaps/engine/LockKind;")) q5 (hw _ (List.mem_of_getElem? (i := 5) rfl)) (hw _ (List.mem_of_getElem? (i := 13) rfl))
  replace S_GAP : Sta s s.heap "com/example/hidden_gaps/hiddengaps/engine/LockKind" "GAP" "Lcom/example/hidden_gaps/hiddengaps/engine/LockKind;" (.ref u_GAP) := S_GAP
  obtain ⟨u_NEXT_KEY, ev_NEXT_KEY, S_NEXT_KEY, E_NEXT_KEY⟩ := own_sta (t := ("com/example/hidden_gaps/hiddengaps/engine/LockKind", "NEXT_KEY", "Lcom/example/hidden_gaps/hiddengaps/engine/LockKind;")) q11 (hw _ (List.mem_of_getElem? (i := 5) rfl)) (hw _ (List.mem_of_getElem? (i := 15) rfl))
  replace S_NEXT_KEY : Sta s s.heap "com/example/hidden_gaps/hiddengaps/engine/LockKind" "NEXT_KEY" "Lcom/example/hidden_gaps/hiddengaps/engine/LockKind;" (.ref u_NEXT_KEY) := S_NEXT_KEY
  obtain ⟨u_INSERT_INTENTION, ev_INSERT_INTENTION, S_INSERT_INTENTION, E_INSERT_INTENTION⟩ := own_sta (t := ("com/example/hidden_gaps/hiddengaps/engine/LockKind", "INSERT_INTENTION", "Lcom/example/hidden_gaps/hiddengaps/engine/LockKind;")) q15 (hw _ (List.mem_of_getElem? (i := 5) rfl)) (hw _ (List.mem_of_getElem? (i := 23) rfl))
  replace S_INSERT_INTENTION : Sta s s.heap "com/example/hidden_gaps/hiddengaps/engine/LockKind" "INSERT_INTENTION" "Lcom/example/hidden_gaps/hiddengaps/engine/LockKind;" (.ref u_INSERT_INTENTION) := S_INSERT_INTENTION
  have O_RECORD := own_ord ev_RECORD q7
  have O_GAP := own_ord ev_GAP q9
  have O_NEXT_KEY := own_ord ev_NEXT_KEY q13
  have O_INSERT_INTENTION := own_ord ev_INSERT_INTENTION q16
  have n0_1 : u_RECORD ≠ u_GAP := Fld.ne O_RECORD O_GAP (by decide)
  have n0_2 : u_RECORD ≠ u_NEXT_KEY := Fld.ne O_RECORD O_NEXT_KEY (by decide)
  have n0_3 : u_RECORD ≠ u_INSERT_INTENTION := Fld.ne O_RECORD O_INSERT_INTENTION (by decide)
  have n1_0 : u_GAP ≠ u_RECORD := Fld.ne O_GAP O_RECORD (by decide)
  have n1_2 : u_GAP ≠ u_NEXT_KEY := Fld.ne O_GAP O_NEXT_KEY (by decide)
  have n1_3 : u_GAP ≠ u_INSERT_INTENTION := Fld.ne O_GAP O_INSERT_INTENTION (by decide)
  have n2_0 : u_NEXT_KEY ≠ u_RECORD := Fld.ne O_NEXT_KEY O_RECORD (by decide)
  have n2_1 : u_NEXT_KEY ≠ u_GAP := Fld.ne O_NEXT_KEY O_GAP (by decide)
  have n2_3 : u_NEXT_KEY ≠ u_INSERT_INTENTION := Fld.ne O_NEXT_KEY O_INSERT_INTENTION (by decide)
  have n3_0 : u_INSERT_INTENTION ≠ u_RECORD := Fld.ne O_INSERT_INTENTION O_RECORD (by decide)
  have n3_1 : u_INSERT_INTENTION ≠ u_GAP := Fld.ne O_INSERT_INTENTION O_GAP (by decide)
  have n3_2 : u_INSERT_INTENTION ≠ u_NEXT_KEY := Fld.ne O_INSERT_INTENTION O_NEXT_KEY (by decide)
  obtain ⟨n, o, h1, h2, h3, _, L, rfl, ⟨rfl, N⟩, hq⟩ := rm0 l s _ hw i0 u_RECORD u_GAP u_NEXT_KEY u_INSERT_INTENTION s.heap s.heap.size S_RECORD S_GAP S_NEXT_KEY S_INSERT_INTENTION E_RECORD E_GAP E_NEXT_KEY E_INSERT_INTENTION n0_1 n0_2 n0_3 n1_0 n1_2 n1_3 n2_0 n2_1 n2_3 n3_0 n3_1 n3_2 p e ha hc hk s m _ below hf ((Spec.applies_iff_loose hf).mp happ).1 ⟨rfl, State.Warmed39.refl s, rfl⟩ trivial
  refine ⟨n, _, h1, h2, h3, hpost _ _ _ _ _ _ ⟨Cond.after_iff.mpr rfl, Cond.after_iff.mpr (eq_i res_at (Term.int_eval (1)) rfl), trivial⟩ ⟨hq.1, hq.2.1, (hq.2.2.sift fun y hy => Or.inr (N y hy)).mono (by decide) (by decide)⟩⟩
theorem main_1_1 : Claimed_1_1 := comes_1 fun _ _ _ _ _ _ h hF => ⟨h.1, hF⟩
theorem main_1_2 : Claimed_1_2 := comes_1 fun _ _ _ _ _ _ h hF => ⟨h.2.1, hF⟩
end Jvm.Pilot.@@N@@
namespace Jvm.Pilot.@@N@@
open Jvm Jvm.ClassFile Sem Op Lib Jvm.Free Jvm.Stand Jvm.Pilot.@@N@@.Jvm.D
/-! MADE BY PROGRAM (witnessworld.py) out of the Statement's table words and the real class files: 12 classes; the members and pool entries that the words name. The judged class is class 1, her method 2. -/
namespace start1
open Jvm.ClassFile
def u (s : String) : CpInfo := .utf8 (stringToUtf16 s)
/-- a pool by its gaps: so many unusable entries, then the entry; so many at the end -/
def gap : Nat → List CpInfo → List CpInfo
  | 0, r => r
  | n + 1, r => .unusable :: gap n r
def poolList (es : List (Nat × CpInfo)) (last : Nat) : List CpInfo := es.foldr (fun e r => gap e.1 (e.2 :: r)) (gap last [])
def pool (es : List (Nat × CpInfo)) (last : Nat) : Array CpInfo := ⟨poolList es last⟩
def fileOf (pool : Array CpInfo) (this : Nat) (attrs : Array Attribute := #[]) (ms : Array MethodInfo := #[]) (fl : Nat := 33) (sup : Nat := 0) (ifs : Array Nat := #[]) (fds : Array FieldInfo := #[]) : ClassFile where
  minorVersion := 0
  majorVersion := 65
  constantPool := pool
  accessFlags := fl
  thisClass := this
  superClass := sup
  interfaces := ifs
  fields := fds
  methods := ms
  attributes := attrs
def plain (name : String) (sup : Option ClassId) : Class where
  name := name
  kind := .ordinary
  loader := none
  accessFlags := 33
  super := sup
  interfaces := #[]
  cf := none
  fields := #[]
  methods := #[]
  instanceTypes := #[]
  staticTypes := #[]
  resolved := #[]
  callSites := []
  init := .initialized
  statics := none
  mirror := none

def pool0 : Array CpInfo := pool [(5, u "<init>"), (0, u "()V"), (1, .class_ 10), (1, u "java/lang/Object")] 113

def k0m0 : Method := { name := "<init>", desc := "()V", sig := { parameters := [], returnType := none }, accessFlags := 1, code := none }
/-- java/lang/Object -/
def k0 : Class := { plain "java/lang/Object" none with
  accessFlags := 33
  interfaces := #[]
  cf := some (fileOf pool0 8 #[] #[{ accessFlags := 1, nameIndex := 5, descriptorIndex := 6, attributes := #[] }] 33 0 #[] #[])
  fields := #[]
  methods := #[k0m0]
  instanceTypes := #[]
  staticTypes := #[]
  resolved := Array.replicate 124 none
  statics := none }

def pool1 : Array CpInfo := pool [(2, .class_ 4), (1, u "java/lang/Object"), (0, u "<init>"), (0, u "()V"), (0, .fieldref 8 9), (0, .class_ 10), (0, .nameAndType 11 12), (0, u "com/example/hidden_gaps/hiddengaps/engine/LockKind"), (0, u "RECORD"), (0, u "Lcom/example/hidden_gaps/hiddengaps/engine/LockKind;"), (0, .fieldref 8 14), (0, .nameAndType 15 12), (0, u "GAP"), (0, .fieldref 8 17), (0, .nameAndType 18 12), (0, u "NEXT_KEY"), (0, .fieldref 8 20), (0, .nameAndType 21 12), (0, u "INSERT_INTENTION"), (0, .methodref 23 24), (0, .class_ 25), (0, .nameAndType 26 27), (0, u "com/example/hidden_gaps/hiddengaps/engine/LockKindCoversGapPinLaw"), (0, u "kindOf"), (0, u "(I)Lcom/example/hidden_gaps/hiddengaps/engine/LockKind;"), (0, .methodref 8 29), (0, .nameAndType 30 31), (0, u "coversGap"), (0, u "()Z"), (0, .methodref 8 33), (0, .nameAndType 34 35), (0, u "covers"), (0, u "(Lcom/example/hidden_gaps/hiddengaps/engine/LockKind;)Z"), (3, u "law"), (0, u "(I)Z")] 2

def k1m0 : Method := { name := "<init>", desc := "()V", sig := { parameters := [], returnType := none }, accessFlags := 2, code := none }
def k1c1 : Code := { maxStack := 2, maxLocals := 1, code := method_2_code, exceptionTable := #[], attributes := #[] }
def k1m1 : Method := { name := "kindOf", desc := "(I)Lcom/example/hidden_gaps/hiddengaps/engine/LockKind;", sig := { parameters := [.int], returnType := some (.object "com/example/hidden_gaps/hiddengaps/engine/LockKind") }, accessFlags := 10, code := some k1c1 }
def k1c2 : Code := { maxStack := 3, maxLocals := 5, code := code, exceptionTable := #[], attributes := #[] }
def k1m2 : Method := { name := "law", desc := "(I)Z", sig := { parameters := [.int], returnType := some .boolean }, accessFlags := 9, code := some k1c2 }
/-- com/example/hidden_gaps/hiddengaps/engine/LockKindCoversGapPinLaw -/
def k1 : Class := { plain "com/example/hidden_gaps/hiddengaps/engine/LockKindCoversGapPinLaw" (some 0) with
  accessFlags := 49
  interfaces := #[]
  cf := some (fileOf pool1 23 #[] #[{ accessFlags := 2, nameIndex := 5, descriptorIndex := 6, attributes := #[] }, { accessFlags := 10, nameIndex := 26, descriptorIndex := 27, attributes := #[] }, { accessFlags := 9, nameIndex := 39, descriptorIndex := 40, attributes := #[] }] 49 2 #[] #[])
  fields := #[]
  methods := #[k1m0, k1m1, k1m2]
  instanceTypes := #[]
  staticTypes := #[]
  resolved := Array.replicate 43 none
  statics := none }

def pool2 : Array CpInfo := pool [(1, .class_ 2), (0, u "java/lang/constant/Constable"), (0, .class_ 4), (0, u "java/lang/Object")] 6

/-- java/lang/constant/Constable -/
def k2 : Class := { plain "java/lang/constant/Constable" (some 0) with
  accessFlags := 1537
  interfaces := #[]
  cf := some (fileOf pool2 1 #[] #[] 1537 3 #[] #[])
  fields := #[]
  methods := #[]
  instanceTypes := #[]
  staticTypes := #[]
  resolved := Array.replicate 11 none
  statics := none }

def pool3 : Array CpInfo := pool [(1, .class_ 2), (0, u "java/lang/Comparable"), (0, .class_ 4), (0, u "java/lang/Object")] 7

/-- java/lang/Comparable -/
def k3 : Class := { plain "java/lang/Comparable" (some 0) with
  accessFlags := 1537
  interfaces := #[]
  cf := some (fileOf pool3 1 #[] #[] 1537 3 #[] #[])
  fields := #[]
  methods := #[]
  instanceTypes := #[]
  staticTypes := #[]
  resolved := Array.replicate 12 none
  statics := none }

def pool4 : Array CpInfo := pool [(1, .class_ 2), (0, u "java/io/Serializable"), (0, .class_ 4), (0, u "java/lang/Object")] 2

/-- java/io/Serializable -/
def k4 : Class := { plain "java/io/Serializable" (some 0) with
  accessFlags := 1537
  interfaces := #[]
  cf := some (fileOf pool4 1 #[] #[] 1537 3 #[] #[])
  fields := #[]
  methods := #[]
  instanceTypes := #[]
  staticTypes := #[]
  resolved := Array.replicate 7 none
  statics := none }

def pool5 : Array CpInfo := pool [(2, .class_ 4), (1, u "java/lang/Enum"), (0, u "name"), (0, u "Ljava/lang/String;"), (2, u "ordinal"), (0, u "I"), (1, .class_ 14), (1, u "java/lang/Object"), (4, u "hash"), (86, .class_ 108), (1, u "java/lang/Enum$EnumDesc"), (2, .class_ 112), (0, u "java/lang/constant/Constable"), (0, .class_ 114), (0, u "java/lang/Comparable"), (0, .class_ 116), (0, u "java/io/Serializable")] 87

/-- java/lang/Enum -/
def k5 : Class := { plain "java/lang/Enum" (some 0) with
  accessFlags := 1057
  interfaces := #[2, 3, 4]
  cf := some (fileOf pool5 2 #[.nestMembers #[106]] #[] 1057 12 #[111, 113, 115] #[{ accessFlags := 18, nameIndex := 5, descriptorIndex := 6, attributes := #[] }, { accessFlags := 18, nameIndex := 9, descriptorIndex := 10, attributes := #[] }, { accessFlags := 2, nameIndex := 19, descriptorIndex := 10, attributes := #[] }])
  fields := #[{ name := "name", type := (.object "java/lang/String"), accessFlags := 18, slot := 0, constantValue := 0 }, { name := "ordinal", type := .int, accessFlags := 18, slot := 1, constantValue := 0 }, { name := "hash", type := .int, accessFlags := 2, slot := 2, constantValue := 0 }]
  methods := #[]
  instanceTypes := #[(.object "java/lang/String"), .int, .int]
  staticTypes := #[]
  resolved := Array.replicate 204 none
  statics := none }

def pool6 : Array CpInfo := pool [(1, .class_ 2), (0, u "com/example/hidden_gaps/hiddengaps/engine/LockKind"), (2, u "RECORD"), (0, u "Lcom/example/hidden_gaps/hiddengaps/engine/LockKind;"), (0, .fieldref 1 8), (0, .nameAndType 9 6), (0, u "GAP"), (0, .fieldref 1 11), (0, .nameAndType 12 6), (0, u "NEXT_KEY"), (0, .fieldref 1 14), (0, .nameAndType 15 6), (0, u "INSERT_INTENTION"), (2, u "$VALUES"), (0, u "[Lcom/example/hidden_gaps/hiddengaps/engine/LockKind;"), (6, .class_ 28), (1, u "java/lang/Enum"), (23, u "()Z"), (1, u "coversGap"), (0, u "covers"), (0, u "(Lcom/example/hidden_gaps/hiddengaps/engine/LockKind;)Z")] 4

def k6c0 : Code := { maxStack := 2, maxLocals := 1, code := prog_20_method_5_code, exceptionTable := #[], attributes := #[] }
def k6m0 : Method := { name := "coversGap", desc := "()Z", sig := { parameters := [], returnType := some .boolean }, accessFlags := 0, code := some k6c0 }
def k6c1 : Code := { maxStack := 2, maxLocals := 2, code := prog_20_method_6_code, exceptionTable := #[], attributes := #[] }
def k6m1 : Method := { name := "covers", desc := "(Lcom/example/hidden_gaps/hiddengaps/engine/LockKind;)Z", sig := { parameters := [(.object "com/example/hidden_gaps/hiddengaps/engine/LockKind")], returnType := some .boolean }, accessFlags := 0, code := some k6c1 }
/-- com/example/hidden_gaps/hiddengaps/engine/LockKind -/
def k6 : Class := { plain "com/example/hidden_gaps/hiddengaps/engine/LockKind" (some 5) with
  accessFlags := 16432
  interfaces := #[]
  cf := some (fileOf pool6 1 #[] #[{ accessFlags := 0, nameIndex := 54, descriptorIndex := 52, attributes := #[] }, { accessFlags := 0, nameIndex := 55, descriptorIndex := 56, attributes := #[] }] 16432 26 #[] #[{ accessFlags := 16409, nameIndex := 5, descriptorIndex := 6, attributes := #[] }, { accessFlags := 16409, nameIndex := 9, descriptorIndex := 6, attributes := #[] }, { accessFlags := 16409, nameIndex := 12, descriptorIndex := 6, attributes := #[] }, { accessFlags := 16409, nameIndex := 15, descriptorIndex := 6, attributes := #[] }, { accessFlags := 4122, nameIndex := 18, descriptorIndex := 19, attributes := #[] }])
  fields := #[{ name := "RECORD", type := (.object "com/example/hidden_gaps/hiddengaps/engine/LockKind"), accessFlags := 16409, slot := 0, constantValue := 0 }, { name := "GAP", type := (.object "com/example/hidden_gaps/hiddengaps/engine/LockKind"), accessFlags := 16409, slot := 1, constantValue := 0 }, { name := "NEXT_KEY", type := (.object "com/example/hidden_gaps/hiddengaps/engine/LockKind"), accessFlags := 16409, slot := 2, constantValue := 0 }, { name := "INSERT_INTENTION", type := (.object "com/example/hidden_gaps/hiddengaps/engine/LockKind"), accessFlags := 16409, slot := 3, constantValue := 0 }, { name := "$VALUES", type := (.array (.object "com/example/hidden_gaps/hiddengaps/engine/LockKind")), accessFlags := 4122, slot := 4, constantValue := 0 }]
  methods := #[k6m0, k6m1]
  instanceTypes := #[(.object "java/lang/String"), .int, .int]
  staticTypes := #[(.object "com/example/hidden_gaps/hiddengaps/engine/LockKind"), (.object "com/example/hidden_gaps/hiddengaps/engine/LockKind"), (.object "com/example/hidden_gaps/hiddengaps/engine/LockKind"), (.object "com/example/hidden_gaps/hiddengaps/engine/LockKind"), (.array (.object "com/example/hidden_gaps/hiddengaps/engine/LockKind"))]
  resolved := Array.replicate 61 none
  statics := some 0 }

def pool7 : Array CpInfo := pool [(1, u "java/lang/Cloneable"), (0, .class_ 1), (0, u "java/lang/Object"), (0, .class_ 3)] 3

/-- java/lang/Cloneable -/
def k7 : Class := { plain "java/lang/Cloneable" (some 0) with
  accessFlags := 1537
  interfaces := #[]
  cf := some (fileOf pool7 2 #[] #[] 1537 4 #[] #[])
  fields := #[]
  methods := #[]
  instanceTypes := #[]
  staticTypes := #[]
  resolved := Array.replicate 8 none
  statics := none }

/-- the primitive byte -/
def k8 : Class := { plain "byte" none with kind := .primitive 'B', accessFlags := 0x411 }
/-- [B -/
def k9 : Class := { plain "[B" (some 0) with kind := .array 8 .byte, interfaces := #[7, 4], accessFlags := 1041 }

/-- the primitive int -/
def k10 : Class := { plain "int" none with kind := .primitive 'I', accessFlags := 0x411 }
/-- [I -/
def k11 : Class := { plain "[I" (some 0) with kind := .array 10 .int, interfaces := #[7, 4], accessFlags := 1041 }

def heap : Heap := #[{ cls := 6, slots := #[.ref 1, .ref 2, .ref 3, .ref 4, .null], vm := .statics 6 },
  { cls := 6, slots := #[.null, .int 0, .int 0], vm := .none },
  { cls := 6, slots := #[.null, .int 1, .int 0], vm := .none },
  { cls := 6, slots := #[.null, .int 2, .int 0], vm := .none },
  { cls := 6, slots := #[.null, .int 3, .int 0], vm := .none }]
def classes : Array Class := #[k0, k1, k2, k3, k4, k5, k6, k7, k8, k9, k10, k11]
def interned : List (Array UInt16 × Addr) := []
def slotsUsed : Nat := 17
def theMethod : MethodId := ⟨1, 2⟩
def args0 : Array Value := #[.int 1]
def aboutOver (below : List Frame) : State where
  vm := { classes := classes, interned := interned.toArray }
  heap := heap
  slotsUsed := slotsUsed
  threads := #[{ frames := .invoking theMethod args0 :: below }]
def below0 : List Frame := [.native { method := ⟨0, 0⟩, args := #[] }]
def about1 : State := aboutOver below0
def p0 : Program := .bare "" "" ""
def e0 : Env := launch0.env 0 0 0
theorem w_frames : about1.frames = Frame.invoking theMethod args0 :: below0 := rfl
set_option maxRecDepth 65536 in
theorem w_args : argsFit about1.vm theMethod args0 = true := by decide +kernel
set_option maxRecDepth 65536 in
theorem w_heap : heapFits about1 = true := by decide +kernel
set_option maxRecDepth 65536 in
theorem w_runnable : about1.curStatus? = some .runnable := by decide +kernel
set_option maxRecDepth 65536 in
theorem w_alone : about1.alone = true := by decide +kernel
set_option maxRecDepth 65536 in
theorem w_named : about1.methodNamed? x = some theMethod := by decide +kernel
set_option maxRecDepth 65536 in
theorem w_hears : about1.hears theMethod below0 = true := by decide +kernel
set_option maxRecDepth 65536 in
theorem w_ripe : about1.ripe theMethod args0 below0 = true := by decide +kernel
theorem w_running : about1.status = .running := rfl
set_option maxRecDepth 65536 in
theorem w_room : about1.hasRoom e0.platform room_1 = true :=
  launch0.hasRoom_least _ room_1 (by decide +kernel) (by decide +kernel) (by decide +kernel) (by decide +kernel) (by decide +kernel) (by decide +kernel)
theorem allAtoms_all (ts : List Jvm.Cond) (a : Array Jvm.Value) (st : Jvm.State) : (allAtoms ts).before a st = ts.all (fun c => c.before a st) := by
  induction ts with
  | nil => rfl
  | cons c t ih =>
    show (Jvm.Cond.and c (allAtoms t)).before a st = _
    rw [Jvm.Cond.before_and, ih, List.all_cons]
def words1 : List Jvm.Cond := Jvm.Cond.code x code maxLocals ret :: tables_1
/-- a 'code' word, met by the world's own term for the bytes: nothing is compared byte by byte -/
theorem code_word {y : MethodName} {bytes : ByteArray} {mx : Nat} {rt : Option FieldType} {a : Array Value} {s : State} {m : MethodId} {meth : Method} {c : Code} (h1 : s.methodNamed? y = some m) (h2 : s.vm.method? m = some meth) (h3 : meth.code = some c) (h4 : c.code = bytes)
    (h5 : (c.maxLocals == mx && c.exceptionTable.isEmpty && decide (c.maxStack ≤ mostOperands) && decide (meth.sig.returnType = rt) && !meth.locks && decide (parseMethodDescriptor y.desc = some meth.sig)) = true) : (Jvm.Cond.code y bytes mx rt).before a s = true := by
  simp only [Bool.and_eq_true, beq_iff_eq, Bool.not_eq_true', decide_eq_true_eq] at h5
  obtain ⟨⟨⟨⟨⟨g1, g2⟩, g3⟩, g4⟩, g5⟩, g6⟩ := h5
  simp [Cond.before, Cond.holds, Cond.value, h1, h2, h3, h4, g1, g2, g3, g4, g5, g6]
def isCode : Jvm.Cond → Bool
  | .code _ _ _ _ => true
  | _ => false
theorem all_split {L : List Jvm.Cond} {P : Jvm.Cond → Bool} (h1 : L.all (fun c => isCode c || P c) = true) (h2 : ∀ c ∈ L.filter isCode, P c = true) : L.all P = true := by
  refine List.all_eq_true.mpr fun c hc => ?_
  have h := List.all_eq_true.mp h1 c hc
  rcases Bool.eq_false_or_eq_true (isCode c) with hi | hi
  · exact h2 c (List.mem_filter.mpr ⟨hc, hi⟩)
  · simpa [hi] using h
set_option maxRecDepth 65536 in
theorem w_c0 : (Jvm.Cond.code x code maxLocals ret).before args0 about1 = true := code_word (m := ⟨1, 2⟩) (meth := k1m2) (c := k1c2) (by decide +kernel) rfl rfl rfl (by decide +kernel)
set_option maxRecDepth 65536 in
theorem w_c1 : (Jvm.Cond.code ({ cls := "com/example/hidden_gaps/hiddengaps/engine/LockKindCoversGapPinLaw", name := "kindOf", desc := "(I)Lcom/example/hidden_gaps/hiddengaps/engine/LockKind;" } : Jvm.MethodName) method_2_code (1 : Nat) (Option.some (Jvm.ClassFile.FieldType.object "com/example/hidden_gaps/hiddengaps/engine/LockKind"))).before args0 about1 = true := code_word (m := ⟨1, 1⟩) (meth := k1m1) (c := k1c1) (by decide +kernel) rfl rfl rfl (by decide +kernel)
set_option maxRecDepth 65536 in
theorem w_c2 : (Jvm.Cond.code ({ cls := "com/example/hidden_gaps/hiddengaps/engine/LockKind", name := "coversGap", desc := "()Z" } : Jvm.MethodName) prog_20_method_5_code (1 : Nat) (Option.some Jvm.ClassFile.FieldType.boolean)).before args0 about1 = true := code_word (m := ⟨6, 0⟩) (meth := k6m0) (c := k6c0) (by decide +kernel) rfl rfl rfl (by decide +kernel)
set_option maxRecDepth 65536 in
theorem w_c3 : (Jvm.Cond.code ({ cls := "com/example/hidden_gaps/hiddengaps/engine/LockKind", name := "covers", desc := "(Lcom/example/hidden_gaps/hiddengaps/engine/LockKind;)Z" } : Jvm.MethodName) prog_20_method_6_code (2 : Nat) (Option.some Jvm.ClassFile.FieldType.boolean)).before args0 about1 = true := code_word (m := ⟨6, 1⟩) (meth := k6m1) (c := k6c1) (by decide +kernel) rfl rfl rfl (by decide +kernel)
def codes1 : List Jvm.Cond := [Jvm.Cond.code x code maxLocals ret, Jvm.Cond.code ({ cls := "com/example/hidden_gaps/hiddengaps/engine/LockKindCoversGapPinLaw", name := "kindOf", desc := "(I)Lcom/example/hidden_gaps/hiddengaps/engine/LockKind;" } : Jvm.MethodName) method_2_code (1 : Nat) (Option.some (Jvm.ClassFile.FieldType.object "com/example/hidden_gaps/hiddengaps/engine/LockKind")), Jvm.Cond.code ({ cls := "com/example/hidden_gaps/hiddengaps/engine/LockKind", name := "coversGap", desc := "()Z" } : Jvm.MethodName) prog_20_method_5_code (1 : Nat) (Option.some Jvm.ClassFile.FieldType.boolean), Jvm.Cond.code ({ cls := "com/example/hidden_gaps/hiddengaps/engine/LockKind", name := "covers", desc := "(Lcom/example/hidden_gaps/hiddengaps/engine/LockKind;)Z" } : Jvm.MethodName) prog_20_method_6_code (2 : Nat) (Option.some Jvm.ClassFile.FieldType.boolean)]
set_option maxRecDepth 65536 in
theorem codes_eq : words1.filter isCode = codes1 := rfl
theorem w_codes : ∀ c ∈ words1.filter isCode, c.before args0 about1 = true := by
  rw [codes_eq]
  intro c hc
  simp only [codes1, List.mem_cons, List.not_mem_nil, or_false] at hc
  rcases hc with rfl | rfl | rfl | rfl
  · exact w_c0
  · exact w_c1
  · exact w_c2
  · exact w_c3
set_option maxRecDepth 65536 in
theorem w_t1 : (words1.take 24).all (fun c => isCode c || c.before args0 about1) = true := by decide +kernel
set_option maxRecDepth 65536 in
theorem w_t2 : (words1.drop 24).all (fun c => isCode c || c.before args0 about1) = true := by decide +kernel
theorem w_tables : (allAtoms (Jvm.Cond.code x code maxLocals ret :: tables_1)).before args0 about1 = true := by
  rw [allAtoms_all]
  show words1.all (fun c => c.before args0 about1) = true
  refine all_split ?_ w_codes
  rw [← List.take_append_drop 24 words1, List.all_append, w_t1, w_t2]
  rfl
set_option maxRecDepth 65536 in
theorem w_case : (Jvm.Cond.and given_1 narrow_1).before args0 about1 = true := by decide +kernel
theorem w_applies : (headSpec (Jvm.Cond.code x code maxLocals ret :: tables_1) room_1).applies x e0.platform about1 = true :=
  (Spec.applies_iff w_frames).mpr ⟨w_running, w_runnable, w_alone, w_named, w_hears, w_ripe, w_room, w_tables⟩
theorem atStart : AtStart classFile x code maxLocals ret World_1 tables_1 room_1 Calls_1 rest_1 Pre_1 launch0 p0 e0 about1 theMethod args0 below0 :=
  ⟨lists_1, trivial, launch0.admits_env _ _ _, launch0.least_env, fairChoices_fair.cas, fairChoices_fair.clock, w_frames, w_args, w_heap, w_applies, trivial, trivial, w_case⟩
end start1
theorem witness_1 : WitnessClaimed_1 := ⟨start1.p0, start1.e0, start1.about1, start1.theMethod, start1.args0, start1.below0, start1.atStart⟩
end Jvm.Pilot.@@N@@
