import JvmDerived
import JvmDerived.Pilot.@@N@@Statement
import JvmDerived.Pilot.@@N@@Code
set_option linter.unusedVariables false
set_option linter.unusedSimpArgs false
namespace Jvm.Pilot.@@N@@
open Jvm Jvm.ClassFile Sem Op Lib Jvm.Free Jvm.Stand Jvm.LawKit Jvm.RoadKit Bundle Jvm.Pilot.@@N@@.Jvm.D
section Own
variable {p : Program} {l : Launch} {e : Env} {R : Room} {s : State} {m : MethodId} {args : Array Value} {below : List Frame} {meth : Method} {c : Code} {T : State} {locs : List Loc} {cells slots : Nat} {Z : State} {a0 : Array Value} {h h' : Heap}
/-- from A the run comes to its end, and G holds there -/
def OGo (p : Program) (e : Env) (below : List Frame) (G : State → Outcome → Prop) (A : State) : Prop := ∃ s₂ o, Steps p.tables e below A s₂ ∧ s₂.status = .running ∧ Ended s₂ below o ∧ G s₂ o
theorem OGo.st {G : State → Outcome → Prop} {A B : State} (k : ∀ t, Steps p.tables e below B t → Steps p.tables e below A t) (g : OGo p e below G B) : OGo p e below G A := by
  obtain ⟨s₂, o, q, r⟩ := g
  exact ⟨s₂, o, k _ q, r⟩
theorem OGo.join {α : Type} {G : State → Outcome → Prop} {A : State} (F : α → State) (P : α → Prop) (h1 : ∀ a, P a → OGo p e below G (F a)) (h2 : (∀ a, P a → OGo p e below G (F a)) → OGo p e below G A) : OGo p e below G A := h2 h1
/-- what a body leaves -/
def ODone (s : State) (rm : Room) (Q : Option Value → Heap → List Loc → Prop) (t : State) (o : Outcome) : Prop := ∃ v L, o = .returned v ∧ Q v t.heap L ∧ FrameEnd s o t L rm.cells rm.slots
/-- a body's contract -/
def OMet (l : Launch) (Z : State) (y : MethodName) (bytes : ByteArray) (maxL : Nat) (ret : Option FieldType) (ws : List Jvm.Cond) (rm : Room) (as' : Array Value) (h0 : Heap) (Q : Option Value → Heap → List Loc → Prop) : Prop :=
  MetFree l y (head1 (Jvm.Cond.code y bytes maxL ret :: ws) rm) (fun a U => a = as' ∧ Z.Warmed39 U.vm ∧ U.heap = h0) (fun _ _ _ _ _ => True) (fun _ U o U' => ∃ v L, o = .returned v ∧ Q v U'.heap L ∧ FrameEnd U o U' L rm.cells rm.slots)
section M
variable {y : MethodName} {bytes : ByteArray} {maxL : Nat} {ret : Option FieldType} {ws : List Jvm.Cond} {rm : Room} {as' : Array Value} {Q : Option Value → Heap → List Loc → Prop}
theorem OMet.of (hp : plainFor y = true)
    (body : ∀ (p : Program) (e : Env) (s : State) (m : MethodId) (below : List Frame) (meth : Method) (c : Code) (s₁ : State), p.tables.exec = Jvm.exec → c.code = bytes → c.maxLocals = maxL → s.methodNamed? y = some m → s.vm.findClass y.cls = some m.cls → meth.name = y.name → meth.sig.returnType = ret → meth.locks = false → Z.Warmed39 s.vm →
      Stand p l e rm s m as' below meth c s₁ [] 0 0 → s₁.heap = h → OGo p e below (ODone s rm Q) (s₁.setTop (entryFrame m as' maxL))) : OMet l Z y bytes maxL ret ws rm as' h Q := by
  refine MetFree.of_bodySF hp hisR ?_
  intro p e s m args below meth c s₁ Bd hml hP hK
  obtain ⟨hA, hZ, hh⟩ := hP
  subst hA
  exact body p e s m below meth c s₁ Bd.exec Bd.bytes hml Bd.named (findClass_of_methodNamed Bd.named) (name_of_methodNamed Bd.named Bd.method).1 Bd.returns Bd.notSynchronized hZ (Stand.of_body Bd) (by rw [← hh, Bd.state]; rfl)
theorem OMet.back {len W : Nat} (hM : OMet l Z y bytes maxL ret [] rm as' h Q) (hZ : Z.Warmed39 s.vm) (wc : (Jvm.Cond.code y bytes maxL ret).before a0 Z = true) (wz : (Jvm.Cond.initialized y.cls).before a0 Z = true) (hf : rm.frames + 1 ≤ R.frames) (hl : W + (maxL + 11) + rm.locals ≤ R.locals) :
    Back l R p e below s args y len W (fun A a => a = as' ∧ A.U.heap = h ∧ A.cells + rm.cells ≤ R.cells ∧ A.slots + rm.slots ≤ R.slots) (fun A _ v B => ∃ L, Q v B.U.heap L ∧ B.locs = A.locs ++ L ∧ B.cells = A.cells + rm.cells ∧ B.slots = A.slots + rm.slots) :=
  backOf hM hZ wc wz hf hl
/-- a static call by its contract -/
theorem OMet.static (hM : OMet l Z y bytes maxL ret [] rm as' h Q) (X : Stand p l e R s m args below meth c T locs cells slots) (hx : p.tables.exec = Jvm.exec) (hZ : Z.Warmed39 s.vm) {own : String} {index W : Nat} (hown : s.vm.findClass own = some m.cls)
    (w1 : (Jvm.Cond.methodLink own index y).before a0 Z = true) (w2 : (Jvm.Cond.static y).before a0 Z = true) (w3 : (Jvm.Cond.initialized y.cls).before a0 Z = true) (w4 : (Jvm.Cond.code y bytes maxL ret).before a0 Z = true)
    (hy : y.cls ≠ "java/lang/invoke/MethodHandle" ∧ y.cls ≠ "java/lang/invoke/VarHandle") (hf : rm.frames + 1 ≤ R.frames) (hl : W + (maxL + 11) + rm.locals ≤ R.locals) (eT : T.heap = h) (hc : cells + rm.cells ≤ R.cells) (hs : slots + rm.slots ≤ R.slots)
    {g : JFrame} (hg : g.method = m) (hsize : g.locals.size = c.maxLocals) {argsL rest : List Value} (ha : argsL.toArray = as') (hlen : ∀ sig, parseMethodDescriptor y.desc = some sig → argsL.length = sig.parameters.length) (hstack : g.stack = argsL.reverse ++ rest) (hW : 2 * g.monitorRoom + (rest.map fun v => v.category).sum ≤ W)
    (hd : decode c.code g.pc = .ok (.invokestatic index, 3)) :
    ∃ (v : Option Value) (T' : State) (L : List Loc), Stand p l e R s m args below meth c T' (locs ++ L) (cells + rm.cells) (slots + rm.slots) ∧ Q v T'.heap L ∧ ∀ target, Steps p.tables e below (T'.setTop { g with pc := g.pc + 3, stack := v.toList ++ rest }) target → Steps p.tables e below (T.setTop g) target := by
  obtain ⟨v, vm, ⟨T', L', k', n'⟩, -, X', ⟨L, hQ, e1, e2, e3⟩, st⟩ := Jvm.LawKit.callS X hx hown (mvT hZ w1) (mvT hZ w2) (mvT hZ w3) (mvT hZ w4) hy (OMet.back (W := W) hM hZ w4 w3 hf hl) (g := g) hg hsize hlen hstack hW hd (fun _ _ => ⟨ha, eT, hc, hs⟩)
  dsimp only [Pt.U, Pt.locs, Pt.cells, Pt.slots] at X' e1 e2 e3 st hQ
  subst e1 e2 e3
  exact ⟨v, T', L, X', hQ, st⟩
/-- a constructor by its contract -/
theorem OMet.init (hM : OMet l Z y bytes maxL none [] rm as' h Q) (X : Stand p l e R s m args below meth c T locs cells slots) (hx : p.tables.exec = Jvm.exec) (hZ : Z.Warmed39 s.vm) {own : String} {index W : Nat} (hy1 : y.name = "<init>") (hown : s.vm.findClass own = some m.cls)
    (w1 : (Jvm.Cond.methodLink own index y).before a0 Z = true) (w2 : (Jvm.Cond.instanceMethod y).before a0 Z = true) (w3 : (Jvm.Cond.initialized y.cls).before a0 Z = true) (w4 : (Jvm.Cond.code y bytes maxL none).before a0 Z = true)
    (hy : y.cls ≠ "java/lang/invoke/MethodHandle" ∧ y.cls ≠ "java/lang/invoke/VarHandle") (hf : rm.frames + 1 ≤ R.frames) (hl : W + (maxL + 11) + rm.locals ≤ R.locals) (eT : T.heap = h) (hc : cells + rm.cells ≤ R.cells) (hs : slots + rm.slots ≤ R.slots)
    {g : JFrame} (hg : g.method = m) (hsize : g.locals.size = c.maxLocals) {a : Addr} {argsL rest : List Value} (ha : (Value.ref a :: argsL).toArray = as') (hlen : ∀ sig, parseMethodDescriptor y.desc = some sig → argsL.length = sig.parameters.length) (hstack : g.stack = argsL.reverse ++ .ref a :: rest) (hW : 2 * g.monitorRoom + (rest.map fun v => v.category).sum ≤ W)
    (hd : decode c.code g.pc = .ok (.invokespecial index, 3)) :
    ∃ (v : Option Value) (T' : State) (L : List Loc), Stand p l e R s m args below meth c T' (locs ++ L) (cells + rm.cells) (slots + rm.slots) ∧ Q v T'.heap L ∧ ∀ target, Steps p.tables e below (T'.setTop { g with pc := g.pc + 3, stack := v.toList ++ rest }) target → Steps p.tables e below (T.setTop g) target := by
  obtain ⟨v, vm, ⟨T', L', k', n'⟩, -, X', ⟨L, hQ, e1, e2, e3⟩, st⟩ := X.specialBack hx hy1 hown (mvT hZ w1) (mvT hZ w2) (mvT hZ w4) hy (OMet.back (W := W) hM hZ w4 w3 hf hl) (g := g) hg hsize (Steps.refl _) (a := a) hlen hstack hW hd (fun _ _ => ⟨ha, eT, hc, hs⟩)
  dsimp only [Pt.U, Pt.locs, Pt.cells, Pt.slots] at X' e1 e2 e3 st hQ
  subst e1 e2 e3
  exact ⟨v, T', L, X', hQ, fun _ k => st.trans k⟩
/-- a virtual call by the contract of the body that the receiver's class selects -/
theorem OMet.virt (hM : OMet l Z y bytes maxL ret [] rm as' h Q) (X : Stand p l e R s m args below meth c T locs cells slots) (hx : p.tables.exec = Jvm.exec) (hZ : Z.Warmed39 s.vm) {own C : String} {index W : Nat} {y0 : MethodName} (hown : s.vm.findClass own = some m.cls)
    (w1 : (Jvm.Cond.methodLink own index y0).before a0 Z = true) (w2 : (Jvm.Cond.declares y0).before a0 Z = true) (nf : NotFace s y0) (w5 : (Jvm.Cond.selects C y0 y).before a0 Z = true) (w6 : (Jvm.Cond.instanceMethod y).before a0 Z = true)
    (w3 : (Jvm.Cond.initialized y.cls).before a0 Z = true) (w4 : (Jvm.Cond.code y bytes maxL ret).before a0 Z = true)
    (hy : y0.cls ≠ "java/lang/invoke/MethodHandle" ∧ y0.cls ≠ "java/lang/invoke/VarHandle") (hf : rm.frames + 1 ≤ R.frames) (hl : W + (maxL + 11) + rm.locals ≤ R.locals) (eT : T.heap = h) (hc : cells + rm.cells ≤ R.cells) (hs : slots + rm.slots ≤ R.slots)
    {g : JFrame} (hg : g.method = m) (hsize : g.locals.size = c.maxLocals) {a : Addr} (E : Exa Z h a C) {argsL rest : List Value} (ha : (Value.ref a :: argsL).toArray = as') (hlen : ∀ sig, parseMethodDescriptor y0.desc = some sig → argsL.length = sig.parameters.length) (hstack : g.stack = argsL.reverse ++ .ref a :: rest) (hW : 2 * g.monitorRoom + (rest.map fun v => v.category).sum ≤ W)
    (hd : decode c.code g.pc = .ok (.invokevirtual index, 3)) :
    ∃ (v : Option Value) (T' : State) (L : List Loc), Stand p l e R s m args below meth c T' (locs ++ L) (cells + rm.cells) (slots + rm.slots) ∧ Q v T'.heap L ∧ ∀ target, Steps p.tables e below (T'.setTop { g with pc := g.pc + 3, stack := v.toList ++ rest }) target → Steps p.tables e below (T.setTop g) target := by
  obtain ⟨cB, kB, qa, qb, qc⟩ := isOf hZ eT E
  obtain ⟨v, vm, ⟨T', L', k', n'⟩, -, X', ⟨L, hQ, e1, e2, e3⟩, st⟩ := X.virtualBack hx hown (mvT hZ w1) (mvT hZ w2) nf (mvT hZ w5) (mvT hZ w6) hy (OMet.back (W := W) hM hZ w4 w3 hf hl) qa qc (g := g) hg hsize (Steps.refl _) hlen hstack hW hd (fun _ _ => ⟨ha, eT, hc, hs⟩)
  dsimp only [Pt.U, Pt.locs, Pt.cells, Pt.slots] at X' e1 e2 e3 st hQ
  subst e1 e2 e3
  exact ⟨v, T', L, X', hQ, fun _ k => st.trans k⟩
/-- a call through an interface by the contract of the body that the receiver's class selects -/
theorem OMet.iface (hM : OMet l Z y bytes maxL ret [] rm as' h Q) (X : Stand p l e R s m args below meth c T locs cells slots) (hx : p.tables.exec = Jvm.exec) (hZ : Z.Warmed39 s.vm) {own C : String} {index count W : Nat} {y0 : MethodName} (hown : s.vm.findClass own = some m.cls)
    (w1 : (Jvm.Cond.methodLink own index y0).before a0 Z = true) (w2 : (Jvm.Cond.declares y0).before a0 Z = true) (w7 : (Jvm.Cond.interfaceMethod y0.cls y0.cls y0.name y0.desc).before a0 Z = true) (w5 : (Jvm.Cond.selects C y0 y).before a0 Z = true) (w6 : (Jvm.Cond.instanceMethod y).before a0 Z = true)
    (w8 : (Jvm.Cond.publicMethod y).before a0 Z = true) (w9 : (Jvm.Cond.unhidden C y0.name y0.desc).before a0 Z = true) (w0 : (Jvm.Cond.castable C y0.cls).before a0 Z = true) (w3 : (Jvm.Cond.initialized y.cls).before a0 Z = true) (w4 : (Jvm.Cond.code y bytes maxL ret).before a0 Z = true)
    (hy : y0.cls ≠ "java/lang/invoke/MethodHandle" ∧ y0.cls ≠ "java/lang/invoke/VarHandle") (hf : rm.frames + 1 ≤ R.frames) (hl : W + (maxL + 11) + rm.locals ≤ R.locals) (eT : T.heap = h) (hc : cells + rm.cells ≤ R.cells) (hs : slots + rm.slots ≤ R.slots)
    {g : JFrame} (hg : g.method = m) (hsize : g.locals.size = c.maxLocals) {a : Addr} (E : Exa Z h a C) {argsL rest : List Value} (ha : (Value.ref a :: argsL).toArray = as') (hlen : ∀ sig, parseMethodDescriptor y0.desc = some sig → argsL.length = sig.parameters.length) (hstack : g.stack = argsL.reverse ++ .ref a :: rest) (hW : 2 * g.monitorRoom + (rest.map fun v => v.category).sum ≤ W)
    (hd : decode c.code g.pc = .ok (.invokeinterface index count, 5)) :
    ∃ (v : Option Value) (T' : State) (L : List Loc), Stand p l e R s m args below meth c T' (locs ++ L) (cells + rm.cells) (slots + rm.slots) ∧ Q v T'.heap L ∧ ∀ target, Steps p.tables e below (T'.setTop { g with pc := g.pc + 5, stack := v.toList ++ rest }) target → Steps p.tables e below (T.setTop g) target := by
  obtain ⟨cB, kB, qa, qb, qc⟩ := isOf hZ eT E
  obtain ⟨v, vm, ⟨T', L', k', n'⟩, -, X', ⟨L, hQ, e1, e2, e3⟩, st⟩ := X.interfaceBack hx hown (mvT hZ w1) (mvT hZ w2) (mvT hZ w7 (by simp [Cond.onTables, Cond.keepsFace, Cond.keeps, Cond.steady, Cond.faceAtom, hy.1, hy.2])) (mvT hZ w5) (mvT hZ w6) (mvT hZ w8) (mvT hZ w9) (mvT hZ w0) hy (OMet.back (W := W) hM hZ w4 w3 hf hl) qa qb qc (g := g) hg hsize (Steps.refl _) hlen hstack hW hd (fun _ _ => ⟨ha, eT, hc, hs⟩)
  dsimp only [Pt.U, Pt.locs, Pt.cells, Pt.slots] at X' e1 e2 e3 st hQ
  subst e1 e2 e3
  exact ⟨v, T', L, X', hQ, fun _ k => st.trans k⟩
end M
theorem nf_sel {C : String} {y : MethodName} (hZ : Z.Warmed39 s.vm) (w : (Jvm.Cond.selects C y y).before a0 Z = true) : NotFace s y := notFace_of_selects (args := #[]) (mvT hZ w)
/-- the returns -/
theorem own_ret (X : Stand p l e R s m args below meth c T locs cells slots) {rm : Room} {Q : Option Value → Heap → List Loc → Prop} {A : State} {v : Option Value} (hv : meth.sig.returnType = none → v = none) (hlk : meth.locks = false)
    (k : ∀ fs, (∀ (f : JFrame) (acts : List Action), f.method = m → f.locked = none → f.entered = [] → (doReturn e (T.setTop f) acts v).1 = T.setFrames fs) → Steps p.tables e below A (T.setFrames fs)) (hQ : Q v T.heap locs) (hc : cells ≤ rm.cells) (hs : slots ≤ rm.slots) : OGo p e below (ODone s rm Q) A := by
  obtain ⟨fs, hr, hrun, hended, hW, hsame⟩ := X.leave (v := v) hv hlk
  exact ⟨_, _, k fs hr, hrun, hended, v, locs, rfl, hQ, ⟨_, rfl⟩, hW, hsame.mono hc hs⟩
theorem own_retZ (X : Stand p l e R s m args below meth c T locs cells slots) (hx : p.tables.exec = Jvm.exec) {rm : Room} {Q : Option Value → Heap → List Loc → Prop} {pc : Nat} {Ls : Array Slot} {z : Int32} {rest : List Value} (hret : meth.sig.returnType = some .boolean) (hlk : meth.locks = false)
    (hd : decode c.code pc = .ok (.ireturn, 1)) (hQ : Q (some (.int (nar .boolean z))) T.heap locs) (hc : cells ≤ rm.cells) (hs : slots ≤ rm.slots) : OGo p e below (ODone s rm Q) (T.setTop (mkF m pc Ls (.int z :: rest))) :=
  own_ret X (fun h => by rw [hret] at h; cases h) hlk (fun fs hr => retN X hx hret (Or.inl rfl) hd hr) hQ hc hs
theorem own_retI (X : Stand p l e R s m args below meth c T locs cells slots) (hx : p.tables.exec = Jvm.exec) {rm : Room} {Q : Option Value → Heap → List Loc → Prop} {pc : Nat} {Ls : Array Slot} {z : Int32} {rest : List Value} (hret : meth.sig.returnType = some .int) (hlk : meth.locks = false)
    (hd : decode c.code pc = .ok (.ireturn, 1)) (hQ : Q (some (.int z)) T.heap locs) (hc : cells ≤ rm.cells) (hs : slots ≤ rm.slots) : OGo p e below (ODone s rm Q) (T.setTop (mkF m pc Ls (.int z :: rest))) :=
  own_ret X (fun h => by rw [hret] at h; cases h) hlk (fun fs hr => retOut X hx hret rfl (Or.inl ⟨rfl, Or.inl rfl, z, rfl⟩) hd hr) hQ hc hs
theorem own_retJ (X : Stand p l e R s m args below meth c T locs cells slots) (hx : p.tables.exec = Jvm.exec) {rm : Room} {Q : Option Value → Heap → List Loc → Prop} {pc : Nat} {Ls : Array Slot} {z : Int64} {rest : List Value} (hret : meth.sig.returnType = some .long) (hlk : meth.locks = false)
    (hd : decode c.code pc = .ok (.lreturn, 1)) (hQ : Q (some (.long z)) T.heap locs) (hc : cells ≤ rm.cells) (hs : slots ≤ rm.slots) : OGo p e below (ODone s rm Q) (T.setTop (mkF m pc Ls (.long z :: rest))) :=
  own_ret X (fun h => by rw [hret] at h; cases h) hlk (fun fs hr => retOut X hx hret rfl (Or.inr (Or.inl ⟨rfl, rfl, z, rfl⟩)) hd hr) hQ hc hs
theorem own_retA (X : Stand p l e R s m args below meth c T locs cells slots) (hx : p.tables.exec = Jvm.exec) {rm : Room} {Q : Option Value → Heap → List Loc → Prop} {pc : Nat} {Ls : Array Slot} {w : Value} {t : FieldType} {rest : List Value} (hret : meth.sig.returnType = some t) (hlk : meth.locks = false)
    (hn : narrow t w = w) (ht : t.isReference = true) (hw : w.isRef = true) (hd : decode c.code pc = .ok (.areturn, 1)) (hQ : Q (some w) T.heap locs) (hc : cells ≤ rm.cells) (hs : slots ≤ rm.slots) : OGo p e below (ODone s rm Q) (T.setTop (mkF m pc Ls (w :: rest))) :=
  own_ret X (fun h => by rw [hret] at h; cases h) hlk (fun fs hr => retOut X hx hret hn (Or.inr (Or.inr (Or.inr (Or.inr ⟨rfl, ht, hw⟩)))) hd hr) hQ hc hs
theorem own_ret0 (X : Stand p l e R s m args below meth c T locs cells slots) (hx : p.tables.exec = Jvm.exec) {rm : Room} {Q : Option Value → Heap → List Loc → Prop} {pc : Nat} {Ls : Array Slot} (hret : meth.sig.returnType = none) (hlk : meth.locks = false)
    (hd : decode c.code pc = .ok (.return_, 1)) (hQ : Q none T.heap locs) (hc : cells ≤ rm.cells) (hs : slots ≤ rm.slots) : OGo p e below (ODone s rm Q) (T.setTop (mkF m pc Ls [])) :=
  own_ret X (fun _ => rfl) hlk (fun fs hr => X.returnOut hx hret hd hr) hQ hc hs
/-- a body that returns r and leaves the heap as it was -/
def OPure (r : Option Value) (h0 : Heap) (n0 : Nat) (v : Option Value) (h : Heap) (L : List Loc) : Prop := v = r ∧ Fr n0 L ∧ h = h0
/-- the start's words -/
theorem own_int {k : Int32} {t : Term} (hq : (Jvm.Cond.eq t (.int k)).value args s none s [] = some true) : t.eval args s none [] s = some (.int k) := by
  obtain ⟨x, y, e1, e2, k1, k2⟩ := cmp_v (Or.inl hq)
  have e3 : y = .int k := (Option.some.inj e2).symm
  subst e3
  obtain ⟨z, rfl⟩ := k2
  have q : (Jvm.Cond.eq t (.int k)).value args s none s [] = some (decide (z = k)) := by simp [Jvm.Cond.value, e1, Term.eval]
  rw [e1, gotT q hq]
theorem own_long {k : Int64} {t : Term} (hq : (Jvm.Cond.eq t (.long k)).value args s none s [] = some true) : t.eval args s none [] s = some (.long k) := by
  obtain ⟨x, y, e1, e2, k1, k2⟩ := cmp_v (Or.inl hq)
  have e3 : y = .long k := (Option.some.inj e2).symm
  subst e3
  obtain ⟨z, rfl⟩ := k2
  have q : (Jvm.Cond.eq t (.long k)).value args s none s [] = some (decide (z = k)) := eq_L e1 e2
  rw [e1, gotT q hq]
theorem own_ord {k : Int32} {t : Term} {C n d : String} {x : Addr} (ht : t.eval args s none [] s = some (.ref x)) (hq : (Jvm.Cond.eq (.field t C n d) (.int k)).value args s none s [] = some true) : Fld s s.heap x C n d (.int k) :=
  Fld.start ((fld_at ht).symm.trans (own_int hq))
theorem own_ordL {k : Int64} {t : Term} {C n d : String} {x : Addr} (ht : t.eval args s none [] s = some (.ref x)) (hq : (Jvm.Cond.eq (.field t C n d) (.long k)).value args s none s [] = some true) : Fld s s.heap x C n d (.long k) :=
  Fld.start ((fld_at ht).symm.trans (own_long hq))
theorem own_sta {t : String × String × String} {C : String} (hq : (Jvm.Cond.exactly (.static t.1 t.2.1 t.2.2) C).value args s none s [] = some true) (w1 : (Jvm.Cond.initialized t.1).before args s = true) (w2 : (Jvm.Cond.laysStatic t.1 t.2.1 t.2.2).before args s = true) :
    ∃ a, (Term.static t.1 t.2.1 t.2.2).eval args s none [] s = some (.ref a) ∧ Sta s s.heap t.1 t.2.1 t.2.2 (.ref a) ∧ Exa s s.heap a C := by
  obtain ⟨a, ea⟩ := exa_v hq
  exact ⟨a, ea, Sta.start ea (Or.inr ⟨w1, w2⟩), Exa.start ea hq⟩
theorem own_len {t : Term} {a : Addr} {c : Cell} {z : Int32} (et : t.eval args s none [] s = some (.ref a)) (ha : s.arrayAt? a = some c) (hq : (Term.length t).eval args s none [] s = some (.int z)) : c.slots.size < 2 ^ 31 ∧ c.slots.size.toInt32 = z := by
  by_cases hl : c.slots.size < 2 ^ 31
  · rw [len_f et ha hl] at hq
    exact ⟨hl, Value.int.inj (Option.some.inj hq)⟩
  · simp [Term.eval, et, ha, hl] at hq
theorem own_b01 {z : Int32} (hz : z = 0 ∨ z = 1) : narrow .boolean (.int z) = .int z ∧ fits .boolean (.int z) = true ∧ nar .boolean z = z := by
  rcases hz with rfl | rfl <;> decide
theorem own_ns_root {O K : String} {n : Nat} (w : (Jvm.Cond.noSuperclass O).before a0 Z = true) (wi : (Jvm.Cond.instantiable K n).before a0 Z = true) (hn : O ≠ K) : NS Z O K := by
  obtain ⟨c, k, h1, h2, h3, -⟩ := Cond.noSuperclass_spec w
  obtain ⟨t, kt, g1, -⟩ := Cond.instantiable_spec wi
  refine ⟨c, t, h1, g1, fun f => ?_⟩
  cases f with
  | zero => rfl
  | succ f => simp [Vm.isSubclassAux, ids_ne h1 g1 hn, h2, h3]
theorem own_ns_no {C S K : String} {n : Nat} (w : (Jvm.Cond.superclass C S).before a0 Z = true) (wi : (Jvm.Cond.instantiable K n).before a0 Z = true) (N : NS Z C K) (hn : C ≠ K) : ∃ c t, Z.vm.findClass C = some c ∧ Z.vm.findClass K = some t ∧ Z.vm.assignable c t = false := by
  obtain ⟨c, t, h0, g0, n3⟩ := N
  obtain ⟨p, k, kp, -, h2, -, -, h5, -, h7⟩ := Cond.superclass_spec h0 w
  obtain ⟨t', kt, g1, g2, g3, g4, -⟩ := Cond.instantiable_spec wi
  cases g0.symm.trans g1
  have g5 : kt.isInterface = false := (Bool.or_eq_false_iff.mp g4).1
  refine ⟨c, t, h0, g0, ?_⟩
  show Z.vm.assignableAux (255 + 1) c t = false
  simp [Vm.assignableAux, ids_ne h0 g0 hn, h2, g2, h5, g3, g5, Vm.isSubclass, n3]
end Own
theorem own_and7 (x : Int32) : x &&& (7 : Int32) = (0 : Int32) ∨ x &&& (7 : Int32) = (1 : Int32) ∨ x &&& (7 : Int32) = (2 : Int32) ∨ x &&& (7 : Int32) = (3 : Int32) ∨ x &&& (7 : Int32) = (4 : Int32) ∨ x &&& (7 : Int32) = (5 : Int32) ∨ x &&& (7 : Int32) = (6 : Int32) ∨ x &&& (7 : Int32) = (7 : Int32) := by
  have q := c_mask x 7 3 (by decide) (by decide)
  have q2 : (x &&& 7).toInt = 0 ∨ (x &&& 7).toInt = 1 ∨ (x &&& 7).toInt = 2 ∨ (x &&& 7).toInt = 3 ∨ (x &&& 7).toInt = 4 ∨ (x &&& 7).toInt = 5 ∨ (x &&& 7).toInt = 6 ∨ (x &&& 7).toInt = 7 := by omega
  rcases q2 with q | q | q | q | q | q | q | q
  · exact Or.inl (Int32.toInt_inj.mp (q.trans rfl))
  · exact Or.inr (Or.inl (Int32.toInt_inj.mp (q.trans rfl)))
  · exact Or.inr (Or.inr (Or.inl (Int32.toInt_inj.mp (q.trans rfl))))
  · exact Or.inr (Or.inr (Or.inr (Or.inl (Int32.toInt_inj.mp (q.trans rfl)))))
  · exact Or.inr (Or.inr (Or.inr (Or.inr (Or.inl (Int32.toInt_inj.mp (q.trans rfl))))))
  · exact Or.inr (Or.inr (Or.inr (Or.inr (Or.inr (Or.inl (Int32.toInt_inj.mp (q.trans rfl)))))))
  · exact Or.inr (Or.inr (Or.inr (Or.inr (Or.inr (Or.inr (Or.inl (Int32.toInt_inj.mp (q.trans rfl))))))))
  · exact Or.inr (Or.inr (Or.inr (Or.inr (Or.inr (Or.inr (Or.inr (Int32.toInt_inj.mp (q.trans rfl))))))))
theorem d1_0 : decode method_2_code 0 = .ok (.iload_n 0, 1) := by decide +kernel
theorem d1_1 : decode method_2_code 1 = .ok (.ifCond .ne 7, 3) := by decide +kernel
theorem d1_4 : decode method_2_code 4 = .ok (.getstatic 7, 3) := by decide +kernel
theorem d1_7 : decode method_2_code 7 = .ok (.areturn, 1) := by decide +kernel
theorem pn_com_example_graphwright_graphwright_cli_VerdictIsFaultPinLaw : plainName "com/example/graphwright/graphwright/cli/VerdictIsFaultPinLaw" = true := by first | (simp [plainName, overriddenIn]; done) | decide +kernel
theorem ef_rm1_0 (m : MethodId) (x0 : Int32) : entryFrame m #[(.int x0)] 1 = mkF m 0 #[.val (.int x0)] [] := by first | (simp [entryFrame, mkF, argsToLocals, Value.category]; done) | rfl
set_option maxRecDepth 65536 in
set_option maxHeartbeats 40000000 in
theorem rm1_0 (l : Launch) (Z : State) (a0 : Array Value) (hw : ∀ d ∈ tables_1, d.before a0 Z = true) (w : Addr) (h0 : Heap) (n0 : Nat) (S : Sta Z h0 "com/example/graphwright/graphwright/cli/Verdict" "VALID" "Lcom/example/graphwright/graphwright/cli/Verdict;" (.ref w)) :
    OMet l Z (⟨"com/example/graphwright/graphwright/cli/VerdictIsFaultPinLaw", "pick", "(I)Lcom/example/graphwright/graphwright/cli/Verdict;"⟩ : MethodName) method_2_code 1 (some (.object "com/example/graphwright/graphwright/cli/Verdict")) [] ({ frames := 0, cells := 0, slots := 0, locals := 0 } : Room) #[(.int (0 : Int32))] h0 (OPure (some (.ref w)) h0 n0) := by
  refine OMet.of (plainFor_of_name pn_com_example_graphwright_graphwright_cli_VerdictIsFaultPinLaw) ?_
  intro p e s m below meth c s₁ hx hby hml hnd hown hnm hret hlk hZ X0 e0
  replace hown : s.vm.findClass "com/example/graphwright/graphwright/cli/VerdictIsFaultPinLaw" = some m.cls := hown
  replace hml : c.maxLocals = 1 := hml
  have N0 := Fr.nil n0
  rw [ef_rm1_0 m (0 : Int32)]
  refine OGo.st (B := s₁.setTop (mkF m 1 #[.val (.int (0 : Int32))] [(.int (0 : Int32))])) (fun _ k => XS.iloadN X0.here hx rfl (hb hby d1_0) rfl k) ?_
  refine OGo.st (B := s₁.setTop (mkF m 4 #[.val (.int (0 : Int32))] [])) (fun _ k => XS.ifNo X0.here hx rfl (hb hby d1_1) rfl (by decide) k) ?_
  obtain ⟨T1, X1, e1, st1⟩ := getS2 X0 hx hZ hown (host := "") (Or.inl (hw _ (List.mem_of_getElem? (i := 4) rfl))) Via.refl e0 S (g := (mkF m 4 #[.val (.int (0 : Int32))] [])) rfl (hb hby d1_4)
  refine OGo.st (B := T1.setTop (mkF m 7 #[.val (.int (0 : Int32))] [(.ref w)])) st1 ?_
  exact own_retA X1 hx hret hlk rfl rfl rfl (hb hby d1_7) ⟨rfl, N0, e1⟩ (by decide) (by decide)
theorem d1_8 : decode method_2_code 8 = .ok (.iload_n 0, 1) := by decide +kernel
theorem d1_9 : decode method_2_code 9 = .ok (.iconst 1, 1) := by decide +kernel
theorem d1_10 : decode method_2_code 10 = .ok (.if_icmp .ne 7, 3) := by decide +kernel
theorem d1_13 : decode method_2_code 13 = .ok (.getstatic 13, 3) := by decide +kernel
theorem d1_16 : decode method_2_code 16 = .ok (.areturn, 1) := by decide +kernel
theorem ef_rm1_1 (m : MethodId) (x0 : Int32) : entryFrame m #[(.int x0)] 1 = mkF m 0 #[.val (.int x0)] [] := by first | (simp [entryFrame, mkF, argsToLocals, Value.category]; done) | rfl
set_option maxRecDepth 65536 in
set_option maxHeartbeats 40000000 in
theorem rm1_1 (l : Launch) (Z : State) (a0 : Array Value) (hw : ∀ d ∈ tables_1, d.before a0 Z = true) (w : Addr) (h0 : Heap) (n0 : Nat) (S : Sta Z h0 "com/example/graphwright/graphwright/cli/Verdict" "INVALID" "Lcom/example/graphwright/graphwright/cli/Verdict;" (.ref w)) :
    OMet l Z (⟨"com/example/graphwright/graphwright/cli/VerdictIsFaultPinLaw", "pick", "(I)Lcom/example/graphwright/graphwright/cli/Verdict;"⟩ : MethodName) method_2_code 1 (some (.object "com/example/graphwright/graphwright/cli/Verdict")) [] ({ frames := 0, cells := 0, slots := 0, locals := 0 } : Room) #[(.int (1 : Int32))] h0 (OPure (some (.ref w)) h0 n0) := by
  refine OMet.of (plainFor_of_name pn_com_example_graphwright_graphwright_cli_VerdictIsFaultPinLaw) ?_
  intro p e s m below meth c s₁ hx hby hml hnd hown hnm hret hlk hZ X0 e0
  replace hown : s.vm.findClass "com/example/graphwright/graphwright/cli/VerdictIsFaultPinLaw" = some m.cls := hown
  replace hml : c.maxLocals = 1 := hml
  have N0 := Fr.nil n0
  rw [ef_rm1_1 m (1 : Int32)]
  refine OGo.st (B := s₁.setTop (mkF m 1 #[.val (.int (1 : Int32))] [(.int (1 : Int32))])) (fun _ k => XS.iloadN X0.here hx rfl (hb hby d1_0) rfl k) ?_
  refine OGo.st (B := s₁.setTop (mkF m 8 #[.val (.int (1 : Int32))] [])) (fun _ k => XS.ifYes X0.here hx rfl (pc0 := 1) (pc' := 8) rfl (hb hby d1_1) rfl (by decide) (by decide) (by decide) k) ?_
  refine OGo.st (B := s₁.setTop (mkF m 9 #[.val (.int (1 : Int32))] [(.int (1 : Int32))])) (fun _ k => XS.iloadN X0.here hx rfl (hb hby d1_8) rfl k) ?_
  refine OGo.st (B := s₁.setTop (mkF m 10 #[.val (.int (1 : Int32))] [(.int (1 : Int32)), (.int (1 : Int32))])) (fun _ k => XS.iconst X0.here hx rfl (hb hby d1_9) k) ?_
  refine OGo.st (B := s₁.setTop (mkF m 13 #[.val (.int (1 : Int32))] [])) (fun _ k => XS.icmpNo X0.here hx rfl (hb hby d1_10) rfl (by decide) k) ?_
  obtain ⟨T1, X1, e1, st1⟩ := getS2 X0 hx hZ hown (host := "") (Or.inl (hw _ (List.mem_of_getElem? (i := 31) rfl))) Via.refl e0 S (g := (mkF m 13 #[.val (.int (1 : Int32))] [])) rfl (hb hby d1_13)
  refine OGo.st (B := T1.setTop (mkF m 16 #[.val (.int (1 : Int32))] [(.ref w)])) st1 ?_
  exact own_retA X1 hx hret hlk rfl rfl rfl (hb hby d1_16) ⟨rfl, N0, e1⟩ (by decide) (by decide)
theorem d1_17 : decode method_2_code 17 = .ok (.iload_n 0, 1) := by decide +kernel
theorem d1_18 : decode method_2_code 18 = .ok (.iconst 2, 1) := by decide +kernel
theorem d1_19 : decode method_2_code 19 = .ok (.if_icmp .ne 7, 3) := by decide +kernel
theorem d1_22 : decode method_2_code 22 = .ok (.getstatic 16, 3) := by decide +kernel
theorem d1_25 : decode method_2_code 25 = .ok (.areturn, 1) := by decide +kernel
theorem ef_rm1_2 (m : MethodId) (x0 : Int32) : entryFrame m #[(.int x0)] 1 = mkF m 0 #[.val (.int x0)] [] := by first | (simp [entryFrame, mkF, argsToLocals, Value.category]; done) | rfl
set_option maxRecDepth 65536 in
set_option maxHeartbeats 40000000 in
theorem rm1_2 (l : Launch) (Z : State) (a0 : Array Value) (hw : ∀ d ∈ tables_1, d.before a0 Z = true) (w : Addr) (h0 : Heap) (n0 : Nat) (S : Sta Z h0 "com/example/graphwright/graphwright/cli/Verdict" "BUG" "Lcom/example/graphwright/graphwright/cli/Verdict;" (.ref w)) :
    OMet l Z (⟨"com/example/graphwright/graphwright/cli/VerdictIsFaultPinLaw", "pick", "(I)Lcom/example/graphwright/graphwright/cli/Verdict;"⟩ : MethodName) method_2_code 1 (some (.object "com/example/graphwright/graphwright/cli/Verdict")) [] ({ frames := 0, cells := 0, slots := 0, locals := 0 } : Room) #[(.int (2 : Int32))] h0 (OPure (some (.ref w)) h0 n0) := by
  refine OMet.of (plainFor_of_name pn_com_example_graphwright_graphwright_cli_VerdictIsFaultPinLaw) ?_
  intro p e s m below meth c s₁ hx hby hml hnd hown hnm hret hlk hZ X0 e0
  replace hown : s.vm.findClass "com/example/graphwright/graphwright/cli/VerdictIsFaultPinLaw" = some m.cls := hown
  replace hml : c.maxLocals = 1 := hml
  have N0 := Fr.nil n0
  rw [ef_rm1_2 m (2 : Int32)]
  refine OGo.st (B := s₁.setTop (mkF m 1 #[.val (.int (2 : Int32))] [(.int (2 : Int32))])) (fun _ k => XS.iloadN X0.here hx rfl (hb hby d1_0) rfl k) ?_
  refine OGo.st (B := s₁.setTop (mkF m 8 #[.val (.int (2 : Int32))] [])) (fun _ k => XS.ifYes X0.here hx rfl (pc0 := 1) (pc' := 8) rfl (hb hby d1_1) rfl (by decide) (by decide) (by decide) k) ?_
  refine OGo.st (B := s₁.setTop (mkF m 9 #[.val (.int (2 : Int32))] [(.int (2 : Int32))])) (fun _ k => XS.iloadN X0.here hx rfl (hb hby d1_8) rfl k) ?_
  refine OGo.st (B := s₁.setTop (mkF m 10 #[.val (.int (2 : Int32))] [(.int (1 : Int32)), (.int (2 : Int32))])) (fun _ k => XS.iconst X0.here hx rfl (hb hby d1_9) k) ?_
  refine OGo.st (B := s₁.setTop (mkF m 17 #[.val (.int (2 : Int32))] [])) (fun _ k => XS.icmpYes X0.here hx rfl (pc0 := 10) (pc' := 17) rfl (hb hby d1_10) rfl (by decide) (by decide) (by decide) k) ?_
  refine OGo.st (B := s₁.setTop (mkF m 18 #[.val (.int (2 : Int32))] [(.int (2 : Int32))])) (fun _ k => XS.iloadN X0.here hx rfl (hb hby d1_17) rfl k) ?_
  refine OGo.st (B := s₁.setTop (mkF m 19 #[.val (.int (2 : Int32))] [(.int (2 : Int32)), (.int (2 : Int32))])) (fun _ k => XS.iconst X0.here hx rfl (hb hby d1_18) k) ?_
  refine OGo.st (B := s₁.setTop (mkF m 22 #[.val (.int (2 : Int32))] [])) (fun _ k => XS.icmpNo X0.here hx rfl (hb hby d1_19) rfl (by decide) k) ?_
  obtain ⟨T1, X1, e1, st1⟩ := getS2 X0 hx hZ hown (host := "") (Or.inl (hw _ (List.mem_of_getElem? (i := 30) rfl))) Via.refl e0 S (g := (mkF m 22 #[.val (.int (2 : Int32))] [])) rfl (hb hby d1_22)
  refine OGo.st (B := T1.setTop (mkF m 25 #[.val (.int (2 : Int32))] [(.ref w)])) st1 ?_
  exact own_retA X1 hx hret hlk rfl rfl rfl (hb hby d1_25) ⟨rfl, N0, e1⟩ (by decide) (by decide)
theorem d1_26 : decode method_2_code 26 = .ok (.iload_n 0, 1) := by decide +kernel
theorem d1_27 : decode method_2_code 27 = .ok (.iconst 3, 1) := by decide +kernel
theorem d1_28 : decode method_2_code 28 = .ok (.if_icmp .ne 7, 3) := by decide +kernel
theorem d1_31 : decode method_2_code 31 = .ok (.getstatic 19, 3) := by decide +kernel
theorem d1_34 : decode method_2_code 34 = .ok (.areturn, 1) := by decide +kernel
theorem ef_rm1_3 (m : MethodId) (x0 : Int32) : entryFrame m #[(.int x0)] 1 = mkF m 0 #[.val (.int x0)] [] := by first | (simp [entryFrame, mkF, argsToLocals, Value.category]; done) | rfl
set_option maxRecDepth 65536 in
set_option maxHeartbeats 40000000 in
theorem rm1_3 (l : Launch) (Z : State) (a0 : Array Value) (hw : ∀ d ∈ tables_1, d.before a0 Z = true) (w : Addr) (h0 : Heap) (n0 : Nat) (S : Sta Z h0 "com/example/graphwright/graphwright/cli/Verdict" "TIMEOUT" "Lcom/example/graphwright/graphwright/cli/Verdict;" (.ref w)) :
    OMet l Z (⟨"com/example/graphwright/graphwright/cli/VerdictIsFaultPinLaw", "pick", "(I)Lcom/example/graphwright/graphwright/cli/Verdict;"⟩ : MethodName) method_2_code 1 (some (.object "com/example/graphwright/graphwright/cli/Verdict")) [] ({ frames := 0, cells := 0, slots := 0, locals := 0 } : Room) #[(.int (3 : Int32))] h0 (OPure (some (.ref w)) h0 n0) := by
  refine OMet.of (plainFor_of_name pn_com_example_graphwright_graphwright_cli_VerdictIsFaultPinLaw) ?_
  intro p e s m below meth c s₁ hx hby hml hnd hown hnm hret hlk hZ X0 e0
  replace hown : s.vm.findClass "com/example/graphwright/graphwright/cli/VerdictIsFaultPinLaw" = some m.cls := hown
  replace hml : c.maxLocals = 1 := hml
  have N0 := Fr.nil n0
  rw [ef_rm1_3 m (3 : Int32)]
  refine OGo.st (B := s₁.setTop (mkF m 1 #[.val (.int (3 : Int32))] [(.int (3 : Int32))])) (fun _ k => XS.iloadN X0.here hx rfl (hb hby d1_0) rfl k) ?_
  refine OGo.st (B := s₁.setTop (mkF m 8 #[.val (.int (3 : Int32))] [])) (fun _ k => XS.ifYes X0.here hx rfl (pc0 := 1) (pc' := 8) rfl (hb hby d1_1) rfl (by decide) (by decide) (by decide) k) ?_
  refine OGo.st (B := s₁.setTop (mkF m 9 #[.val (.int (3 : Int32))] [(.int (3 : Int32))])) (fun _ k => XS.iloadN X0.here hx rfl (hb hby d1_8) rfl k) ?_
  refine OGo.st (B := s₁.setTop (mkF m 10 #[.val (.int (3 : Int32))] [(.int (1 : Int32)), (.int (3 : Int32))])) (fun _ k => XS.iconst X0.here hx rfl (hb hby d1_9) k) ?_
  refine OGo.st (B := s₁.setTop (mkF m 17 #[.val (.int (3 : Int32))] [])) (fun _ k => XS.icmpYes X0.here hx rfl (pc0 := 10) (pc' := 17) rfl (hb hby d1_10) rfl (by decide) (by decide) (by decide) k) ?_
  refine OGo.st (B := s₁.setTop (mkF m 18 #[.val (.int (3 : Int32))] [(.int (3 : Int32))])) (fun _ k => XS.iloadN X0.here hx rfl (hb hby d1_17) rfl k) ?_
  refine OGo.st (B := s₁.setTop (mkF m 19 #[.val (.int (3 : Int32))] [(.int (2 : Int32)), (.int (3 : Int32))])) (fun _ k => XS.iconst X0.here hx rfl (hb hby d1_18) k) ?_
  refine OGo.st (B := s₁.setTop (mkF m 26 #[.val (.int (3 : Int32))] [])) (fun _ k => XS.icmpYes X0.here hx rfl (pc0 := 19) (pc' := 26) rfl (hb hby d1_19) rfl (by decide) (by decide) (by decide) k) ?_
  refine OGo.st (B := s₁.setTop (mkF m 27 #[.val (.int (3 : Int32))] [(.int (3 : Int32))])) (fun _ k => XS.iloadN X0.here hx rfl (hb hby d1_26) rfl k) ?_
  refine OGo.st (B := s₁.setTop (mkF m 28 #[.val (.int (3 : Int32))] [(.int (3 : Int32)), (.int (3 : Int32))])) (fun _ k => XS.iconst X0.here hx rfl (hb hby d1_27) k) ?_
  refine OGo.st (B := s₁.setTop (mkF m 31 #[.val (.int (3 : Int32))] [])) (fun _ k => XS.icmpNo X0.here hx rfl (hb hby d1_28) rfl (by decide) k) ?_
  obtain ⟨T1, X1, e1, st1⟩ := getS2 X0 hx hZ hown (host := "") (Or.inl (hw _ (List.mem_of_getElem? (i := 25) rfl))) Via.refl e0 S (g := (mkF m 31 #[.val (.int (3 : Int32))] [])) rfl (hb hby d1_31)
  refine OGo.st (B := T1.setTop (mkF m 34 #[.val (.int (3 : Int32))] [(.ref w)])) st1 ?_
  exact own_retA X1 hx hret hlk rfl rfl rfl (hb hby d1_34) ⟨rfl, N0, e1⟩ (by decide) (by decide)
theorem d1_35 : decode method_2_code 35 = .ok (.iload_n 0, 1) := by decide +kernel
theorem d1_36 : decode method_2_code 36 = .ok (.iconst 4, 1) := by decide +kernel
theorem d1_37 : decode method_2_code 37 = .ok (.if_icmp .ne 7, 3) := by decide +kernel
theorem d1_40 : decode method_2_code 40 = .ok (.getstatic 22, 3) := by decide +kernel
theorem d1_43 : decode method_2_code 43 = .ok (.areturn, 1) := by decide +kernel
theorem ef_rm1_4 (m : MethodId) (x0 : Int32) : entryFrame m #[(.int x0)] 1 = mkF m 0 #[.val (.int x0)] [] := by first | (simp [entryFrame, mkF, argsToLocals, Value.category]; done) | rfl
set_option maxRecDepth 65536 in
set_option maxHeartbeats 40000000 in
theorem rm1_4 (l : Launch) (Z : State) (a0 : Array Value) (hw : ∀ d ∈ tables_1, d.before a0 Z = true) (w : Addr) (h0 : Heap) (n0 : Nat) (S : Sta Z h0 "com/example/graphwright/graphwright/cli/Verdict" "CRASH" "Lcom/example/graphwright/graphwright/cli/Verdict;" (.ref w)) :
    OMet l Z (⟨"com/example/graphwright/graphwright/cli/VerdictIsFaultPinLaw", "pick", "(I)Lcom/example/graphwright/graphwright/cli/Verdict;"⟩ : MethodName) method_2_code 1 (some (.object "com/example/graphwright/graphwright/cli/Verdict")) [] ({ frames := 0, cells := 0, slots := 0, locals := 0 } : Room) #[(.int (4 : Int32))] h0 (OPure (some (.ref w)) h0 n0) := by
  refine OMet.of (plainFor_of_name pn_com_example_graphwright_graphwright_cli_VerdictIsFaultPinLaw) ?_
  intro p e s m below meth c s₁ hx hby hml hnd hown hnm hret hlk hZ X0 e0
  replace hown : s.vm.findClass "com/example/graphwright/graphwright/cli/VerdictIsFaultPinLaw" = some m.cls := hown
  replace hml : c.maxLocals = 1 := hml
  have N0 := Fr.nil n0
  rw [ef_rm1_4 m (4 : Int32)]
  refine OGo.st (B := s₁.setTop (mkF m 1 #[.val (.int (4 : Int32))] [(.int (4 : Int32))])) (fun _ k => XS.iloadN X0.here hx rfl (hb hby d1_0) rfl k) ?_
  refine OGo.st (B := s₁.setTop (mkF m 8 #[.val (.int (4 : Int32))] [])) (fun _ k => XS.ifYes X0.here hx rfl (pc0 := 1) (pc' := 8) rfl (hb hby d1_1) rfl (by decide) (by decide) (by decide) k) ?_
  refine OGo.st (B := s₁.setTop (mkF m 9 #[.val (.int (4 : Int32))] [(.int (4 : Int32))])) (fun _ k => XS.iloadN X0.here hx rfl (hb hby d1_8) rfl k) ?_
  refine OGo.st (B := s₁.setTop (mkF m 10 #[.val (.int (4 : Int32))] [(.int (1 : Int32)), (.int (4 : Int32))])) (fun _ k => XS.iconst X0.here hx rfl (hb hby d1_9) k) ?_
  refine OGo.st (B := s₁.setTop (mkF m 17 #[.val (.int (4 : Int32))] [])) (fun _ k => XS.icmpYes X0.here hx rfl (pc0 := 10) (pc' := 17) rfl (hb hby d1_10) rfl (by decide) (by decide) (by decide) k) ?_
  refine OGo.st (B := s₁.setTop (mkF m 18 #[.val (.int (4 : Int32))] [(.int (4 : Int32))])) (fun _ k => XS.iloadN X0.here hx rfl (hb hby d1_17) rfl k) ?_
  refine OGo.st (B := s₁.setTop (mkF m 19 #[.val (.int (4 : Int32))] [(.int (2 : Int32)), (.int (4 : Int32))])) (fun _ k => XS.iconst X0.here hx rfl (hb hby d1_18) k) ?_
  refine OGo.st (B := s₁.setTop (mkF m 26 #[.val (.int (4 : Int32))] [])) (fun _ k => XS.icmpYes X0.here hx rfl (pc0 := 19) (pc' := 26) rfl (hb hby d1_19) rfl (by decide) (by decide) (by decide) k) ?_
  refine OGo.st (B := s₁.setTop (mkF m 27 #[.val (.int (4 : Int32))] [(.int (4 : Int32))])) (fun _ k => XS.iloadN X0.here hx rfl (hb hby d1_26) rfl k) ?_
  refine OGo.st (B := s₁.setTop (mkF m 28 #[.val (.int (4 : Int32))] [(.int (3 : Int32)), (.int (4 : Int32))])) (fun _ k => XS.iconst X0.here hx rfl (hb hby d1_27) k) ?_
  refine OGo.st (B := s₁.setTop (mkF m 35 #[.val (.int (4 : Int32))] [])) (fun _ k => XS.icmpYes X0.here hx rfl (pc0 := 28) (pc' := 35) rfl (hb hby d1_28) rfl (by decide) (by decide) (by decide) k) ?_
  refine OGo.st (B := s₁.setTop (mkF m 36 #[.val (.int (4 : Int32))] [(.int (4 : Int32))])) (fun _ k => XS.iloadN X0.here hx rfl (hb hby d1_35) rfl k) ?_
  refine OGo.st (B := s₁.setTop (mkF m 37 #[.val (.int (4 : Int32))] [(.int (4 : Int32)), (.int (4 : Int32))])) (fun _ k => XS.iconst X0.here hx rfl (hb hby d1_36) k) ?_
  refine OGo.st (B := s₁.setTop (mkF m 40 #[.val (.int (4 : Int32))] [])) (fun _ k => XS.icmpNo X0.here hx rfl (hb hby d1_37) rfl (by decide) k) ?_
  obtain ⟨T1, X1, e1, st1⟩ := getS2 X0 hx hZ hown (host := "") (Or.inl (hw _ (List.mem_of_getElem? (i := 33) rfl))) Via.refl e0 S (g := (mkF m 40 #[.val (.int (4 : Int32))] [])) rfl (hb hby d1_40)
  refine OGo.st (B := T1.setTop (mkF m 43 #[.val (.int (4 : Int32))] [(.ref w)])) st1 ?_
  exact own_retA X1 hx hret hlk rfl rfl rfl (hb hby d1_43) ⟨rfl, N0, e1⟩ (by decide) (by decide)
theorem d1_44 : decode method_2_code 44 = .ok (.iload_n 0, 1) := by decide +kernel
theorem d1_45 : decode method_2_code 45 = .ok (.iconst 5, 1) := by decide +kernel
theorem d1_46 : decode method_2_code 46 = .ok (.if_icmp .ne 7, 3) := by decide +kernel
theorem d1_49 : decode method_2_code 49 = .ok (.getstatic 25, 3) := by decide +kernel
theorem d1_52 : decode method_2_code 52 = .ok (.areturn, 1) := by decide +kernel
theorem ef_rm1_5 (m : MethodId) (x0 : Int32) : entryFrame m #[(.int x0)] 1 = mkF m 0 #[.val (.int x0)] [] := by first | (simp [entryFrame, mkF, argsToLocals, Value.category]; done) | rfl
set_option maxRecDepth 65536 in
set_option maxHeartbeats 40000000 in
theorem rm1_5 (l : Launch) (Z : State) (a0 : Array Value) (hw : ∀ d ∈ tables_1, d.before a0 Z = true) (w : Addr) (h0 : Heap) (n0 : Nat) (S : Sta Z h0 "com/example/graphwright/graphwright/cli/Verdict" "DIFFER" "Lcom/example/graphwright/graphwright/cli/Verdict;" (.ref w)) :
    OMet l Z (⟨"com/example/graphwright/graphwright/cli/VerdictIsFaultPinLaw", "pick", "(I)Lcom/example/graphwright/graphwright/cli/Verdict;"⟩ : MethodName) method_2_code 1 (some (.object "com/example/graphwright/graphwright/cli/Verdict")) [] ({ frames := 0, cells := 0, slots := 0, locals := 0 } : Room) #[(.int (5 : Int32))] h0 (OPure (some (.ref w)) h0 n0) := by
  refine OMet.of (plainFor_of_name pn_com_example_graphwright_graphwright_cli_VerdictIsFaultPinLaw) ?_
  intro p e s m below meth c s₁ hx hby hml hnd hown hnm hret hlk hZ X0 e0
  replace hown : s.vm.findClass "com/example/graphwright/graphwright/cli/VerdictIsFaultPinLaw" = some m.cls := hown
  replace hml : c.maxLocals = 1 := hml
  have N0 := Fr.nil n0
  rw [ef_rm1_5 m (5 : Int32)]
  refine OGo.st (B := s₁.setTop (mkF m 1 #[.val (.int (5 : Int32))] [(.int (5 : Int32))])) (fun _ k => XS.iloadN X0.here hx rfl (hb hby d1_0) rfl k) ?_
  refine OGo.st (B := s₁.setTop (mkF m 8 #[.val (.int (5 : Int32))] [])) (fun _ k => XS.ifYes X0.here hx rfl (pc0 := 1) (pc' := 8) rfl (hb hby d1_1) rfl (by decide) (by decide) (by decide) k) ?_
  refine OGo.st (B := s₁.setTop (mkF m 9 #[.val (.int (5 : Int32))] [(.int (5 : Int32))])) (fun _ k => XS.iloadN X0.here hx rfl (hb hby d1_8) rfl k) ?_
  refine OGo.st (B := s₁.setTop (mkF m 10 #[.val (.int (5 : Int32))] [(.int (1 : Int32)), (.int (5 : Int32))])) (fun _ k => XS.iconst X0.here hx rfl (hb hby d1_9) k) ?_
  refine OGo.st (B := s₁.setTop (mkF m 17 #[.val (.int (5 : Int32))] [])) (fun _ k => XS.icmpYes X0.here hx rfl (pc0 := 10) (pc' := 17) rfl (hb hby d1_10) rfl (by decide) (by decide) (by decide) k) ?_
  refine OGo.st (B := s₁.setTop (mkF m 18 #[.val (.int (5 : Int32))] [(.int (5 : Int32))])) (fun _ k => XS.iloadN X0.here hx rfl (hb hby d1_17) rfl k) ?_
  refine OGo.st (B := s₁.setTop (mkF m 19 #[.val (.int (5 : Int32))] [(.int (2 : Int32)), (.int (5 : Int32))])) (fun _ k => XS.iconst X0.here hx rfl (hb hby d1_18) k) ?_
  refine OGo.st (B := s₁.setTop (mkF m 26 #[.val (.int (5 : Int32))] [])) (fun _ k => XS.icmpYes X0.here hx rfl (pc0 := 19) (pc' := 26) rfl (hb hby d1_19) rfl (by decide) (by decide) (by decide) k) ?_
  refine OGo.st (B := s₁.setTop (mkF m 27 #[.val (.int (5 : Int32))] [(.int (5 : Int32))])) (fun _ k => XS.iloadN X0.here hx rfl (hb hby d1_26) rfl k) ?_
  refine OGo.st (B := s₁.setTop (mkF m 28 #[.val (.int (5 : Int32))] [(.int (3 : Int32)), (.int (5 : Int32))])) (fun _ k => XS.iconst X0.here hx rfl (hb hby d1_27) k) ?_
  refine OGo.st (B := s₁.setTop (mkF m 35 #[.val (.int (5 : Int32))] [])) (fun _ k => XS.icmpYes X0.here hx rfl (pc0 := 28) (pc' := 35) rfl (hb hby d1_28) rfl (by decide) (by decide) (by decide) k) ?_
  refine OGo.st (B := s₁.setTop (mkF m 36 #[.val (.int (5 : Int32))] [(.int (5 : Int32))])) (fun _ k => XS.iloadN X0.here hx rfl (hb hby d1_35) rfl k) ?_
  refine OGo.st (B := s₁.setTop (mkF m 37 #[.val (.int (5 : Int32))] [(.int (4 : Int32)), (.int (5 : Int32))])) (fun _ k => XS.iconst X0.here hx rfl (hb hby d1_36) k) ?_
  refine OGo.st (B := s₁.setTop (mkF m 44 #[.val (.int (5 : Int32))] [])) (fun _ k => XS.icmpYes X0.here hx rfl (pc0 := 37) (pc' := 44) rfl (hb hby d1_37) rfl (by decide) (by decide) (by decide) k) ?_
  refine OGo.st (B := s₁.setTop (mkF m 45 #[.val (.int (5 : Int32))] [(.int (5 : Int32))])) (fun _ k => XS.iloadN X0.here hx rfl (hb hby d1_44) rfl k) ?_
  refine OGo.st (B := s₁.setTop (mkF m 46 #[.val (.int (5 : Int32))] [(.int (5 : Int32)), (.int (5 : Int32))])) (fun _ k => XS.iconst X0.here hx rfl (hb hby d1_45) k) ?_
  refine OGo.st (B := s₁.setTop (mkF m 49 #[.val (.int (5 : Int32))] [])) (fun _ k => XS.icmpNo X0.here hx rfl (hb hby d1_46) rfl (by decide) k) ?_
  obtain ⟨T1, X1, e1, st1⟩ := getS2 X0 hx hZ hown (host := "") (Or.inl (hw _ (List.mem_of_getElem? (i := 34) rfl))) Via.refl e0 S (g := (mkF m 49 #[.val (.int (5 : Int32))] [])) rfl (hb hby d1_49)
  refine OGo.st (B := T1.setTop (mkF m 52 #[.val (.int (5 : Int32))] [(.ref w)])) st1 ?_
  exact own_retA X1 hx hret hlk rfl rfl rfl (hb hby d1_52) ⟨rfl, N0, e1⟩ (by decide) (by decide)
theorem d1_53 : decode method_2_code 53 = .ok (.iload_n 0, 1) := by decide +kernel
theorem d1_54 : decode method_2_code 54 = .ok (.bipush 6, 2) := by decide +kernel
theorem d1_56 : decode method_2_code 56 = .ok (.if_icmp .ne 7, 3) := by decide +kernel
theorem d1_59 : decode method_2_code 59 = .ok (.getstatic 28, 3) := by decide +kernel
theorem d1_62 : decode method_2_code 62 = .ok (.areturn, 1) := by decide +kernel
theorem ef_rm1_6 (m : MethodId) (x0 : Int32) : entryFrame m #[(.int x0)] 1 = mkF m 0 #[.val (.int x0)] [] := by first | (simp [entryFrame, mkF, argsToLocals, Value.category]; done) | rfl
set_option maxRecDepth 65536 in
set_option maxHeartbeats 40000000 in
theorem rm1_6 (l : Launch) (Z : State) (a0 : Array Value) (hw : ∀ d ∈ tables_1, d.before a0 Z = true) (w : Addr) (h0 : Heap) (n0 : Nat) (S : Sta Z h0 "com/example/graphwright/graphwright/cli/Verdict" "UNSTABLE" "Lcom/example/graphwright/graphwright/cli/Verdict;" (.ref w)) :
    OMet l Z (⟨"com/example/graphwright/graphwright/cli/VerdictIsFaultPinLaw", "pick", "(I)Lcom/example/graphwright/graphwright/cli/Verdict;"⟩ : MethodName) method_2_code 1 (some (.object "com/example/graphwright/graphwright/cli/Verdict")) [] ({ frames := 0, cells := 0, slots := 0, locals := 0 } : Room) #[(.int (6 : Int32))] h0 (OPure (some (.ref w)) h0 n0) := by
  refine OMet.of (plainFor_of_name pn_com_example_graphwright_graphwright_cli_VerdictIsFaultPinLaw) ?_
  intro p e s m below meth c s₁ hx hby hml hnd hown hnm hret hlk hZ X0 e0
  replace hown : s.vm.findClass "com/example/graphwright/graphwright/cli/VerdictIsFaultPinLaw" = some m.cls := hown
  replace hml : c.maxLocals = 1 := hml
  have N0 := Fr.nil n0
  rw [ef_rm1_6 m (6 : Int32)]
  refine OGo.st (B := s₁.setTop (mkF m 1 #[.val (.int (6 : Int32))] [(.int (6 : Int32))])) (fun _ k => XS.iloadN X0.here hx rfl (hb hby d1_0) rfl k) ?_
  refine OGo.st (B := s₁.setTop (mkF m 8 #[.val (.int (6 : Int32))] [])) (fun _ k => XS.ifYes X0.here hx rfl (pc0 := 1) (pc' := 8) rfl (hb hby d1_1) rfl (by decide) (by decide) (by decide) k) ?_
  refine OGo.st (B := s₁.setTop (mkF m 9 #[.val (.int (6 : Int32))] [(.int (6 : Int32))])) (fun _ k => XS.iloadN X0.here hx rfl (hb hby d1_8) rfl k) ?_
  refine OGo.st (B := s₁.setTop (mkF m 10 #[.val (.int (6 : Int32))] [(.int (1 : Int32)), (.int (6 : Int32))])) (fun _ k => XS.iconst X0.here hx rfl (hb hby d1_9) k) ?_
  refine OGo.st (B := s₁.setTop (mkF m 17 #[.val (.int (6 : Int32))] [])) (fun _ k => XS.icmpYes X0.here hx rfl (pc0 := 10) (pc' := 17) rfl (hb hby d1_10) rfl (by decide) (by decide) (by decide) k) ?_
  refine OGo.st (B := s₁.setTop (mkF m 18 #[.val (.int (6 : Int32))] [(.int (6 : Int32))])) (fun _ k => XS.iloadN X0.here hx rfl (hb hby d1_17) rfl k) ?_
  refine OGo.st (B := s₁.setTop (mkF m 19 #[.val (.int (6 : Int32))] [(.int (2 : Int32)), (.int (6 : Int32))])) (fun _ k => XS.iconst X0.here hx rfl (hb hby d1_18) k) ?_
  refine OGo.st (B := s₁.setTop (mkF m 26 #[.val (.int (6 : Int32))] [])) (fun _ k => XS.icmpYes X0.here hx rfl (pc0 := 19) (pc' := 26) rfl (hb hby d1_19) rfl (by decide) (by decide) (by decide) k) ?_
  refine OGo.st (B := s₁.setTop (mkF m 27 #[.val (.int (6 : Int32))] [(.int (6 : Int32))])) (fun _ k => XS.iloadN X0.here hx rfl (hb hby d1_26) rfl k) ?_
  refine OGo.st (B := s₁.setTop (mkF m 28 #[.val (.int (6 : Int32))] [(.int (3 : Int32)), (.int (6 : Int32))])) (fun _ k => XS.iconst X0.here hx rfl (hb hby d1_27) k) ?_
  refine OGo.st (B := s₁.setTop (mkF m 35 #[.val (.int (6 : Int32))] [])) (fun _ k => XS.icmpYes X0.here hx rfl (pc0 := 28) (pc' := 35) rfl (hb hby d1_28) rfl (by decide) (by decide) (by decide) k) ?_
  refine OGo.st (B := s₁.setTop (mkF m 36 #[.val (.int (6 : Int32))] [(.int (6 : Int32))])) (fun _ k => XS.iloadN X0.here hx rfl (hb hby d1_35) rfl k) ?_
  refine OGo.st (B := s₁.setTop (mkF m 37 #[.val (.int (6 : Int32))] [(.int (4 : Int32)), (.int (6 : Int32))])) (fun _ k => XS.iconst X0.here hx rfl (hb hby d1_36) k) ?_
  refine OGo.st (B := s₁.setTop (mkF m 44 #[.val (.int (6 : Int32))] [])) (fun _ k => XS.icmpYes X0.here hx rfl (pc0 := 37) (pc' := 44) rfl (hb hby d1_37) rfl (by decide) (by decide) (by decide) k) ?_
  refine OGo.st (B := s₁.setTop (mkF m 45 #[.val (.int (6 : Int32))] [(.int (6 : Int32))])) (fun _ k => XS.iloadN X0.here hx rfl (hb hby d1_44) rfl k) ?_
  refine OGo.st (B := s₁.setTop (mkF m 46 #[.val (.int (6 : Int32))] [(.int (5 : Int32)), (.int (6 : Int32))])) (fun _ k => XS.iconst X0.here hx rfl (hb hby d1_45) k) ?_
  refine OGo.st (B := s₁.setTop (mkF m 53 #[.val (.int (6 : Int32))] [])) (fun _ k => XS.icmpYes X0.here hx rfl (pc0 := 46) (pc' := 53) rfl (hb hby d1_46) rfl (by decide) (by decide) (by decide) k) ?_
  refine OGo.st (B := s₁.setTop (mkF m 54 #[.val (.int (6 : Int32))] [(.int (6 : Int32))])) (fun _ k => XS.iloadN X0.here hx rfl (hb hby d1_53) rfl k) ?_
  refine OGo.st (B := s₁.setTop (mkF m 56 #[.val (.int (6 : Int32))] [(.int (6 : Int32)), (.int (6 : Int32))])) (fun _ k => XS.bipush X0.here hx rfl (hb hby d1_54) k) ?_
  refine OGo.st (B := s₁.setTop (mkF m 59 #[.val (.int (6 : Int32))] [])) (fun _ k => XS.icmpNo X0.here hx rfl (hb hby d1_56) rfl (by decide) k) ?_
  obtain ⟨T1, X1, e1, st1⟩ := getS2 X0 hx hZ hown (host := "") (Or.inl (hw _ (List.mem_of_getElem? (i := 27) rfl))) Via.refl e0 S (g := (mkF m 59 #[.val (.int (6 : Int32))] [])) rfl (hb hby d1_59)
  refine OGo.st (B := T1.setTop (mkF m 62 #[.val (.int (6 : Int32))] [(.ref w)])) st1 ?_
  exact own_retA X1 hx hret hlk rfl rfl rfl (hb hby d1_62) ⟨rfl, N0, e1⟩ (by decide) (by decide)
theorem d1_63 : decode method_2_code 63 = .ok (.getstatic 31, 3) := by decide +kernel
theorem d1_66 : decode method_2_code 66 = .ok (.areturn, 1) := by decide +kernel
theorem ef_rm1_7 (m : MethodId) (x0 : Int32) : entryFrame m #[(.int x0)] 1 = mkF m 0 #[.val (.int x0)] [] := by first | (simp [entryFrame, mkF, argsToLocals, Value.category]; done) | rfl
set_option maxRecDepth 65536 in
set_option maxHeartbeats 40000000 in
theorem rm1_7 (l : Launch) (Z : State) (a0 : Array Value) (hw : ∀ d ∈ tables_1, d.before a0 Z = true) (w : Addr) (h0 : Heap) (n0 : Nat) (S : Sta Z h0 "com/example/graphwright/graphwright/cli/Verdict" "KNOWN" "Lcom/example/graphwright/graphwright/cli/Verdict;" (.ref w)) :
    OMet l Z (⟨"com/example/graphwright/graphwright/cli/VerdictIsFaultPinLaw", "pick", "(I)Lcom/example/graphwright/graphwright/cli/Verdict;"⟩ : MethodName) method_2_code 1 (some (.object "com/example/graphwright/graphwright/cli/Verdict")) [] ({ frames := 0, cells := 0, slots := 0, locals := 0 } : Room) #[(.int (7 : Int32))] h0 (OPure (some (.ref w)) h0 n0) := by
  refine OMet.of (plainFor_of_name pn_com_example_graphwright_graphwright_cli_VerdictIsFaultPinLaw) ?_
  intro p e s m below meth c s₁ hx hby hml hnd hown hnm hret hlk hZ X0 e0
  replace hown : s.vm.findClass "com/example/graphwright/graphwright/cli/VerdictIsFaultPinLaw" = some m.cls := hown
  replace hml : c.maxLocals = 1 := hml
  have N0 := Fr.nil n0
  rw [ef_rm1_7 m (7 : Int32)]
  refine OGo.st (B := s₁.setTop (mkF m 1 #[.val (.int (7 : Int32))] [(.int (7 : Int32))])) (fun _ k => XS.iloadN X0.here hx rfl (hb hby d1_0) rfl k) ?_
  refine OGo.st (B := s₁.setTop (mkF m 8 #[.val (.int (7 : Int32))] [])) (fun _ k => XS.ifYes X0.here hx rfl (pc0 := 1) (pc' := 8) rfl (hb hby d1_1) rfl (by decide) (by decide) (by decide) k) ?_
  refine OGo.st (B := s₁.setTop (mkF m 9 #[.val (.int (7 : Int32))] [(.int (7 : Int32))])) (fun _ k => XS.iloadN X0.here hx rfl (hb hby d1_8) rfl k) ?_
  refine OGo.st (B := s₁.setTop (mkF m 10 #[.val (.int (7 : Int32))] [(.int (1 : Int32)), (.int (7 : Int32))])) (fun _ k => XS.iconst X0.here hx rfl (hb hby d1_9) k) ?_
  refine OGo.st (B := s₁.setTop (mkF m 17 #[.val (.int (7 : Int32))] [])) (fun _ k => XS.icmpYes X0.here hx rfl (pc0 := 10) (pc' := 17) rfl (hb hby d1_10) rfl (by decide) (by decide) (by decide) k) ?_
  refine OGo.st (B := s₁.setTop (mkF m 18 #[.val (.int (7 : Int32))] [(.int (7 : Int32))])) (fun _ k => XS.iloadN X0.here hx rfl (hb hby d1_17) rfl k) ?_
  refine OGo.st (B := s₁.setTop (mkF m 19 #[.val (.int (7 : Int32))] [(.int (2 : Int32)), (.int (7 : Int32))])) (fun _ k => XS.iconst X0.here hx rfl (hb hby d1_18) k) ?_
  refine OGo.st (B := s₁.setTop (mkF m 26 #[.val (.int (7 : Int32))] [])) (fun _ k => XS.icmpYes X0.here hx rfl (pc0 := 19) (pc' := 26) rfl (hb hby d1_19) rfl (by decide) (by decide) (by decide) k) ?_
  refine OGo.st (B := s₁.setTop (mkF m 27 #[.val (.int (7 : Int32))] [(.int (7 : Int32))])) (fun _ k => XS.iloadN X0.here hx rfl (hb hby d1_26) rfl k) ?_
  refine OGo.st (B := s₁.setTop (mkF m 28 #[.val (.int (7 : Int32))] [(.int (3 : Int32)), (.int (7 : Int32))])) (fun _ k => XS.iconst X0.here hx rfl (hb hby d1_27) k) ?_
  refine OGo.st (B := s₁.setTop (mkF m 35 #[.val (.int (7 : Int32))] [])) (fun _ k => XS.icmpYes X0.here hx rfl (pc0 := 28) (pc' := 35) rfl (hb hby d1_28) rfl (by decide) (by decide) (by decide) k) ?_
  refine OGo.st (B := s₁.setTop (mkF m 36 #[.val (.int (7 : Int32))] [(.int (7 : Int32))])) (fun _ k => XS.iloadN X0.here hx rfl (hb hby d1_35) rfl k) ?_
  refine OGo.st (B := s₁.setTop (mkF m 37 #[.val (.int (7 : Int32))] [(.int (4 : Int32)), (.int (7 : Int32))])) (fun _ k => XS.iconst X0.here hx rfl (hb hby d1_36) k) ?_
  refine OGo.st (B := s₁.setTop (mkF m 44 #[.val (.int (7 : Int32))] [])) (fun _ k => XS.icmpYes X0.here hx rfl (pc0 := 37) (pc' := 44) rfl (hb hby d1_37) rfl (by decide) (by decide) (by decide) k) ?_
  refine OGo.st (B := s₁.setTop (mkF m 45 #[.val (.int (7 : Int32))] [(.int (7 : Int32))])) (fun _ k => XS.iloadN X0.here hx rfl (hb hby d1_44) rfl k) ?_
  refine OGo.st (B := s₁.setTop (mkF m 46 #[.val (.int (7 : Int32))] [(.int (5 : Int32)), (.int (7 : Int32))])) (fun _ k => XS.iconst X0.here hx rfl (hb hby d1_45) k) ?_
  refine OGo.st (B := s₁.setTop (mkF m 53 #[.val (.int (7 : Int32))] [])) (fun _ k => XS.icmpYes X0.here hx rfl (pc0 := 46) (pc' := 53) rfl (hb hby d1_46) rfl (by decide) (by decide) (by decide) k) ?_
  refine OGo.st (B := s₁.setTop (mkF m 54 #[.val (.int (7 : Int32))] [(.int (7 : Int32))])) (fun _ k => XS.iloadN X0.here hx rfl (hb hby d1_53) rfl k) ?_
  refine OGo.st (B := s₁.setTop (mkF m 56 #[.val (.int (7 : Int32))] [(.int (6 : Int32)), (.int (7 : Int32))])) (fun _ k => XS.bipush X0.here hx rfl (hb hby d1_54) k) ?_
  refine OGo.st (B := s₁.setTop (mkF m 63 #[.val (.int (7 : Int32))] [])) (fun _ k => XS.icmpYes X0.here hx rfl (pc0 := 56) (pc' := 63) rfl (hb hby d1_56) rfl (by decide) (by decide) (by decide) k) ?_
  obtain ⟨T1, X1, e1, st1⟩ := getS2 X0 hx hZ hown (host := "") (Or.inl (hw _ (List.mem_of_getElem? (i := 28) rfl))) Via.refl e0 S (g := (mkF m 63 #[.val (.int (7 : Int32))] [])) rfl (hb hby d1_63)
  refine OGo.st (B := T1.setTop (mkF m 66 #[.val (.int (7 : Int32))] [(.ref w)])) st1 ?_
  exact own_retA X1 hx hret hlk rfl rfl rfl (hb hby d1_66) ⟨rfl, N0, e1⟩ (by decide) (by decide)
theorem d2_0 : decode prog_53_method_4_code 0 = .ok (.aload_n 0, 1) := by decide +kernel
theorem d2_1 : decode prog_53_method_4_code 1 = .ok (.getstatic 10, 3) := by decide +kernel
theorem d2_4 : decode prog_53_method_4_code 4 = .ok (.if_acmp .eq 24, 3) := by decide +kernel
theorem d2_7 : decode prog_53_method_4_code 7 = .ok (.aload_n 0, 1) := by decide +kernel
theorem d2_8 : decode prog_53_method_4_code 8 = .ok (.getstatic 16, 3) := by decide +kernel
theorem d2_11 : decode prog_53_method_4_code 11 = .ok (.if_acmp .eq 17, 3) := by decide +kernel
theorem d2_14 : decode prog_53_method_4_code 14 = .ok (.aload_n 0, 1) := by decide +kernel
theorem d2_15 : decode prog_53_method_4_code 15 = .ok (.getstatic 19, 3) := by decide +kernel
theorem d2_18 : decode prog_53_method_4_code 18 = .ok (.if_acmp .eq 10, 3) := by decide +kernel
theorem d2_21 : decode prog_53_method_4_code 21 = .ok (.aload_n 0, 1) := by decide +kernel
theorem d2_22 : decode prog_53_method_4_code 22 = .ok (.getstatic 22, 3) := by decide +kernel
theorem d2_25 : decode prog_53_method_4_code 25 = .ok (.if_acmp .ne 7, 3) := by decide +kernel
theorem d2_28 : decode prog_53_method_4_code 28 = .ok (.iconst 1, 1) := by decide +kernel
theorem d2_29 : decode prog_53_method_4_code 29 = .ok (.goto 4, 3) := by decide +kernel
theorem d2_32 : decode prog_53_method_4_code 32 = .ok (.iconst 0, 1) := by decide +kernel
theorem d2_33 : decode prog_53_method_4_code 33 = .ok (.ireturn, 1) := by decide +kernel
theorem pn_com_example_graphwright_graphwright_cli_Verdict : plainName "com/example/graphwright/graphwright/cli/Verdict" = true := by first | (simp [plainName, overriddenIn]; done) | decide +kernel
theorem ef_rm2 (m : MethodId) (x0 : Addr) : entryFrame m #[(.ref x0)] 1 = mkF m 0 #[.val (.ref x0)] [] := by first | (simp [entryFrame, mkF, argsToLocals, Value.category]; done) | rfl
set_option maxRecDepth 65536 in
set_option maxHeartbeats 40000000 in
theorem rm2 (l : Launch) (Z : State) (a0 : Array Value) (hw : ∀ d ∈ tables_1, d.before a0 Z = true) (a w_BUG w_CRASH w_DIFFER w_UNSTABLE : Addr) (r : Int32) (h0 : Heap) (n0 : Nat) (S_BUG : Sta Z h0 "com/example/graphwright/graphwright/cli/Verdict" "BUG" "Lcom/example/graphwright/graphwright/cli/Verdict;" (.ref w_BUG)) (S_CRASH : Sta Z h0 "com/example/graphwright/graphwright/cli/Verdict" "CRASH" "Lcom/example/graphwright/graphwright/cli/Verdict;" (.ref w_CRASH)) (S_DIFFER : Sta Z h0 "com/example/graphwright/graphwright/cli/Verdict" "DIFFER" "Lcom/example/graphwright/graphwright/cli/Verdict;" (.ref w_DIFFER)) (S_UNSTABLE : Sta Z h0 "com/example/graphwright/graphwright/cli/Verdict" "UNSTABLE" "Lcom/example/graphwright/graphwright/cli/Verdict;" (.ref w_UNSTABLE)) (hr : (if a = w_BUG ∨ a = w_CRASH ∨ a = w_DIFFER ∨ a = w_UNSTABLE then (1 : Int32) else 0) = r) :
    OMet l Z (⟨"com/example/graphwright/graphwright/cli/Verdict", "isFault", "()Z"⟩ : MethodName) prog_53_method_4_code 1 (some .boolean) [] ({ frames := 0, cells := 0, slots := 0, locals := 0 } : Room) #[(.ref a)] h0 (OPure (some (.int r)) h0 n0) := by
  refine OMet.of (plainFor_of_name pn_com_example_graphwright_graphwright_cli_Verdict) ?_
  intro p e s m below meth c s₁ hx hby hml hnd hown hnm hret hlk hZ X0 e0
  replace hown : s.vm.findClass "com/example/graphwright/graphwright/cli/Verdict" = some m.cls := hown
  replace hml : c.maxLocals = 1 := hml
  have N0 := Fr.nil n0
  rw [ef_rm2 m a]
  refine OGo.st (B := s₁.setTop (mkF m 1 #[.val (.ref a)] [(.ref a)])) (fun _ k => XS.aloadN X0.here hx rfl (hb hby d2_0) rfl rfl k) ?_
  obtain ⟨T1, X1, e1, st1⟩ := getS2 X0 hx hZ hown (host := "") (Or.inl (hw _ (List.mem_of_getElem? (i := 12) rfl))) Via.refl e0 S_BUG (g := (mkF m 1 #[.val (.ref a)] [(.ref a)])) rfl (hb hby d2_1)
  refine OGo.st (B := T1.setTop (mkF m 4 #[.val (.ref a)] [(.ref w_BUG), (.ref a)])) st1 ?_
  by_cases h0 : a = w_BUG
  · skip
    refine OGo.st (B := T1.setTop (mkF m 28 #[.val (.ref a)] [])) (fun _ k => Jvm.RoadKit.acmp (g := (mkF m 4 #[.val (.ref a)] [(.ref w_BUG), (.ref a)])) X1 hx rfl rfl rfl (pc0 := 4) (pc' := 28) (same := true) rfl (hb hby d2_4) rfl (decide_eq_true (congrArg Value.ref h0)) (by decide) (by decide) k) ?_
    refine OGo.st (B := T1.setTop (mkF m 29 #[.val (.ref a)] [(.int (1 : Int32))])) (fun _ k => XS.iconst X1.here hx rfl (hb hby d2_28) k) ?_
    refine OGo.st (B := T1.setTop (mkF m 33 #[.val (.ref a)] [(.int (1 : Int32))])) (fun _ k => XS.goto X1.here hx rfl (pc0 := 29) (pc' := 33) rfl (hb hby d2_29) (by decide) (by decide) k) ?_
    exact own_retZ X1 hx hret hlk (hb hby d2_33) ⟨by rw [← hr, if_pos (Or.inl h0)]; rfl, N0, e1⟩ (by decide) (by decide)
  · skip
    refine OGo.st (B := T1.setTop (mkF m 7 #[.val (.ref a)] [])) (fun _ k => Jvm.RoadKit.acmp (g := (mkF m 4 #[.val (.ref a)] [(.ref w_BUG), (.ref a)])) X1 hx rfl rfl rfl (pc0 := 4) (pc' := 7) (same := false) rfl (hb hby d2_4) rfl (decide_eq_false fun q => h0 (Value.ref.inj q)) (by decide) (by decide) k) ?_
    refine OGo.st (B := T1.setTop (mkF m 8 #[.val (.ref a)] [(.ref a)])) (fun _ k => XS.aloadN X1.here hx rfl (hb hby d2_7) rfl rfl k) ?_
    obtain ⟨T2, X2, e2, st2⟩ := getS2 X1 hx hZ hown (host := "") (Or.inl (hw _ (List.mem_of_getElem? (i := 14) rfl))) Via.refl e1 S_CRASH (g := (mkF m 8 #[.val (.ref a)] [(.ref a)])) rfl (hb hby d2_8)
    refine OGo.st (B := T2.setTop (mkF m 11 #[.val (.ref a)] [(.ref w_CRASH), (.ref a)])) st2 ?_
    by_cases h1 : a = w_CRASH
    · skip
      refine OGo.st (B := T2.setTop (mkF m 28 #[.val (.ref a)] [])) (fun _ k => Jvm.RoadKit.acmp (g := (mkF m 11 #[.val (.ref a)] [(.ref w_CRASH), (.ref a)])) X2 hx rfl rfl rfl (pc0 := 11) (pc' := 28) (same := true) rfl (hb hby d2_11) rfl (decide_eq_true (congrArg Value.ref h1)) (by decide) (by decide) k) ?_
      refine OGo.st (B := T2.setTop (mkF m 29 #[.val (.ref a)] [(.int (1 : Int32))])) (fun _ k => XS.iconst X2.here hx rfl (hb hby d2_28) k) ?_
      refine OGo.st (B := T2.setTop (mkF m 33 #[.val (.ref a)] [(.int (1 : Int32))])) (fun _ k => XS.goto X2.here hx rfl (pc0 := 29) (pc' := 33) rfl (hb hby d2_29) (by decide) (by decide) k) ?_
      exact own_retZ X2 hx hret hlk (hb hby d2_33) ⟨by rw [← hr, if_pos (Or.inr (Or.inl h1))]; rfl, N0, e2⟩ (by decide) (by decide)
    · skip
      refine OGo.st (B := T2.setTop (mkF m 14 #[.val (.ref a)] [])) (fun _ k => Jvm.RoadKit.acmp (g := (mkF m 11 #[.val (.ref a)] [(.ref w_CRASH), (.ref a)])) X2 hx rfl rfl rfl (pc0 := 11) (pc' := 14) (same := false) rfl (hb hby d2_11) rfl (decide_eq_false fun q => h1 (Value.ref.inj q)) (by decide) (by decide) k) ?_
      refine OGo.st (B := T2.setTop (mkF m 15 #[.val (.ref a)] [(.ref a)])) (fun _ k => XS.aloadN X2.here hx rfl (hb hby d2_14) rfl rfl k) ?_
      obtain ⟨T3, X3, e3, st3⟩ := getS2 X2 hx hZ hown (host := "") (Or.inl (hw _ (List.mem_of_getElem? (i := 16) rfl))) Via.refl e2 S_DIFFER (g := (mkF m 15 #[.val (.ref a)] [(.ref a)])) rfl (hb hby d2_15)
      refine OGo.st (B := T3.setTop (mkF m 18 #[.val (.ref a)] [(.ref w_DIFFER), (.ref a)])) st3 ?_
      by_cases h2 : a = w_DIFFER
      · skip
        refine OGo.st (B := T3.setTop (mkF m 28 #[.val (.ref a)] [])) (fun _ k => Jvm.RoadKit.acmp (g := (mkF m 18 #[.val (.ref a)] [(.ref w_DIFFER), (.ref a)])) X3 hx rfl rfl rfl (pc0 := 18) (pc' := 28) (same := true) rfl (hb hby d2_18) rfl (decide_eq_true (congrArg Value.ref h2)) (by decide) (by decide) k) ?_
        refine OGo.st (B := T3.setTop (mkF m 29 #[.val (.ref a)] [(.int (1 : Int32))])) (fun _ k => XS.iconst X3.here hx rfl (hb hby d2_28) k) ?_
        refine OGo.st (B := T3.setTop (mkF m 33 #[.val (.ref a)] [(.int (1 : Int32))])) (fun _ k => XS.goto X3.here hx rfl (pc0 := 29) (pc' := 33) rfl (hb hby d2_29) (by decide) (by decide) k) ?_
        exact own_retZ X3 hx hret hlk (hb hby d2_33) ⟨by rw [← hr, if_pos (Or.inr (Or.inr (Or.inl h2)))]; rfl, N0, e3⟩ (by decide) (by decide)
      · skip
        refine OGo.st (B := T3.setTop (mkF m 21 #[.val (.ref a)] [])) (fun _ k => Jvm.RoadKit.acmp (g := (mkF m 18 #[.val (.ref a)] [(.ref w_DIFFER), (.ref a)])) X3 hx rfl rfl rfl (pc0 := 18) (pc' := 21) (same := false) rfl (hb hby d2_18) rfl (decide_eq_false fun q => h2 (Value.ref.inj q)) (by decide) (by decide) k) ?_
        refine OGo.st (B := T3.setTop (mkF m 22 #[.val (.ref a)] [(.ref a)])) (fun _ k => XS.aloadN X3.here hx rfl (hb hby d2_21) rfl rfl k) ?_
        obtain ⟨T4, X4, e4, st4⟩ := getS2 X3 hx hZ hown (host := "") (Or.inl (hw _ (List.mem_of_getElem? (i := 18) rfl))) Via.refl e3 S_UNSTABLE (g := (mkF m 22 #[.val (.ref a)] [(.ref a)])) rfl (hb hby d2_22)
        refine OGo.st (B := T4.setTop (mkF m 25 #[.val (.ref a)] [(.ref w_UNSTABLE), (.ref a)])) st4 ?_
        by_cases h3 : a = w_UNSTABLE
        · skip
          refine OGo.st (B := T4.setTop (mkF m 28 #[.val (.ref a)] [])) (fun _ k => Jvm.RoadKit.acmp (g := (mkF m 25 #[.val (.ref a)] [(.ref w_UNSTABLE), (.ref a)])) X4 hx rfl rfl rfl (pc0 := 25) (pc' := 28) (same := true) rfl (hb hby d2_25) rfl (decide_eq_true (congrArg Value.ref h3)) (by decide) (by decide) k) ?_
          refine OGo.st (B := T4.setTop (mkF m 29 #[.val (.ref a)] [(.int (1 : Int32))])) (fun _ k => XS.iconst X4.here hx rfl (hb hby d2_28) k) ?_
          refine OGo.st (B := T4.setTop (mkF m 33 #[.val (.ref a)] [(.int (1 : Int32))])) (fun _ k => XS.goto X4.here hx rfl (pc0 := 29) (pc' := 33) rfl (hb hby d2_29) (by decide) (by decide) k) ?_
          exact own_retZ X4 hx hret hlk (hb hby d2_33) ⟨by rw [← hr, if_pos (Or.inr (Or.inr (Or.inr (h3))))]; rfl, N0, e4⟩ (by decide) (by decide)
        · skip
          refine OGo.st (B := T4.setTop (mkF m 32 #[.val (.ref a)] [])) (fun _ k => Jvm.RoadKit.acmp (g := (mkF m 25 #[.val (.ref a)] [(.ref w_UNSTABLE), (.ref a)])) X4 hx rfl rfl rfl (pc0 := 25) (pc' := 32) (same := false) rfl (hb hby d2_25) rfl (decide_eq_false fun q => h3 (Value.ref.inj q)) (by decide) (by decide) k) ?_
          refine OGo.st (B := T4.setTop (mkF m 33 #[.val (.ref a)] [(.int (0 : Int32))])) (fun _ k => XS.iconst X4.here hx rfl (hb hby d2_32) k) ?_
          exact own_retZ X4 hx hret hlk (hb hby d2_33) ⟨by rw [← hr, if_neg (by simp [h0, h1, h2, h3])]; rfl, N0, e4⟩ (by decide) (by decide)
theorem d3_0 : decode prog_53_method_5_code 0 = .ok (.aload_n 0, 1) := by decide +kernel
theorem d3_1 : decode prog_53_method_5_code 1 = .ok (.getstatic 19, 3) := by decide +kernel
theorem d3_4 : decode prog_53_method_5_code 4 = .ok (.if_acmp .eq 10, 3) := by decide +kernel
theorem d3_7 : decode prog_53_method_5_code 7 = .ok (.aload_n 0, 1) := by decide +kernel
theorem d3_8 : decode prog_53_method_5_code 8 = .ok (.getstatic 22, 3) := by decide +kernel
theorem d3_11 : decode prog_53_method_5_code 11 = .ok (.if_acmp .ne 7, 3) := by decide +kernel
theorem d3_14 : decode prog_53_method_5_code 14 = .ok (.iconst 1, 1) := by decide +kernel
theorem d3_15 : decode prog_53_method_5_code 15 = .ok (.goto 4, 3) := by decide +kernel
theorem d3_18 : decode prog_53_method_5_code 18 = .ok (.iconst 0, 1) := by decide +kernel
theorem d3_19 : decode prog_53_method_5_code 19 = .ok (.ireturn, 1) := by decide +kernel
theorem ef_rm3 (m : MethodId) (x0 : Addr) : entryFrame m #[(.ref x0)] 1 = mkF m 0 #[.val (.ref x0)] [] := by first | (simp [entryFrame, mkF, argsToLocals, Value.category]; done) | rfl
set_option maxRecDepth 65536 in
set_option maxHeartbeats 40000000 in
theorem rm3 (l : Launch) (Z : State) (a0 : Array Value) (hw : ∀ d ∈ tables_1, d.before a0 Z = true) (a w_DIFFER w_UNSTABLE : Addr) (r : Int32) (h0 : Heap) (n0 : Nat) (S_DIFFER : Sta Z h0 "com/example/graphwright/graphwright/cli/Verdict" "DIFFER" "Lcom/example/graphwright/graphwright/cli/Verdict;" (.ref w_DIFFER)) (S_UNSTABLE : Sta Z h0 "com/example/graphwright/graphwright/cli/Verdict" "UNSTABLE" "Lcom/example/graphwright/graphwright/cli/Verdict;" (.ref w_UNSTABLE)) (hr : (if a = w_DIFFER ∨ a = w_UNSTABLE then (1 : Int32) else 0) = r) :
    OMet l Z (⟨"com/example/graphwright/graphwright/cli/Verdict", "needsComparison", "()Z"⟩ : MethodName) prog_53_method_5_code 1 (some .boolean) [] ({ frames := 0, cells := 0, slots := 0, locals := 0 } : Room) #[(.ref a)] h0 (OPure (some (.int r)) h0 n0) := by
  refine OMet.of (plainFor_of_name pn_com_example_graphwright_graphwright_cli_Verdict) ?_
  intro p e s m below meth c s₁ hx hby hml hnd hown hnm hret hlk hZ X0 e0
  replace hown : s.vm.findClass "com/example/graphwright/graphwright/cli/Verdict" = some m.cls := hown
  replace hml : c.maxLocals = 1 := hml
  have N0 := Fr.nil n0
  rw [ef_rm3 m a]
  refine OGo.st (B := s₁.setTop (mkF m 1 #[.val (.ref a)] [(.ref a)])) (fun _ k => XS.aloadN X0.here hx rfl (hb hby d3_0) rfl rfl k) ?_
  obtain ⟨T1, X1, e1, st1⟩ := getS2 X0 hx hZ hown (host := "") (Or.inl (hw _ (List.mem_of_getElem? (i := 16) rfl))) Via.refl e0 S_DIFFER (g := (mkF m 1 #[.val (.ref a)] [(.ref a)])) rfl (hb hby d3_1)
  refine OGo.st (B := T1.setTop (mkF m 4 #[.val (.ref a)] [(.ref w_DIFFER), (.ref a)])) st1 ?_
  by_cases h0 : a = w_DIFFER
  · skip
    refine OGo.st (B := T1.setTop (mkF m 14 #[.val (.ref a)] [])) (fun _ k => Jvm.RoadKit.acmp (g := (mkF m 4 #[.val (.ref a)] [(.ref w_DIFFER), (.ref a)])) X1 hx rfl rfl rfl (pc0 := 4) (pc' := 14) (same := true) rfl (hb hby d3_4) rfl (decide_eq_true (congrArg Value.ref h0)) (by decide) (by decide) k) ?_
    refine OGo.st (B := T1.setTop (mkF m 15 #[.val (.ref a)] [(.int (1 : Int32))])) (fun _ k => XS.iconst X1.here hx rfl (hb hby d3_14) k) ?_
    refine OGo.st (B := T1.setTop (mkF m 19 #[.val (.ref a)] [(.int (1 : Int32))])) (fun _ k => XS.goto X1.here hx rfl (pc0 := 15) (pc' := 19) rfl (hb hby d3_15) (by decide) (by decide) k) ?_
    exact own_retZ X1 hx hret hlk (hb hby d3_19) ⟨by rw [← hr, if_pos (Or.inl h0)]; rfl, N0, e1⟩ (by decide) (by decide)
  · skip
    refine OGo.st (B := T1.setTop (mkF m 7 #[.val (.ref a)] [])) (fun _ k => Jvm.RoadKit.acmp (g := (mkF m 4 #[.val (.ref a)] [(.ref w_DIFFER), (.ref a)])) X1 hx rfl rfl rfl (pc0 := 4) (pc' := 7) (same := false) rfl (hb hby d3_4) rfl (decide_eq_false fun q => h0 (Value.ref.inj q)) (by decide) (by decide) k) ?_
    refine OGo.st (B := T1.setTop (mkF m 8 #[.val (.ref a)] [(.ref a)])) (fun _ k => XS.aloadN X1.here hx rfl (hb hby d3_7) rfl rfl k) ?_
    obtain ⟨T2, X2, e2, st2⟩ := getS2 X1 hx hZ hown (host := "") (Or.inl (hw _ (List.mem_of_getElem? (i := 18) rfl))) Via.refl e1 S_UNSTABLE (g := (mkF m 8 #[.val (.ref a)] [(.ref a)])) rfl (hb hby d3_8)
    refine OGo.st (B := T2.setTop (mkF m 11 #[.val (.ref a)] [(.ref w_UNSTABLE), (.ref a)])) st2 ?_
    by_cases h1 : a = w_UNSTABLE
    · skip
      refine OGo.st (B := T2.setTop (mkF m 14 #[.val (.ref a)] [])) (fun _ k => Jvm.RoadKit.acmp (g := (mkF m 11 #[.val (.ref a)] [(.ref w_UNSTABLE), (.ref a)])) X2 hx rfl rfl rfl (pc0 := 11) (pc' := 14) (same := true) rfl (hb hby d3_11) rfl (decide_eq_true (congrArg Value.ref h1)) (by decide) (by decide) k) ?_
      refine OGo.st (B := T2.setTop (mkF m 15 #[.val (.ref a)] [(.int (1 : Int32))])) (fun _ k => XS.iconst X2.here hx rfl (hb hby d3_14) k) ?_
      refine OGo.st (B := T2.setTop (mkF m 19 #[.val (.ref a)] [(.int (1 : Int32))])) (fun _ k => XS.goto X2.here hx rfl (pc0 := 15) (pc' := 19) rfl (hb hby d3_15) (by decide) (by decide) k) ?_
      exact own_retZ X2 hx hret hlk (hb hby d3_19) ⟨by rw [← hr, if_pos (Or.inr (h1))]; rfl, N0, e2⟩ (by decide) (by decide)
    · skip
      refine OGo.st (B := T2.setTop (mkF m 18 #[.val (.ref a)] [])) (fun _ k => Jvm.RoadKit.acmp (g := (mkF m 11 #[.val (.ref a)] [(.ref w_UNSTABLE), (.ref a)])) X2 hx rfl rfl rfl (pc0 := 11) (pc' := 18) (same := false) rfl (hb hby d3_11) rfl (decide_eq_false fun q => h1 (Value.ref.inj q)) (by decide) (by decide) k) ?_
      refine OGo.st (B := T2.setTop (mkF m 19 #[.val (.ref a)] [(.int (0 : Int32))])) (fun _ k => XS.iconst X2.here hx rfl (hb hby d3_18) k) ?_
      exact own_retZ X2 hx hret hlk (hb hby d3_19) ⟨by rw [← hr, if_neg (by simp [h0, h1])]; rfl, N0, e2⟩ (by decide) (by decide)
theorem pd_0 : parseMethodDescriptor "(I)Lcom/example/graphwright/graphwright/cli/Verdict;" = some ⟨[.int], some (.object "com/example/graphwright/graphwright/cli/Verdict")⟩ := by decide +kernel
theorem pd_1 : parseMethodDescriptor "()Z" = some ⟨[], some .boolean⟩ := by decide +kernel
theorem ef_rm0 (m : MethodId) (x0 : Int32) : entryFrame m #[(.int x0)] maxLocals = mkF m 0 #[.val (.int x0), .unset, .unset, .unset, .unset] [] := by first | (simp [entryFrame, mkF, argsToLocals, Value.category, maxLocals]; done) | rfl
set_option maxRecDepth 65536 in
set_option maxHeartbeats 40000000 in
theorem rm0 (l : Launch) (Z : State) (a0 : Array Value) (hw : ∀ d ∈ tables_1, d.before a0 Z = true) (p1 : Int32) (w_VALID w_INVALID w_BUG w_TIMEOUT w_CRASH w_DIFFER w_UNSTABLE w_KNOWN : Addr) (h0 : Heap) (n0 : Nat) (S_VALID : Sta Z h0 "com/example/graphwright/graphwright/cli/Verdict" "VALID" "Lcom/example/graphwright/graphwright/cli/Verdict;" (.ref w_VALID)) (S_INVALID : Sta Z h0 "com/example/graphwright/graphwright/cli/Verdict" "INVALID" "Lcom/example/graphwright/graphwright/cli/Verdict;" (.ref w_INVALID)) (S_BUG : Sta Z h0 "com/example/graphwright/graphwright/cli/Verdict" "BUG" "Lcom/example/graphwright/graphwright/cli/Verdict;" (.ref w_BUG)) (S_TIMEOUT : Sta Z h0 "com/example/graphwright/graphwright/cli/Verdict" "TIMEOUT" "Lcom/example/graphwright/graphwright/cli/Verdict;" (.ref w_TIMEOUT)) (S_CRASH : Sta Z h0 "com/example/graphwright/graphwright/cli/Verdict" "CRASH" "Lcom/example/graphwright/graphwright/cli/Verdict;" (.ref w_CRASH)) (S_DIFFER : Sta Z h0 "com/example/graphwright/graphwright/cli/Verdict" "DIFFER" "Lcom/example/graphwright/graphwright/cli/Verdict;" (.ref w_DIFFER)) (S_UNSTABLE : Sta Z h0 "com/example/graphwright/graphwright/cli/Verdict" "UNSTABLE" "Lcom/example/graphwright/graphwright/cli/Verdict;" (.ref w_UNSTABLE)) (S_KNOWN : Sta Z h0 "com/example/graphwright/graphwright/cli/Verdict" "KNOWN" "Lcom/example/graphwright/graphwright/cli/Verdict;" (.ref w_KNOWN)) (E_VALID : Exa Z h0 w_VALID "com/example/graphwright/graphwright/cli/Verdict") (E_INVALID : Exa Z h0 w_INVALID "com/example/graphwright/graphwright/cli/Verdict") (E_BUG : Exa Z h0 w_BUG "com/example/graphwright/graphwright/cli/Verdict") (E_TIMEOUT : Exa Z h0 w_TIMEOUT "com/example/graphwright/graphwright/cli/Verdict") (E_CRASH : Exa Z h0 w_CRASH "com/example/graphwright/graphwright/cli/Verdict") (E_DIFFER : Exa Z h0 w_DIFFER "com/example/graphwright/graphwright/cli/Verdict") (E_UNSTABLE : Exa Z h0 w_UNSTABLE "com/example/graphwright/graphwright/cli/Verdict") (E_KNOWN : Exa Z h0 w_KNOWN "com/example/graphwright/graphwright/cli/Verdict") (n0_1 : w_VALID ≠ w_INVALID) (n0_2 : w_VALID ≠ w_BUG) (n0_3 : w_VALID ≠ w_TIMEOUT) (n0_4 : w_VALID ≠ w_CRASH) (n0_5 : w_VALID ≠ w_DIFFER) (n0_6 : w_VALID ≠ w_UNSTABLE) (n0_7 : w_VALID ≠ w_KNOWN) (n1_0 : w_INVALID ≠ w_VALID) (n1_2 : w_INVALID ≠ w_BUG) (n1_3 : w_INVALID ≠ w_TIMEOUT) (n1_4 : w_INVALID ≠ w_CRASH) (n1_5 : w_INVALID ≠ w_DIFFER) (n1_6 : w_INVALID ≠ w_UNSTABLE) (n1_7 : w_INVALID ≠ w_KNOWN) (n2_0 : w_BUG ≠ w_VALID) (n2_1 : w_BUG ≠ w_INVALID) (n2_3 : w_BUG ≠ w_TIMEOUT) (n2_4 : w_BUG ≠ w_CRASH) (n2_5 : w_BUG ≠ w_DIFFER) (n2_6 : w_BUG ≠ w_UNSTABLE) (n2_7 : w_BUG ≠ w_KNOWN) (n3_0 : w_TIMEOUT ≠ w_VALID) (n3_1 : w_TIMEOUT ≠ w_INVALID) (n3_2 : w_TIMEOUT ≠ w_BUG) (n3_4 : w_TIMEOUT ≠ w_CRASH) (n3_5 : w_TIMEOUT ≠ w_DIFFER) (n3_6 : w_TIMEOUT ≠ w_UNSTABLE) (n3_7 : w_TIMEOUT ≠ w_KNOWN) (n4_0 : w_CRASH ≠ w_VALID) (n4_1 : w_CRASH ≠ w_INVALID) (n4_2 : w_CRASH ≠ w_BUG) (n4_3 : w_CRASH ≠ w_TIMEOUT) (n4_5 : w_CRASH ≠ w_DIFFER) (n4_6 : w_CRASH ≠ w_UNSTABLE) (n4_7 : w_CRASH ≠ w_KNOWN) (n5_0 : w_DIFFER ≠ w_VALID) (n5_1 : w_DIFFER ≠ w_INVALID) (n5_2 : w_DIFFER ≠ w_BUG) (n5_3 : w_DIFFER ≠ w_TIMEOUT) (n5_4 : w_DIFFER ≠ w_CRASH) (n5_6 : w_DIFFER ≠ w_UNSTABLE) (n5_7 : w_DIFFER ≠ w_KNOWN) (n6_0 : w_UNSTABLE ≠ w_VALID) (n6_1 : w_UNSTABLE ≠ w_INVALID) (n6_2 : w_UNSTABLE ≠ w_BUG) (n6_3 : w_UNSTABLE ≠ w_TIMEOUT) (n6_4 : w_UNSTABLE ≠ w_CRASH) (n6_5 : w_UNSTABLE ≠ w_DIFFER) (n6_7 : w_UNSTABLE ≠ w_KNOWN) (n7_0 : w_KNOWN ≠ w_VALID) (n7_1 : w_KNOWN ≠ w_INVALID) (n7_2 : w_KNOWN ≠ w_BUG) (n7_3 : w_KNOWN ≠ w_TIMEOUT) (n7_4 : w_KNOWN ≠ w_CRASH) (n7_5 : w_KNOWN ≠ w_DIFFER) (n7_6 : w_KNOWN ≠ w_UNSTABLE) :
    OMet l Z x code maxLocals ret tables_1 room_1 #[(.int p1)] h0 (fun v _ L => v = some (.int (1 : Int32)) ∧ Fr n0 L) := by
  refine OMet.of (plainFor_of_name pn_com_example_graphwright_graphwright_cli_VerdictIsFaultPinLaw) ?_
  intro p e s m below meth c s₁ hx hby hml hnd hown hnm hret hlk hZ X0 e0
  replace hown : s.vm.findClass "com/example/graphwright/graphwright/cli/VerdictIsFaultPinLaw" = some m.cls := hown
  replace hml : c.maxLocals = 5 := hml
  have N0 := Fr.nil n0
  replace hret : meth.sig.returnType = some .boolean := hret
  rw [ef_rm0 m p1]
  refine OGo.st (B := s₁.setTop (mkF m 1 #[.val (.int p1), .unset, .unset, .unset, .unset] [(.int p1)])) (fun _ k => XS.iloadN X0.here hx rfl (hb hby at_0) rfl k) ?_
  refine OGo.st (B := s₁.setTop (mkF m 3 #[.val (.int p1), .unset, .unset, .unset, .unset] [(.int (7 : Int32)), (.int p1)])) (fun _ k => XS.bipush X0.here hx rfl (hb hby at_1) k) ?_
  refine OGo.st (B := s₁.setTop (mkF m 4 #[.val (.int p1), .unset, .unset, .unset, .unset] [(.int (p1 &&& (7 : Int32)))])) (fun _ k => XS.iand X0.here hx rfl (hb hby at_3) rfl k) ?_
  refine OGo.st (B := s₁.setTop (mkF m 5 #[.val (.int p1), .val (.int (p1 &&& (7 : Int32))), .unset, .unset, .unset] [])) (fun _ k => XS.istoreN X0.here hx rfl (hb hby at_4) rfl (l' := #[.val (.int p1), .val (.int (p1 &&& (7 : Int32))), .unset, .unset, .unset]) rfl k) ?_
  refine OGo.st (B := s₁.setTop (mkF m 6 #[.val (.int p1), .val (.int (p1 &&& (7 : Int32))), .unset, .unset, .unset] [(.int (p1 &&& (7 : Int32)))])) (fun _ k => XS.iloadN X0.here hx rfl (hb hby at_5) rfl k) ?_
  rcases own_and7 p1 with hk | hk | hk | hk | hk | hk | hk | hk
  · skip
    rw [hk]
    obtain ⟨v1, T1, L1, X1, hQ1, st1⟩ := (rm1_0 l Z a0 hw w_VALID h0 n0 S_VALID).static (W := 0) X0 hx hZ hown (hw _ (List.mem_of_getElem? (i := 0) rfl)) (hw _ (List.mem_of_getElem? (i := 1) rfl)) (hw _ (List.mem_of_getElem? (i := 2) rfl)) (hw _ (List.mem_of_getElem? (i := 3) rfl)) (by decide) (by decide) (by decide) e0 (by decide) (by decide) (g := (mkF m 6 #[.val (.int p1), .val (.int (0 : Int32)), .unset, .unset, .unset] [(.int (0 : Int32))])) rfl (by rw [hml]; rfl) (argsL := [(.int (0 : Int32))]) (rest := []) rfl (lenOf pd_0 rfl) rfl (by show 2 * 0 + _ ≤ _; exact Nat.le_of_eq rfl) (hb hby at_6)
    obtain ⟨rfl, N1q, e1⟩ := hQ1
    have N1 := Fr.app N0 N1q
    refine OGo.st (B := T1.setTop (mkF m 9 #[.val (.int p1), .val (.int (0 : Int32)), .unset, .unset, .unset] [(.ref w_VALID)])) st1 ?_
    refine OGo.st (B := T1.setTop (mkF m 10 #[.val (.int p1), .val (.int (0 : Int32)), .val (.ref w_VALID), .unset, .unset] [])) (fun _ k => XS.astoreN X1.here hx rfl (hb hby at_9) rfl rfl (l' := #[.val (.int p1), .val (.int (0 : Int32)), .val (.ref w_VALID), .unset, .unset]) rfl k) ?_
    refine OGo.st (B := T1.setTop (mkF m 12 #[.val (.int p1), .val (.int (0 : Int32)), .val (.ref w_VALID), .unset, .unset] [(.int (116 : Int32))])) (fun _ k => XS.bipush X1.here hx rfl (hb hby at_10) k) ?_
    refine OGo.st (B := T1.setTop (mkF m 13 #[.val (.int p1), .val (.int (0 : Int32)), .val (.ref w_VALID), .unset, .unset] [(.int (0 : Int32)), (.int (116 : Int32))])) (fun _ k => XS.iloadN X1.here hx rfl (hb hby at_12) rfl k) ?_
    refine OGo.st (B := T1.setTop (mkF m 14 #[.val (.int p1), .val (.int (0 : Int32)), .val (.ref w_VALID), .unset, .unset] [(.int ((116 : Int32) >>> ((0 : Int32) &&& 31)))])) (fun _ k => XS.ishr X1.here hx rfl (hb hby at_13) rfl k) ?_
    rw [(by decide : ((116 : Int32) >>> ((0 : Int32) &&& 31)) = (116 : Int32))]
    refine OGo.st (B := T1.setTop (mkF m 15 #[.val (.int p1), .val (.int (0 : Int32)), .val (.ref w_VALID), .unset, .unset] [(.int (1 : Int32)), (.int (116 : Int32))])) (fun _ k => XS.iconst X1.here hx rfl (hb hby at_14) k) ?_
    refine OGo.st (B := T1.setTop (mkF m 16 #[.val (.int p1), .val (.int (0 : Int32)), .val (.ref w_VALID), .unset, .unset] [(.int ((116 : Int32) &&& (1 : Int32)))])) (fun _ k => XS.iand X1.here hx rfl (hb hby at_15) rfl k) ?_
    rw [(by decide : ((116 : Int32) &&& (1 : Int32)) = (0 : Int32))]
    refine OGo.st (B := T1.setTop (mkF m 23 #[.val (.int p1), .val (.int (0 : Int32)), .val (.ref w_VALID), .unset, .unset] [])) (fun _ k => XS.ifYes X1.here hx rfl (pc0 := 16) (pc' := 23) rfl (hb hby at_16) rfl (by decide) (by decide) (by decide) k) ?_
    refine OGo.st (B := T1.setTop (mkF m 24 #[.val (.int p1), .val (.int (0 : Int32)), .val (.ref w_VALID), .unset, .unset] [(.int (0 : Int32))])) (fun _ k => XS.iconst X1.here hx rfl (hb hby at_23) k) ?_
    refine OGo.st (B := T1.setTop (mkF m 25 #[.val (.int p1), .val (.int (0 : Int32)), .val (.ref w_VALID), .val (.int (0 : Int32)), .unset] [])) (fun _ k => XS.istoreN X1.here hx rfl (hb hby at_24) rfl (l' := #[.val (.int p1), .val (.int (0 : Int32)), .val (.ref w_VALID), .val (.int (0 : Int32)), .unset]) rfl k) ?_
    refine OGo.st (B := T1.setTop (mkF m 26 #[.val (.int p1), .val (.int (0 : Int32)), .val (.ref w_VALID), .val (.int (0 : Int32)), .unset] [(.ref w_VALID)])) (fun _ k => XS.aloadN X1.here hx rfl (hb hby at_25) rfl rfl k) ?_
    obtain ⟨v2, T2, L2, X2, hQ2, st2⟩ := (rm2 l Z a0 hw w_VALID w_BUG w_CRASH w_DIFFER w_UNSTABLE (0 : Int32) h0 n0 S_BUG S_CRASH S_DIFFER S_UNSTABLE (by simp [n0_1, n0_2, n0_3, n0_4, n0_5, n0_6, n0_7, n1_0, n1_2, n1_3, n1_4, n1_5, n1_6, n1_7, n2_0, n2_1, n2_3, n2_4, n2_5, n2_6, n2_7, n3_0, n3_1, n3_2, n3_4, n3_5, n3_6, n3_7, n4_0, n4_1, n4_2, n4_3, n4_5, n4_6, n4_7, n5_0, n5_1, n5_2, n5_3, n5_4, n5_6, n5_7, n6_0, n6_1, n6_2, n6_3, n6_4, n6_5, n6_7, n7_0, n7_1, n7_2, n7_3, n7_4, n7_5, n7_6])).virt (W := 0) X1 hx hZ hown (hw _ (List.mem_of_getElem? (i := 7) rfl)) (hw _ (List.mem_of_getElem? (i := 8) rfl)) (nf_sel hZ (hw _ (List.mem_of_getElem? (i := 10) rfl))) (hw _ (List.mem_of_getElem? (i := 10) rfl)) (hw _ (List.mem_of_getElem? (i := 9) rfl)) (hw _ (List.mem_of_getElem? (i := 5) rfl)) (hw _ (List.mem_of_getElem? (i := 11) rfl)) (by decide) (by decide) (by decide) e1 (by decide) (by decide) (g := (mkF m 26 #[.val (.int p1), .val (.int (0 : Int32)), .val (.ref w_VALID), .val (.int (0 : Int32)), .unset] [(.ref w_VALID)])) rfl (by rw [hml]; rfl) E_VALID (argsL := []) (rest := []) rfl (lenOf pd_1 rfl) rfl (by show 2 * 0 + _ ≤ _; exact Nat.le_of_eq rfl) (hb hby at_26)
    obtain ⟨rfl, N2q, e2⟩ := hQ2
    have N2 := Fr.app N1 N2q
    refine OGo.st (B := T2.setTop (mkF m 29 #[.val (.int p1), .val (.int (0 : Int32)), .val (.ref w_VALID), .val (.int (0 : Int32)), .unset] [(.int (0 : Int32))])) st2 ?_
    refine OGo.st (B := T2.setTop (mkF m 31 #[.val (.int p1), .val (.int (0 : Int32)), .val (.ref w_VALID), .val (.int (0 : Int32)), .val (.int (0 : Int32))] [])) (fun _ k => XS.istore X2.here hx rfl (hb hby at_29) rfl (l' := #[.val (.int p1), .val (.int (0 : Int32)), .val (.ref w_VALID), .val (.int (0 : Int32)), .val (.int (0 : Int32))]) rfl k) ?_
    refine OGo.st (B := T2.setTop (mkF m 33 #[.val (.int p1), .val (.int (0 : Int32)), .val (.ref w_VALID), .val (.int (0 : Int32)), .val (.int (0 : Int32))] [(.int (0 : Int32))])) (fun _ k => XS.iload X2.here hx rfl (hb hby at_31) rfl k) ?_
    refine OGo.st (B := T2.setTop (mkF m 34 #[.val (.int p1), .val (.int (0 : Int32)), .val (.ref w_VALID), .val (.int (0 : Int32)), .val (.int (0 : Int32))] [(.int (0 : Int32)), (.int (0 : Int32))])) (fun _ k => XS.iloadN X2.here hx rfl (hb hby at_33) rfl k) ?_
    refine OGo.st (B := T2.setTop (mkF m 37 #[.val (.int p1), .val (.int (0 : Int32)), .val (.ref w_VALID), .val (.int (0 : Int32)), .val (.int (0 : Int32))] [])) (fun _ k => XS.icmpNo X2.here hx rfl (hb hby at_34) rfl (by decide) k) ?_
    refine OGo.st (B := T2.setTop (mkF m 38 #[.val (.int p1), .val (.int (0 : Int32)), .val (.ref w_VALID), .val (.int (0 : Int32)), .val (.int (0 : Int32))] [(.ref w_VALID)])) (fun _ k => XS.aloadN X2.here hx rfl (hb hby at_37) rfl rfl k) ?_
    obtain ⟨v3, T3, L3, X3, hQ3, st3⟩ := (rm3 l Z a0 hw w_VALID w_DIFFER w_UNSTABLE (0 : Int32) h0 n0 S_DIFFER S_UNSTABLE (by simp [n0_1, n0_2, n0_3, n0_4, n0_5, n0_6, n0_7, n1_0, n1_2, n1_3, n1_4, n1_5, n1_6, n1_7, n2_0, n2_1, n2_3, n2_4, n2_5, n2_6, n2_7, n3_0, n3_1, n3_2, n3_4, n3_5, n3_6, n3_7, n4_0, n4_1, n4_2, n4_3, n4_5, n4_6, n4_7, n5_0, n5_1, n5_2, n5_3, n5_4, n5_6, n5_7, n6_0, n6_1, n6_2, n6_3, n6_4, n6_5, n6_7, n7_0, n7_1, n7_2, n7_3, n7_4, n7_5, n7_6])).virt (W := 0) X2 hx hZ hown (hw _ (List.mem_of_getElem? (i := 20) rfl)) (hw _ (List.mem_of_getElem? (i := 21) rfl)) (nf_sel hZ (hw _ (List.mem_of_getElem? (i := 23) rfl))) (hw _ (List.mem_of_getElem? (i := 23) rfl)) (hw _ (List.mem_of_getElem? (i := 22) rfl)) (hw _ (List.mem_of_getElem? (i := 5) rfl)) (hw _ (List.mem_of_getElem? (i := 24) rfl)) (by decide) (by decide) (by decide) e2 (by decide) (by decide) (g := (mkF m 38 #[.val (.int p1), .val (.int (0 : Int32)), .val (.ref w_VALID), .val (.int (0 : Int32)), .val (.int (0 : Int32))] [(.ref w_VALID)])) rfl (by rw [hml]; rfl) E_VALID (argsL := []) (rest := []) rfl (lenOf pd_1 rfl) rfl (by show 2 * 0 + _ ≤ _; exact Nat.le_of_eq rfl) (hb hby at_38)
    obtain ⟨rfl, N3q, e3⟩ := hQ3
    have N3 := Fr.app N2 N3q
    refine OGo.st (B := T3.setTop (mkF m 41 #[.val (.int p1), .val (.int (0 : Int32)), .val (.ref w_VALID), .val (.int (0 : Int32)), .val (.int (0 : Int32))] [(.int (0 : Int32))])) st3 ?_
    refine OGo.st (B := T3.setTop (mkF m 49 #[.val (.int p1), .val (.int (0 : Int32)), .val (.ref w_VALID), .val (.int (0 : Int32)), .val (.int (0 : Int32))] [])) (fun _ k => XS.ifYes X3.here hx rfl (pc0 := 41) (pc' := 49) rfl (hb hby at_41) rfl (by decide) (by decide) (by decide) k) ?_
    refine OGo.st (B := T3.setTop (mkF m 50 #[.val (.int p1), .val (.int (0 : Int32)), .val (.ref w_VALID), .val (.int (0 : Int32)), .val (.int (0 : Int32))] [(.int (1 : Int32))])) (fun _ k => XS.iconst X3.here hx rfl (hb hby at_49) k) ?_
    refine OGo.st (B := T3.setTop (mkF m 54 #[.val (.int p1), .val (.int (0 : Int32)), .val (.ref w_VALID), .val (.int (0 : Int32)), .val (.int (0 : Int32))] [(.int (1 : Int32))])) (fun _ k => XS.goto X3.here hx rfl (pc0 := 50) (pc' := 54) rfl (hb hby at_50) (by decide) (by decide) k) ?_
    exact own_retZ X3 hx hret hlk (hb hby at_54) ⟨rfl, N3⟩ (by decide) (by decide)
  · skip
    rw [hk]
    obtain ⟨v4, T4, L4, X4, hQ4, st4⟩ := (rm1_1 l Z a0 hw w_INVALID h0 n0 S_INVALID).static (W := 0) X0 hx hZ hown (hw _ (List.mem_of_getElem? (i := 0) rfl)) (hw _ (List.mem_of_getElem? (i := 1) rfl)) (hw _ (List.mem_of_getElem? (i := 2) rfl)) (hw _ (List.mem_of_getElem? (i := 3) rfl)) (by decide) (by decide) (by decide) e0 (by decide) (by decide) (g := (mkF m 6 #[.val (.int p1), .val (.int (1 : Int32)), .unset, .unset, .unset] [(.int (1 : Int32))])) rfl (by rw [hml]; rfl) (argsL := [(.int (1 : Int32))]) (rest := []) rfl (lenOf pd_0 rfl) rfl (by show 2 * 0 + _ ≤ _; exact Nat.le_of_eq rfl) (hb hby at_6)
    obtain ⟨rfl, N4q, e4⟩ := hQ4
    have N4 := Fr.app N0 N4q
    refine OGo.st (B := T4.setTop (mkF m 9 #[.val (.int p1), .val (.int (1 : Int32)), .unset, .unset, .unset] [(.ref w_INVALID)])) st4 ?_
    refine OGo.st (B := T4.setTop (mkF m 10 #[.val (.int p1), .val (.int (1 : Int32)), .val (.ref w_INVALID), .unset, .unset] [])) (fun _ k => XS.astoreN X4.here hx rfl (hb hby at_9) rfl rfl (l' := #[.val (.int p1), .val (.int (1 : Int32)), .val (.ref w_INVALID), .unset, .unset]) rfl k) ?_
    refine OGo.st (B := T4.setTop (mkF m 12 #[.val (.int p1), .val (.int (1 : Int32)), .val (.ref w_INVALID), .unset, .unset] [(.int (116 : Int32))])) (fun _ k => XS.bipush X4.here hx rfl (hb hby at_10) k) ?_
    refine OGo.st (B := T4.setTop (mkF m 13 #[.val (.int p1), .val (.int (1 : Int32)), .val (.ref w_INVALID), .unset, .unset] [(.int (1 : Int32)), (.int (116 : Int32))])) (fun _ k => XS.iloadN X4.here hx rfl (hb hby at_12) rfl k) ?_
    refine OGo.st (B := T4.setTop (mkF m 14 #[.val (.int p1), .val (.int (1 : Int32)), .val (.ref w_INVALID), .unset, .unset] [(.int ((116 : Int32) >>> ((1 : Int32) &&& 31)))])) (fun _ k => XS.ishr X4.here hx rfl (hb hby at_13) rfl k) ?_
    rw [(by decide : ((116 : Int32) >>> ((1 : Int32) &&& 31)) = (58 : Int32))]
    refine OGo.st (B := T4.setTop (mkF m 15 #[.val (.int p1), .val (.int (1 : Int32)), .val (.ref w_INVALID), .unset, .unset] [(.int (1 : Int32)), (.int (58 : Int32))])) (fun _ k => XS.iconst X4.here hx rfl (hb hby at_14) k) ?_
    refine OGo.st (B := T4.setTop (mkF m 16 #[.val (.int p1), .val (.int (1 : Int32)), .val (.ref w_INVALID), .unset, .unset] [(.int ((58 : Int32) &&& (1 : Int32)))])) (fun _ k => XS.iand X4.here hx rfl (hb hby at_15) rfl k) ?_
    rw [(by decide : ((58 : Int32) &&& (1 : Int32)) = (0 : Int32))]
    refine OGo.st (B := T4.setTop (mkF m 23 #[.val (.int p1), .val (.int (1 : Int32)), .val (.ref w_INVALID), .unset, .unset] [])) (fun _ k => XS.ifYes X4.here hx rfl (pc0 := 16) (pc' := 23) rfl (hb hby at_16) rfl (by decide) (by decide) (by decide) k) ?_
    refine OGo.st (B := T4.setTop (mkF m 24 #[.val (.int p1), .val (.int (1 : Int32)), .val (.ref w_INVALID), .unset, .unset] [(.int (0 : Int32))])) (fun _ k => XS.iconst X4.here hx rfl (hb hby at_23) k) ?_
    refine OGo.st (B := T4.setTop (mkF m 25 #[.val (.int p1), .val (.int (1 : Int32)), .val (.ref w_INVALID), .val (.int (0 : Int32)), .unset] [])) (fun _ k => XS.istoreN X4.here hx rfl (hb hby at_24) rfl (l' := #[.val (.int p1), .val (.int (1 : Int32)), .val (.ref w_INVALID), .val (.int (0 : Int32)), .unset]) rfl k) ?_
    refine OGo.st (B := T4.setTop (mkF m 26 #[.val (.int p1), .val (.int (1 : Int32)), .val (.ref w_INVALID), .val (.int (0 : Int32)), .unset] [(.ref w_INVALID)])) (fun _ k => XS.aloadN X4.here hx rfl (hb hby at_25) rfl rfl k) ?_
    obtain ⟨v5, T5, L5, X5, hQ5, st5⟩ := (rm2 l Z a0 hw w_INVALID w_BUG w_CRASH w_DIFFER w_UNSTABLE (0 : Int32) h0 n0 S_BUG S_CRASH S_DIFFER S_UNSTABLE (by simp [n0_1, n0_2, n0_3, n0_4, n0_5, n0_6, n0_7, n1_0, n1_2, n1_3, n1_4, n1_5, n1_6, n1_7, n2_0, n2_1, n2_3, n2_4, n2_5, n2_6, n2_7, n3_0, n3_1, n3_2, n3_4, n3_5, n3_6, n3_7, n4_0, n4_1, n4_2, n4_3, n4_5, n4_6, n4_7, n5_0, n5_1, n5_2, n5_3, n5_4, n5_6, n5_7, n6_0, n6_1, n6_2, n6_3, n6_4, n6_5, n6_7, n7_0, n7_1, n7_2, n7_3, n7_4, n7_5, n7_6])).virt (W := 0) X4 hx hZ hown (hw _ (List.mem_of_getElem? (i := 7) rfl)) (hw _ (List.mem_of_getElem? (i := 8) rfl)) (nf_sel hZ (hw _ (List.mem_of_getElem? (i := 10) rfl))) (hw _ (List.mem_of_getElem? (i := 10) rfl)) (hw _ (List.mem_of_getElem? (i := 9) rfl)) (hw _ (List.mem_of_getElem? (i := 5) rfl)) (hw _ (List.mem_of_getElem? (i := 11) rfl)) (by decide) (by decide) (by decide) e4 (by decide) (by decide) (g := (mkF m 26 #[.val (.int p1), .val (.int (1 : Int32)), .val (.ref w_INVALID), .val (.int (0 : Int32)), .unset] [(.ref w_INVALID)])) rfl (by rw [hml]; rfl) E_INVALID (argsL := []) (rest := []) rfl (lenOf pd_1 rfl) rfl (by show 2 * 0 + _ ≤ _; exact Nat.le_of_eq rfl) (hb hby at_26)
    obtain ⟨rfl, N5q, e5⟩ := hQ5
    have N5 := Fr.app N4 N5q
    refine OGo.st (B := T5.setTop (mkF m 29 #[.val (.int p1), .val (.int (1 : Int32)), .val (.ref w_INVALID), .val (.int (0 : Int32)), .unset] [(.int (0 : Int32))])) st5 ?_
    refine OGo.st (B := T5.setTop (mkF m 31 #[.val (.int p1), .val (.int (1 : Int32)), .val (.ref w_INVALID), .val (.int (0 : Int32)), .val (.int (0 : Int32))] [])) (fun _ k => XS.istore X5.here hx rfl (hb hby at_29) rfl (l' := #[.val (.int p1), .val (.int (1 : Int32)), .val (.ref w_INVALID), .val (.int (0 : Int32)), .val (.int (0 : Int32))]) rfl k) ?_
    refine OGo.st (B := T5.setTop (mkF m 33 #[.val (.int p1), .val (.int (1 : Int32)), .val (.ref w_INVALID), .val (.int (0 : Int32)), .val (.int (0 : Int32))] [(.int (0 : Int32))])) (fun _ k => XS.iload X5.here hx rfl (hb hby at_31) rfl k) ?_
    refine OGo.st (B := T5.setTop (mkF m 34 #[.val (.int p1), .val (.int (1 : Int32)), .val (.ref w_INVALID), .val (.int (0 : Int32)), .val (.int (0 : Int32))] [(.int (0 : Int32)), (.int (0 : Int32))])) (fun _ k => XS.iloadN X5.here hx rfl (hb hby at_33) rfl k) ?_
    refine OGo.st (B := T5.setTop (mkF m 37 #[.val (.int p1), .val (.int (1 : Int32)), .val (.ref w_INVALID), .val (.int (0 : Int32)), .val (.int (0 : Int32))] [])) (fun _ k => XS.icmpNo X5.here hx rfl (hb hby at_34) rfl (by decide) k) ?_
    refine OGo.st (B := T5.setTop (mkF m 38 #[.val (.int p1), .val (.int (1 : Int32)), .val (.ref w_INVALID), .val (.int (0 : Int32)), .val (.int (0 : Int32))] [(.ref w_INVALID)])) (fun _ k => XS.aloadN X5.here hx rfl (hb hby at_37) rfl rfl k) ?_
    obtain ⟨v6, T6, L6, X6, hQ6, st6⟩ := (rm3 l Z a0 hw w_INVALID w_DIFFER w_UNSTABLE (0 : Int32) h0 n0 S_DIFFER S_UNSTABLE (by simp [n0_1, n0_2, n0_3, n0_4, n0_5, n0_6, n0_7, n1_0, n1_2, n1_3, n1_4, n1_5, n1_6, n1_7, n2_0, n2_1, n2_3, n2_4, n2_5, n2_6, n2_7, n3_0, n3_1, n3_2, n3_4, n3_5, n3_6, n3_7, n4_0, n4_1, n4_2, n4_3, n4_5, n4_6, n4_7, n5_0, n5_1, n5_2, n5_3, n5_4, n5_6, n5_7, n6_0, n6_1, n6_2, n6_3, n6_4, n6_5, n6_7, n7_0, n7_1, n7_2, n7_3, n7_4, n7_5, n7_6])).virt (W := 0) X5 hx hZ hown (hw _ (List.mem_of_getElem? (i := 20) rfl)) (hw _ (List.mem_of_getElem? (i := 21) rfl)) (nf_sel hZ (hw _ (List.mem_of_getElem? (i := 23) rfl))) (hw _ (List.mem_of_getElem? (i := 23) rfl)) (hw _ (List.mem_of_getElem? (i := 22) rfl)) (hw _ (List.mem_of_getElem? (i := 5) rfl)) (hw _ (List.mem_of_getElem? (i := 24) rfl)) (by decide) (by decide) (by decide) e5 (by decide) (by decide) (g := (mkF m 38 #[.val (.int p1), .val (.int (1 : Int32)), .val (.ref w_INVALID), .val (.int (0 : Int32)), .val (.int (0 : Int32))] [(.ref w_INVALID)])) rfl (by rw [hml]; rfl) E_INVALID (argsL := []) (rest := []) rfl (lenOf pd_1 rfl) rfl (by show 2 * 0 + _ ≤ _; exact Nat.le_of_eq rfl) (hb hby at_38)
    obtain ⟨rfl, N6q, e6⟩ := hQ6
    have N6 := Fr.app N5 N6q
    refine OGo.st (B := T6.setTop (mkF m 41 #[.val (.int p1), .val (.int (1 : Int32)), .val (.ref w_INVALID), .val (.int (0 : Int32)), .val (.int (0 : Int32))] [(.int (0 : Int32))])) st6 ?_
    refine OGo.st (B := T6.setTop (mkF m 49 #[.val (.int p1), .val (.int (1 : Int32)), .val (.ref w_INVALID), .val (.int (0 : Int32)), .val (.int (0 : Int32))] [])) (fun _ k => XS.ifYes X6.here hx rfl (pc0 := 41) (pc' := 49) rfl (hb hby at_41) rfl (by decide) (by decide) (by decide) k) ?_
    refine OGo.st (B := T6.setTop (mkF m 50 #[.val (.int p1), .val (.int (1 : Int32)), .val (.ref w_INVALID), .val (.int (0 : Int32)), .val (.int (0 : Int32))] [(.int (1 : Int32))])) (fun _ k => XS.iconst X6.here hx rfl (hb hby at_49) k) ?_
    refine OGo.st (B := T6.setTop (mkF m 54 #[.val (.int p1), .val (.int (1 : Int32)), .val (.ref w_INVALID), .val (.int (0 : Int32)), .val (.int (0 : Int32))] [(.int (1 : Int32))])) (fun _ k => XS.goto X6.here hx rfl (pc0 := 50) (pc' := 54) rfl (hb hby at_50) (by decide) (by decide) k) ?_
    exact own_retZ X6 hx hret hlk (hb hby at_54) ⟨rfl, N6⟩ (by decide) (by decide)
  · skip
    rw [hk]
    obtain ⟨v7, T7, L7, X7, hQ7, st7⟩ := (rm1_2 l Z a0 hw w_BUG h0 n0 S_BUG).static (W := 0) X0 hx hZ hown (hw _ (List.mem_of_getElem? (i := 0) rfl)) (hw _ (List.mem_of_getElem? (i := 1) rfl)) (hw _ (List.mem_of_getElem? (i := 2) rfl)) (hw _ (List.mem_of_getElem? (i := 3) rfl)) (by decide) (by decide) (by decide) e0 (by decide) (by decide) (g := (mkF m 6 #[.val (.int p1), .val (.int (2 : Int32)), .unset, .unset, .unset] [(.int (2 : Int32))])) rfl (by rw [hml]; rfl) (argsL := [(.int (2 : Int32))]) (rest := []) rfl (lenOf pd_0 rfl) rfl (by show 2 * 0 + _ ≤ _; exact Nat.le_of_eq rfl) (hb hby at_6)
    obtain ⟨rfl, N7q, e7⟩ := hQ7
    have N7 := Fr.app N0 N7q
    refine OGo.st (B := T7.setTop (mkF m 9 #[.val (.int p1), .val (.int (2 : Int32)), .unset, .unset, .unset] [(.ref w_BUG)])) st7 ?_
    refine OGo.st (B := T7.setTop (mkF m 10 #[.val (.int p1), .val (.int (2 : Int32)), .val (.ref w_BUG), .unset, .unset] [])) (fun _ k => XS.astoreN X7.here hx rfl (hb hby at_9) rfl rfl (l' := #[.val (.int p1), .val (.int (2 : Int32)), .val (.ref w_BUG), .unset, .unset]) rfl k) ?_
    refine OGo.st (B := T7.setTop (mkF m 12 #[.val (.int p1), .val (.int (2 : Int32)), .val (.ref w_BUG), .unset, .unset] [(.int (116 : Int32))])) (fun _ k => XS.bipush X7.here hx rfl (hb hby at_10) k) ?_
    refine OGo.st (B := T7.setTop (mkF m 13 #[.val (.int p1), .val (.int (2 : Int32)), .val (.ref w_BUG), .unset, .unset] [(.int (2 : Int32)), (.int (116 : Int32))])) (fun _ k => XS.iloadN X7.here hx rfl (hb hby at_12) rfl k) ?_
    refine OGo.st (B := T7.setTop (mkF m 14 #[.val (.int p1), .val (.int (2 : Int32)), .val (.ref w_BUG), .unset, .unset] [(.int ((116 : Int32) >>> ((2 : Int32) &&& 31)))])) (fun _ k => XS.ishr X7.here hx rfl (hb hby at_13) rfl k) ?_
    rw [(by decide : ((116 : Int32) >>> ((2 : Int32) &&& 31)) = (29 : Int32))]
    refine OGo.st (B := T7.setTop (mkF m 15 #[.val (.int p1), .val (.int (2 : Int32)), .val (.ref w_BUG), .unset, .unset] [(.int (1 : Int32)), (.int (29 : Int32))])) (fun _ k => XS.iconst X7.here hx rfl (hb hby at_14) k) ?_
    refine OGo.st (B := T7.setTop (mkF m 16 #[.val (.int p1), .val (.int (2 : Int32)), .val (.ref w_BUG), .unset, .unset] [(.int ((29 : Int32) &&& (1 : Int32)))])) (fun _ k => XS.iand X7.here hx rfl (hb hby at_15) rfl k) ?_
    rw [(by decide : ((29 : Int32) &&& (1 : Int32)) = (1 : Int32))]
    refine OGo.st (B := T7.setTop (mkF m 19 #[.val (.int p1), .val (.int (2 : Int32)), .val (.ref w_BUG), .unset, .unset] [])) (fun _ k => XS.ifNo X7.here hx rfl (hb hby at_16) rfl (by decide) k) ?_
    refine OGo.st (B := T7.setTop (mkF m 20 #[.val (.int p1), .val (.int (2 : Int32)), .val (.ref w_BUG), .unset, .unset] [(.int (1 : Int32))])) (fun _ k => XS.iconst X7.here hx rfl (hb hby at_19) k) ?_
    refine OGo.st (B := T7.setTop (mkF m 24 #[.val (.int p1), .val (.int (2 : Int32)), .val (.ref w_BUG), .unset, .unset] [(.int (1 : Int32))])) (fun _ k => XS.goto X7.here hx rfl (pc0 := 20) (pc' := 24) rfl (hb hby at_20) (by decide) (by decide) k) ?_
    refine OGo.st (B := T7.setTop (mkF m 25 #[.val (.int p1), .val (.int (2 : Int32)), .val (.ref w_BUG), .val (.int (1 : Int32)), .unset] [])) (fun _ k => XS.istoreN X7.here hx rfl (hb hby at_24) rfl (l' := #[.val (.int p1), .val (.int (2 : Int32)), .val (.ref w_BUG), .val (.int (1 : Int32)), .unset]) rfl k) ?_
    refine OGo.st (B := T7.setTop (mkF m 26 #[.val (.int p1), .val (.int (2 : Int32)), .val (.ref w_BUG), .val (.int (1 : Int32)), .unset] [(.ref w_BUG)])) (fun _ k => XS.aloadN X7.here hx rfl (hb hby at_25) rfl rfl k) ?_
    obtain ⟨v8, T8, L8, X8, hQ8, st8⟩ := (rm2 l Z a0 hw w_BUG w_BUG w_CRASH w_DIFFER w_UNSTABLE (1 : Int32) h0 n0 S_BUG S_CRASH S_DIFFER S_UNSTABLE (by simp [n0_1, n0_2, n0_3, n0_4, n0_5, n0_6, n0_7, n1_0, n1_2, n1_3, n1_4, n1_5, n1_6, n1_7, n2_0, n2_1, n2_3, n2_4, n2_5, n2_6, n2_7, n3_0, n3_1, n3_2, n3_4, n3_5, n3_6, n3_7, n4_0, n4_1, n4_2, n4_3, n4_5, n4_6, n4_7, n5_0, n5_1, n5_2, n5_3, n5_4, n5_6, n5_7, n6_0, n6_1, n6_2, n6_3, n6_4, n6_5, n6_7, n7_0, n7_1, n7_2, n7_3, n7_4, n7_5, n7_6])).virt (W := 0) X7 hx hZ hown (hw _ (List.mem_of_getElem? (i := 7) rfl)) (hw _ (List.mem_of_getElem? (i := 8) rfl)) (nf_sel hZ (hw _ (List.mem_of_getElem? (i := 10) rfl))) (hw _ (List.mem_of_getElem? (i := 10) rfl)) (hw _ (List.mem_of_getElem? (i := 9) rfl)) (hw _ (List.mem_of_getElem? (i := 5) rfl)) (hw _ (List.mem_of_getElem? (i := 11) rfl)) (by decide) (by decide) (by decide) e7 (by decide) (by decide) (g := (mkF m 26 #[.val (.int p1), .val (.int (2 : Int32)), .val (.ref w_BUG), .val (.int (1 : Int32)), .unset] [(.ref w_BUG)])) rfl (by rw [hml]; rfl) E_BUG (argsL := []) (rest := []) rfl (lenOf pd_1 rfl) rfl (by show 2 * 0 + _ ≤ _; exact Nat.le_of_eq rfl) (hb hby at_26)
    obtain ⟨rfl, N8q, e8⟩ := hQ8
    have N8 := Fr.app N7 N8q
    refine OGo.st (B := T8.setTop (mkF m 29 #[.val (.int p1), .val (.int (2 : Int32)), .val (.ref w_BUG), .val (.int (1 : Int32)), .unset] [(.int (1 : Int32))])) st8 ?_
    refine OGo.st (B := T8.setTop (mkF m 31 #[.val (.int p1), .val (.int (2 : Int32)), .val (.ref w_BUG), .val (.int (1 : Int32)), .val (.int (1 : Int32))] [])) (fun _ k => XS.istore X8.here hx rfl (hb hby at_29) rfl (l' := #[.val (.int p1), .val (.int (2 : Int32)), .val (.ref w_BUG), .val (.int (1 : Int32)), .val (.int (1 : Int32))]) rfl k) ?_
    refine OGo.st (B := T8.setTop (mkF m 33 #[.val (.int p1), .val (.int (2 : Int32)), .val (.ref w_BUG), .val (.int (1 : Int32)), .val (.int (1 : Int32))] [(.int (1 : Int32))])) (fun _ k => XS.iload X8.here hx rfl (hb hby at_31) rfl k) ?_
    refine OGo.st (B := T8.setTop (mkF m 34 #[.val (.int p1), .val (.int (2 : Int32)), .val (.ref w_BUG), .val (.int (1 : Int32)), .val (.int (1 : Int32))] [(.int (1 : Int32)), (.int (1 : Int32))])) (fun _ k => XS.iloadN X8.here hx rfl (hb hby at_33) rfl k) ?_
    refine OGo.st (B := T8.setTop (mkF m 37 #[.val (.int p1), .val (.int (2 : Int32)), .val (.ref w_BUG), .val (.int (1 : Int32)), .val (.int (1 : Int32))] [])) (fun _ k => XS.icmpNo X8.here hx rfl (hb hby at_34) rfl (by decide) k) ?_
    refine OGo.st (B := T8.setTop (mkF m 38 #[.val (.int p1), .val (.int (2 : Int32)), .val (.ref w_BUG), .val (.int (1 : Int32)), .val (.int (1 : Int32))] [(.ref w_BUG)])) (fun _ k => XS.aloadN X8.here hx rfl (hb hby at_37) rfl rfl k) ?_
    obtain ⟨v9, T9, L9, X9, hQ9, st9⟩ := (rm3 l Z a0 hw w_BUG w_DIFFER w_UNSTABLE (0 : Int32) h0 n0 S_DIFFER S_UNSTABLE (by simp [n0_1, n0_2, n0_3, n0_4, n0_5, n0_6, n0_7, n1_0, n1_2, n1_3, n1_4, n1_5, n1_6, n1_7, n2_0, n2_1, n2_3, n2_4, n2_5, n2_6, n2_7, n3_0, n3_1, n3_2, n3_4, n3_5, n3_6, n3_7, n4_0, n4_1, n4_2, n4_3, n4_5, n4_6, n4_7, n5_0, n5_1, n5_2, n5_3, n5_4, n5_6, n5_7, n6_0, n6_1, n6_2, n6_3, n6_4, n6_5, n6_7, n7_0, n7_1, n7_2, n7_3, n7_4, n7_5, n7_6])).virt (W := 0) X8 hx hZ hown (hw _ (List.mem_of_getElem? (i := 20) rfl)) (hw _ (List.mem_of_getElem? (i := 21) rfl)) (nf_sel hZ (hw _ (List.mem_of_getElem? (i := 23) rfl))) (hw _ (List.mem_of_getElem? (i := 23) rfl)) (hw _ (List.mem_of_getElem? (i := 22) rfl)) (hw _ (List.mem_of_getElem? (i := 5) rfl)) (hw _ (List.mem_of_getElem? (i := 24) rfl)) (by decide) (by decide) (by decide) e8 (by decide) (by decide) (g := (mkF m 38 #[.val (.int p1), .val (.int (2 : Int32)), .val (.ref w_BUG), .val (.int (1 : Int32)), .val (.int (1 : Int32))] [(.ref w_BUG)])) rfl (by rw [hml]; rfl) E_BUG (argsL := []) (rest := []) rfl (lenOf pd_1 rfl) rfl (by show 2 * 0 + _ ≤ _; exact Nat.le_of_eq rfl) (hb hby at_38)
    obtain ⟨rfl, N9q, e9⟩ := hQ9
    have N9 := Fr.app N8 N9q
    refine OGo.st (B := T9.setTop (mkF m 41 #[.val (.int p1), .val (.int (2 : Int32)), .val (.ref w_BUG), .val (.int (1 : Int32)), .val (.int (1 : Int32))] [(.int (0 : Int32))])) st9 ?_
    refine OGo.st (B := T9.setTop (mkF m 49 #[.val (.int p1), .val (.int (2 : Int32)), .val (.ref w_BUG), .val (.int (1 : Int32)), .val (.int (1 : Int32))] [])) (fun _ k => XS.ifYes X9.here hx rfl (pc0 := 41) (pc' := 49) rfl (hb hby at_41) rfl (by decide) (by decide) (by decide) k) ?_
    refine OGo.st (B := T9.setTop (mkF m 50 #[.val (.int p1), .val (.int (2 : Int32)), .val (.ref w_BUG), .val (.int (1 : Int32)), .val (.int (1 : Int32))] [(.int (1 : Int32))])) (fun _ k => XS.iconst X9.here hx rfl (hb hby at_49) k) ?_
    refine OGo.st (B := T9.setTop (mkF m 54 #[.val (.int p1), .val (.int (2 : Int32)), .val (.ref w_BUG), .val (.int (1 : Int32)), .val (.int (1 : Int32))] [(.int (1 : Int32))])) (fun _ k => XS.goto X9.here hx rfl (pc0 := 50) (pc' := 54) rfl (hb hby at_50) (by decide) (by decide) k) ?_
    exact own_retZ X9 hx hret hlk (hb hby at_54) ⟨rfl, N9⟩ (by decide) (by decide)
  · skip
    rw [hk]
    obtain ⟨v10, T10, L10, X10, hQ10, st10⟩ := (rm1_3 l Z a0 hw w_TIMEOUT h0 n0 S_TIMEOUT).static (W := 0) X0 hx hZ hown (hw _ (List.mem_of_getElem? (i := 0) rfl)) (hw _ (List.mem_of_getElem? (i := 1) rfl)) (hw _ (List.mem_of_getElem? (i := 2) rfl)) (hw _ (List.mem_of_getElem? (i := 3) rfl)) (by decide) (by decide) (by decide) e0 (by decide) (by decide) (g := (mkF m 6 #[.val (.int p1), .val (.int (3 : Int32)), .unset, .unset, .unset] [(.int (3 : Int32))])) rfl (by rw [hml]; rfl) (argsL := [(.int (3 : Int32))]) (rest := []) rfl (lenOf pd_0 rfl) rfl (by show 2 * 0 + _ ≤ _; exact Nat.le_of_eq rfl) (hb hby at_6)
    obtain ⟨rfl, N10q, e10⟩ := hQ10
    have N10 := Fr.app N0 N10q
    refine OGo.st (B := T10.setTop (mkF m 9 #[.val (.int p1), .val (.int (3 : Int32)), .unset, .unset, .unset] [(.ref w_TIMEOUT)])) st10 ?_
    refine OGo.st (B := T10.setTop (mkF m 10 #[.val (.int p1), .val (.int (3 : Int32)), .val (.ref w_TIMEOUT), .unset, .unset] [])) (fun _ k => XS.astoreN X10.here hx rfl (hb hby at_9) rfl rfl (l' := #[.val (.int p1), .val (.int (3 : Int32)), .val (.ref w_TIMEOUT), .unset, .unset]) rfl k) ?_
    refine OGo.st (B := T10.setTop (mkF m 12 #[.val (.int p1), .val (.int (3 : Int32)), .val (.ref w_TIMEOUT), .unset, .unset] [(.int (116 : Int32))])) (fun _ k => XS.bipush X10.here hx rfl (hb hby at_10) k) ?_
    refine OGo.st (B := T10.setTop (mkF m 13 #[.val (.int p1), .val (.int (3 : Int32)), .val (.ref w_TIMEOUT), .unset, .unset] [(.int (3 : Int32)), (.int (116 : Int32))])) (fun _ k => XS.iloadN X10.here hx rfl (hb hby at_12) rfl k) ?_
    refine OGo.st (B := T10.setTop (mkF m 14 #[.val (.int p1), .val (.int (3 : Int32)), .val (.ref w_TIMEOUT), .unset, .unset] [(.int ((116 : Int32) >>> ((3 : Int32) &&& 31)))])) (fun _ k => XS.ishr X10.here hx rfl (hb hby at_13) rfl k) ?_
    rw [(by decide : ((116 : Int32) >>> ((3 : Int32) &&& 31)) = (14 : Int32))]
    refine OGo.st (B := T10.setTop (mkF m 15 #[.val (.int p1), .val (.int (3 : Int32)), .val (.ref w_TIMEOUT), .unset, .unset] [(.int (1 : Int32)), (.int (14 : Int32))])) (fun _ k => XS.iconst X10.here hx rfl (hb hby at_14) k) ?_
    refine OGo.st (B := T10.setTop (mkF m 16 #[.val (.int p1), .val (.int (3 : Int32)), .val (.ref w_TIMEOUT), .unset, .unset] [(.int ((14 : Int32) &&& (1 : Int32)))])) (fun _ k => XS.iand X10.here hx rfl (hb hby at_15) rfl k) ?_
    rw [(by decide : ((14 : Int32) &&& (1 : Int32)) = (0 : Int32))]
    refine OGo.st (B := T10.setTop (mkF m 23 #[.val (.int p1), .val (.int (3 : Int32)), .val (.ref w_TIMEOUT), .unset, .unset] [])) (fun _ k => XS.ifYes X10.here hx rfl (pc0 := 16) (pc' := 23) rfl (hb hby at_16) rfl (by decide) (by decide) (by decide) k) ?_
    refine OGo.st (B := T10.setTop (mkF m 24 #[.val (.int p1), .val (.int (3 : Int32)), .val (.ref w_TIMEOUT), .unset, .unset] [(.int (0 : Int32))])) (fun _ k => XS.iconst X10.here hx rfl (hb hby at_23) k) ?_
    refine OGo.st (B := T10.setTop (mkF m 25 #[.val (.int p1), .val (.int (3 : Int32)), .val (.ref w_TIMEOUT), .val (.int (0 : Int32)), .unset] [])) (fun _ k => XS.istoreN X10.here hx rfl (hb hby at_24) rfl (l' := #[.val (.int p1), .val (.int (3 : Int32)), .val (.ref w_TIMEOUT), .val (.int (0 : Int32)), .unset]) rfl k) ?_
    refine OGo.st (B := T10.setTop (mkF m 26 #[.val (.int p1), .val (.int (3 : Int32)), .val (.ref w_TIMEOUT), .val (.int (0 : Int32)), .unset] [(.ref w_TIMEOUT)])) (fun _ k => XS.aloadN X10.here hx rfl (hb hby at_25) rfl rfl k) ?_
    obtain ⟨v11, T11, L11, X11, hQ11, st11⟩ := (rm2 l Z a0 hw w_TIMEOUT w_BUG w_CRASH w_DIFFER w_UNSTABLE (0 : Int32) h0 n0 S_BUG S_CRASH S_DIFFER S_UNSTABLE (by simp [n0_1, n0_2, n0_3, n0_4, n0_5, n0_6, n0_7, n1_0, n1_2, n1_3, n1_4, n1_5, n1_6, n1_7, n2_0, n2_1, n2_3, n2_4, n2_5, n2_6, n2_7, n3_0, n3_1, n3_2, n3_4, n3_5, n3_6, n3_7, n4_0, n4_1, n4_2, n4_3, n4_5, n4_6, n4_7, n5_0, n5_1, n5_2, n5_3, n5_4, n5_6, n5_7, n6_0, n6_1, n6_2, n6_3, n6_4, n6_5, n6_7, n7_0, n7_1, n7_2, n7_3, n7_4, n7_5, n7_6])).virt (W := 0) X10 hx hZ hown (hw _ (List.mem_of_getElem? (i := 7) rfl)) (hw _ (List.mem_of_getElem? (i := 8) rfl)) (nf_sel hZ (hw _ (List.mem_of_getElem? (i := 10) rfl))) (hw _ (List.mem_of_getElem? (i := 10) rfl)) (hw _ (List.mem_of_getElem? (i := 9) rfl)) (hw _ (List.mem_of_getElem? (i := 5) rfl)) (hw _ (List.mem_of_getElem? (i := 11) rfl)) (by decide) (by decide) (by decide) e10 (by decide) (by decide) (g := (mkF m 26 #[.val (.int p1), .val (.int (3 : Int32)), .val (.ref w_TIMEOUT), .val (.int (0 : Int32)), .unset] [(.ref w_TIMEOUT)])) rfl (by rw [hml]; rfl) E_TIMEOUT (argsL := []) (rest := []) rfl (lenOf pd_1 rfl) rfl (by show 2 * 0 + _ ≤ _; exact Nat.le_of_eq rfl) (hb hby at_26)
    obtain ⟨rfl, N11q, e11⟩ := hQ11
    have N11 := Fr.app N10 N11q
    refine OGo.st (B := T11.setTop (mkF m 29 #[.val (.int p1), .val (.int (3 : Int32)), .val (.ref w_TIMEOUT), .val (.int (0 : Int32)), .unset] [(.int (0 : Int32))])) st11 ?_
    refine OGo.st (B := T11.setTop (mkF m 31 #[.val (.int p1), .val (.int (3 : Int32)), .val (.ref w_TIMEOUT), .val (.int (0 : Int32)), .val (.int (0 : Int32))] [])) (fun _ k => XS.istore X11.here hx rfl (hb hby at_29) rfl (l' := #[.val (.int p1), .val (.int (3 : Int32)), .val (.ref w_TIMEOUT), .val (.int (0 : Int32)), .val (.int (0 : Int32))]) rfl k) ?_
    refine OGo.st (B := T11.setTop (mkF m 33 #[.val (.int p1), .val (.int (3 : Int32)), .val (.ref w_TIMEOUT), .val (.int (0 : Int32)), .val (.int (0 : Int32))] [(.int (0 : Int32))])) (fun _ k => XS.iload X11.here hx rfl (hb hby at_31) rfl k) ?_
    refine OGo.st (B := T11.setTop (mkF m 34 #[.val (.int p1), .val (.int (3 : Int32)), .val (.ref w_TIMEOUT), .val (.int (0 : Int32)), .val (.int (0 : Int32))] [(.int (0 : Int32)), (.int (0 : Int32))])) (fun _ k => XS.iloadN X11.here hx rfl (hb hby at_33) rfl k) ?_
    refine OGo.st (B := T11.setTop (mkF m 37 #[.val (.int p1), .val (.int (3 : Int32)), .val (.ref w_TIMEOUT), .val (.int (0 : Int32)), .val (.int (0 : Int32))] [])) (fun _ k => XS.icmpNo X11.here hx rfl (hb hby at_34) rfl (by decide) k) ?_
    refine OGo.st (B := T11.setTop (mkF m 38 #[.val (.int p1), .val (.int (3 : Int32)), .val (.ref w_TIMEOUT), .val (.int (0 : Int32)), .val (.int (0 : Int32))] [(.ref w_TIMEOUT)])) (fun _ k => XS.aloadN X11.here hx rfl (hb hby at_37) rfl rfl k) ?_
    obtain ⟨v12, T12, L12, X12, hQ12, st12⟩ := (rm3 l Z a0 hw w_TIMEOUT w_DIFFER w_UNSTABLE (0 : Int32) h0 n0 S_DIFFER S_UNSTABLE (by simp [n0_1, n0_2, n0_3, n0_4, n0_5, n0_6, n0_7, n1_0, n1_2, n1_3, n1_4, n1_5, n1_6, n1_7, n2_0, n2_1, n2_3, n2_4, n2_5, n2_6, n2_7, n3_0, n3_1, n3_2, n3_4, n3_5, n3_6, n3_7, n4_0, n4_1, n4_2, n4_3, n4_5, n4_6, n4_7, n5_0, n5_1, n5_2, n5_3, n5_4, n5_6, n5_7, n6_0, n6_1, n6_2, n6_3, n6_4, n6_5, n6_7, n7_0, n7_1, n7_2, n7_3, n7_4, n7_5, n7_6])).virt (W := 0) X11 hx hZ hown (hw _ (List.mem_of_getElem? (i := 20) rfl)) (hw _ (List.mem_of_getElem? (i := 21) rfl)) (nf_sel hZ (hw _ (List.mem_of_getElem? (i := 23) rfl))) (hw _ (List.mem_of_getElem? (i := 23) rfl)) (hw _ (List.mem_of_getElem? (i := 22) rfl)) (hw _ (List.mem_of_getElem? (i := 5) rfl)) (hw _ (List.mem_of_getElem? (i := 24) rfl)) (by decide) (by decide) (by decide) e11 (by decide) (by decide) (g := (mkF m 38 #[.val (.int p1), .val (.int (3 : Int32)), .val (.ref w_TIMEOUT), .val (.int (0 : Int32)), .val (.int (0 : Int32))] [(.ref w_TIMEOUT)])) rfl (by rw [hml]; rfl) E_TIMEOUT (argsL := []) (rest := []) rfl (lenOf pd_1 rfl) rfl (by show 2 * 0 + _ ≤ _; exact Nat.le_of_eq rfl) (hb hby at_38)
    obtain ⟨rfl, N12q, e12⟩ := hQ12
    have N12 := Fr.app N11 N12q
    refine OGo.st (B := T12.setTop (mkF m 41 #[.val (.int p1), .val (.int (3 : Int32)), .val (.ref w_TIMEOUT), .val (.int (0 : Int32)), .val (.int (0 : Int32))] [(.int (0 : Int32))])) st12 ?_
    refine OGo.st (B := T12.setTop (mkF m 49 #[.val (.int p1), .val (.int (3 : Int32)), .val (.ref w_TIMEOUT), .val (.int (0 : Int32)), .val (.int (0 : Int32))] [])) (fun _ k => XS.ifYes X12.here hx rfl (pc0 := 41) (pc' := 49) rfl (hb hby at_41) rfl (by decide) (by decide) (by decide) k) ?_
    refine OGo.st (B := T12.setTop (mkF m 50 #[.val (.int p1), .val (.int (3 : Int32)), .val (.ref w_TIMEOUT), .val (.int (0 : Int32)), .val (.int (0 : Int32))] [(.int (1 : Int32))])) (fun _ k => XS.iconst X12.here hx rfl (hb hby at_49) k) ?_
    refine OGo.st (B := T12.setTop (mkF m 54 #[.val (.int p1), .val (.int (3 : Int32)), .val (.ref w_TIMEOUT), .val (.int (0 : Int32)), .val (.int (0 : Int32))] [(.int (1 : Int32))])) (fun _ k => XS.goto X12.here hx rfl (pc0 := 50) (pc' := 54) rfl (hb hby at_50) (by decide) (by decide) k) ?_
    exact own_retZ X12 hx hret hlk (hb hby at_54) ⟨rfl, N12⟩ (by decide) (by decide)
  · skip
    rw [hk]
    obtain ⟨v13, T13, L13, X13, hQ13, st13⟩ := (rm1_4 l Z a0 hw w_CRASH h0 n0 S_CRASH).static (W := 0) X0 hx hZ hown (hw _ (List.mem_of_getElem? (i := 0) rfl)) (hw _ (List.mem_of_getElem? (i := 1) rfl)) (hw _ (List.mem_of_getElem? (i := 2) rfl)) (hw _ (List.mem_of_getElem? (i := 3) rfl)) (by decide) (by decide) (by decide) e0 (by decide) (by decide) (g := (mkF m 6 #[.val (.int p1), .val (.int (4 : Int32)), .unset, .unset, .unset] [(.int (4 : Int32))])) rfl (by rw [hml]; rfl) (argsL := [(.int (4 : Int32))]) (rest := []) rfl (lenOf pd_0 rfl) rfl (by show 2 * 0 + _ ≤ _; exact Nat.le_of_eq rfl) (hb hby at_6)
    obtain ⟨rfl, N13q, e13⟩ := hQ13
    have N13 := Fr.app N0 N13q
    refine OGo.st (B := T13.setTop (mkF m 9 #[.val (.int p1), .val (.int (4 : Int32)), .unset, .unset, .unset] [(.ref w_CRASH)])) st13 ?_
    refine OGo.st (B := T13.setTop (mkF m 10 #[.val (.int p1), .val (.int (4 : Int32)), .val (.ref w_CRASH), .unset, .unset] [])) (fun _ k => XS.astoreN X13.here hx rfl (hb hby at_9) rfl rfl (l' := #[.val (.int p1), .val (.int (4 : Int32)), .val (.ref w_CRASH), .unset, .unset]) rfl k) ?_
    refine OGo.st (B := T13.setTop (mkF m 12 #[.val (.int p1), .val (.int (4 : Int32)), .val (.ref w_CRASH), .unset, .unset] [(.int (116 : Int32))])) (fun _ k => XS.bipush X13.here hx rfl (hb hby at_10) k) ?_
    refine OGo.st (B := T13.setTop (mkF m 13 #[.val (.int p1), .val (.int (4 : Int32)), .val (.ref w_CRASH), .unset, .unset] [(.int (4 : Int32)), (.int (116 : Int32))])) (fun _ k => XS.iloadN X13.here hx rfl (hb hby at_12) rfl k) ?_
    refine OGo.st (B := T13.setTop (mkF m 14 #[.val (.int p1), .val (.int (4 : Int32)), .val (.ref w_CRASH), .unset, .unset] [(.int ((116 : Int32) >>> ((4 : Int32) &&& 31)))])) (fun _ k => XS.ishr X13.here hx rfl (hb hby at_13) rfl k) ?_
    rw [(by decide : ((116 : Int32) >>> ((4 : Int32) &&& 31)) = (7 : Int32))]
    refine OGo.st (B := T13.setTop (mkF m 15 #[.val (.int p1), .val (.int (4 : Int32)), .val (.ref w_CRASH), .unset, .unset] [(.int (1 : Int32)), (.int (7 : Int32))])) (fun _ k => XS.iconst X13.here hx rfl (hb hby at_14) k) ?_
    refine OGo.st (B := T13.setTop (mkF m 16 #[.val (.int p1), .val (.int (4 : Int32)), .val (.ref w_CRASH), .unset, .unset] [(.int ((7 : Int32) &&& (1 : Int32)))])) (fun _ k => XS.iand X13.here hx rfl (hb hby at_15) rfl k) ?_
    rw [(by decide : ((7 : Int32) &&& (1 : Int32)) = (1 : Int32))]
    refine OGo.st (B := T13.setTop (mkF m 19 #[.val (.int p1), .val (.int (4 : Int32)), .val (.ref w_CRASH), .unset, .unset] [])) (fun _ k => XS.ifNo X13.here hx rfl (hb hby at_16) rfl (by decide) k) ?_
    refine OGo.st (B := T13.setTop (mkF m 20 #[.val (.int p1), .val (.int (4 : Int32)), .val (.ref w_CRASH), .unset, .unset] [(.int (1 : Int32))])) (fun _ k => XS.iconst X13.here hx rfl (hb hby at_19) k) ?_
    refine OGo.st (B := T13.setTop (mkF m 24 #[.val (.int p1), .val (.int (4 : Int32)), .val (.ref w_CRASH), .unset, .unset] [(.int (1 : Int32))])) (fun _ k => XS.goto X13.here hx rfl (pc0 := 20) (pc' := 24) rfl (hb hby at_20) (by decide) (by decide) k) ?_
    refine OGo.st (B := T13.setTop (mkF m 25 #[.val (.int p1), .val (.int (4 : Int32)), .val (.ref w_CRASH), .val (.int (1 : Int32)), .unset] [])) (fun _ k => XS.istoreN X13.here hx rfl (hb hby at_24) rfl (l' := #[.val (.int p1), .val (.int (4 : Int32)), .val (.ref w_CRASH), .val (.int (1 : Int32)), .unset]) rfl k) ?_
    refine OGo.st (B := T13.setTop (mkF m 26 #[.val (.int p1), .val (.int (4 : Int32)), .val (.ref w_CRASH), .val (.int (1 : Int32)), .unset] [(.ref w_CRASH)])) (fun _ k => XS.aloadN X13.here hx rfl (hb hby at_25) rfl rfl k) ?_
    obtain ⟨v14, T14, L14, X14, hQ14, st14⟩ := (rm2 l Z a0 hw w_CRASH w_BUG w_CRASH w_DIFFER w_UNSTABLE (1 : Int32) h0 n0 S_BUG S_CRASH S_DIFFER S_UNSTABLE (by simp [n0_1, n0_2, n0_3, n0_4, n0_5, n0_6, n0_7, n1_0, n1_2, n1_3, n1_4, n1_5, n1_6, n1_7, n2_0, n2_1, n2_3, n2_4, n2_5, n2_6, n2_7, n3_0, n3_1, n3_2, n3_4, n3_5, n3_6, n3_7, n4_0, n4_1, n4_2, n4_3, n4_5, n4_6, n4_7, n5_0, n5_1, n5_2, n5_3, n5_4, n5_6, n5_7, n6_0, n6_1, n6_2, n6_3, n6_4, n6_5, n6_7, n7_0, n7_1, n7_2, n7_3, n7_4, n7_5, n7_6])).virt (W := 0) X13 hx hZ hown (hw _ (List.mem_of_getElem? (i := 7) rfl)) (hw _ (List.mem_of_getElem? (i := 8) rfl)) (nf_sel hZ (hw _ (List.mem_of_getElem? (i := 10) rfl))) (hw _ (List.mem_of_getElem? (i := 10) rfl)) (hw _ (List.mem_of_getElem? (i := 9) rfl)) (hw _ (List.mem_of_getElem? (i := 5) rfl)) (hw _ (List.mem_of_getElem? (i := 11) rfl)) (by decide) (by decide) (by decide) e13 (by decide) (by decide) (g := (mkF m 26 #[.val (.int p1), .val (.int (4 : Int32)), .val (.ref w_CRASH), .val (.int (1 : Int32)), .unset] [(.ref w_CRASH)])) rfl (by rw [hml]; rfl) E_CRASH (argsL := []) (rest := []) rfl (lenOf pd_1 rfl) rfl (by show 2 * 0 + _ ≤ _; exact Nat.le_of_eq rfl) (hb hby at_26)
    obtain ⟨rfl, N14q, e14⟩ := hQ14
    have N14 := Fr.app N13 N14q
    refine OGo.st (B := T14.setTop (mkF m 29 #[.val (.int p1), .val (.int (4 : Int32)), .val (.ref w_CRASH), .val (.int (1 : Int32)), .unset] [(.int (1 : Int32))])) st14 ?_
    refine OGo.st (B := T14.setTop (mkF m 31 #[.val (.int p1), .val (.int (4 : Int32)), .val (.ref w_CRASH), .val (.int (1 : Int32)), .val (.int (1 : Int32))] [])) (fun _ k => XS.istore X14.here hx rfl (hb hby at_29) rfl (l' := #[.val (.int p1), .val (.int (4 : Int32)), .val (.ref w_CRASH), .val (.int (1 : Int32)), .val (.int (1 : Int32))]) rfl k) ?_
    refine OGo.st (B := T14.setTop (mkF m 33 #[.val (.int p1), .val (.int (4 : Int32)), .val (.ref w_CRASH), .val (.int (1 : Int32)), .val (.int (1 : Int32))] [(.int (1 : Int32))])) (fun _ k => XS.iload X14.here hx rfl (hb hby at_31) rfl k) ?_
    refine OGo.st (B := T14.setTop (mkF m 34 #[.val (.int p1), .val (.int (4 : Int32)), .val (.ref w_CRASH), .val (.int (1 : Int32)), .val (.int (1 : Int32))] [(.int (1 : Int32)), (.int (1 : Int32))])) (fun _ k => XS.iloadN X14.here hx rfl (hb hby at_33) rfl k) ?_
    refine OGo.st (B := T14.setTop (mkF m 37 #[.val (.int p1), .val (.int (4 : Int32)), .val (.ref w_CRASH), .val (.int (1 : Int32)), .val (.int (1 : Int32))] [])) (fun _ k => XS.icmpNo X14.here hx rfl (hb hby at_34) rfl (by decide) k) ?_
    refine OGo.st (B := T14.setTop (mkF m 38 #[.val (.int p1), .val (.int (4 : Int32)), .val (.ref w_CRASH), .val (.int (1 : Int32)), .val (.int (1 : Int32))] [(.ref w_CRASH)])) (fun _ k => XS.aloadN X14.here hx rfl (hb hby at_37) rfl rfl k) ?_
    obtain ⟨v15, T15, L15, X15, hQ15, st15⟩ := (rm3 l Z a0 hw w_CRASH w_DIFFER w_UNSTABLE (0 : Int32) h0 n0 S_DIFFER S_UNSTABLE (by simp [n0_1, n0_2, n0_3, n0_4, n0_5, n0_6, n0_7, n1_0, n1_2, n1_3, n1_4, n1_5, n1_6, n1_7, n2_0, n2_1, n2_3, n2_4, n2_5, n2_6, n2_7, n3_0, n3_1, n3_2, n3_4, n3_5, n3_6, n3_7, n4_0, n4_1, n4_2, n4_3, n4_5, n4_6, n4_7, n5_0, n5_1, n5_2, n5_3, n5_4, n5_6, n5_7, n6_0, n6_1, n6_2, n6_3, n6_4, n6_5, n6_7, n7_0, n7_1, n7_2, n7_3, n7_4, n7_5, n7_6])).virt (W := 0) X14 hx hZ hown (hw _ (List.mem_of_getElem? (i := 20) rfl)) (hw _ (List.mem_of_getElem? (i := 21) rfl)) (nf_sel hZ (hw _ (List.mem_of_getElem? (i := 23) rfl))) (hw _ (List.mem_of_getElem? (i := 23) rfl)) (hw _ (List.mem_of_getElem? (i := 22) rfl)) (hw _ (List.mem_of_getElem? (i := 5) rfl)) (hw _ (List.mem_of_getElem? (i := 24) rfl)) (by decide) (by decide) (by decide) e14 (by decide) (by decide) (g := (mkF m 38 #[.val (.int p1), .val (.int (4 : Int32)), .val (.ref w_CRASH), .val (.int (1 : Int32)), .val (.int (1 : Int32))] [(.ref w_CRASH)])) rfl (by rw [hml]; rfl) E_CRASH (argsL := []) (rest := []) rfl (lenOf pd_1 rfl) rfl (by show 2 * 0 + _ ≤ _; exact Nat.le_of_eq rfl) (hb hby at_38)
    obtain ⟨rfl, N15q, e15⟩ := hQ15
    have N15 := Fr.app N14 N15q
    refine OGo.st (B := T15.setTop (mkF m 41 #[.val (.int p1), .val (.int (4 : Int32)), .val (.ref w_CRASH), .val (.int (1 : Int32)), .val (.int (1 : Int32))] [(.int (0 : Int32))])) st15 ?_
    refine OGo.st (B := T15.setTop (mkF m 49 #[.val (.int p1), .val (.int (4 : Int32)), .val (.ref w_CRASH), .val (.int (1 : Int32)), .val (.int (1 : Int32))] [])) (fun _ k => XS.ifYes X15.here hx rfl (pc0 := 41) (pc' := 49) rfl (hb hby at_41) rfl (by decide) (by decide) (by decide) k) ?_
    refine OGo.st (B := T15.setTop (mkF m 50 #[.val (.int p1), .val (.int (4 : Int32)), .val (.ref w_CRASH), .val (.int (1 : Int32)), .val (.int (1 : Int32))] [(.int (1 : Int32))])) (fun _ k => XS.iconst X15.here hx rfl (hb hby at_49) k) ?_
    refine OGo.st (B := T15.setTop (mkF m 54 #[.val (.int p1), .val (.int (4 : Int32)), .val (.ref w_CRASH), .val (.int (1 : Int32)), .val (.int (1 : Int32))] [(.int (1 : Int32))])) (fun _ k => XS.goto X15.here hx rfl (pc0 := 50) (pc' := 54) rfl (hb hby at_50) (by decide) (by decide) k) ?_
    exact own_retZ X15 hx hret hlk (hb hby at_54) ⟨rfl, N15⟩ (by decide) (by decide)
  · skip
    rw [hk]
    obtain ⟨v16, T16, L16, X16, hQ16, st16⟩ := (rm1_5 l Z a0 hw w_DIFFER h0 n0 S_DIFFER).static (W := 0) X0 hx hZ hown (hw _ (List.mem_of_getElem? (i := 0) rfl)) (hw _ (List.mem_of_getElem? (i := 1) rfl)) (hw _ (List.mem_of_getElem? (i := 2) rfl)) (hw _ (List.mem_of_getElem? (i := 3) rfl)) (by decide) (by decide) (by decide) e0 (by decide) (by decide) (g := (mkF m 6 #[.val (.int p1), .val (.int (5 : Int32)), .unset, .unset, .unset] [(.int (5 : Int32))])) rfl (by rw [hml]; rfl) (argsL := [(.int (5 : Int32))]) (rest := []) rfl (lenOf pd_0 rfl) rfl (by show 2 * 0 + _ ≤ _; exact Nat.le_of_eq rfl) (hb hby at_6)
    obtain ⟨rfl, N16q, e16⟩ := hQ16
    have N16 := Fr.app N0 N16q
    refine OGo.st (B := T16.setTop (mkF m 9 #[.val (.int p1), .val (.int (5 : Int32)), .unset, .unset, .unset] [(.ref w_DIFFER)])) st16 ?_
    refine OGo.st (B := T16.setTop (mkF m 10 #[.val (.int p1), .val (.int (5 : Int32)), .val (.ref w_DIFFER), .unset, .unset] [])) (fun _ k => XS.astoreN X16.here hx rfl (hb hby at_9) rfl rfl (l' := #[.val (.int p1), .val (.int (5 : Int32)), .val (.ref w_DIFFER), .unset, .unset]) rfl k) ?_
    refine OGo.st (B := T16.setTop (mkF m 12 #[.val (.int p1), .val (.int (5 : Int32)), .val (.ref w_DIFFER), .unset, .unset] [(.int (116 : Int32))])) (fun _ k => XS.bipush X16.here hx rfl (hb hby at_10) k) ?_
    refine OGo.st (B := T16.setTop (mkF m 13 #[.val (.int p1), .val (.int (5 : Int32)), .val (.ref w_DIFFER), .unset, .unset] [(.int (5 : Int32)), (.int (116 : Int32))])) (fun _ k => XS.iloadN X16.here hx rfl (hb hby at_12) rfl k) ?_
    refine OGo.st (B := T16.setTop (mkF m 14 #[.val (.int p1), .val (.int (5 : Int32)), .val (.ref w_DIFFER), .unset, .unset] [(.int ((116 : Int32) >>> ((5 : Int32) &&& 31)))])) (fun _ k => XS.ishr X16.here hx rfl (hb hby at_13) rfl k) ?_
    rw [(by decide : ((116 : Int32) >>> ((5 : Int32) &&& 31)) = (3 : Int32))]
    refine OGo.st (B := T16.setTop (mkF m 15 #[.val (.int p1), .val (.int (5 : Int32)), .val (.ref w_DIFFER), .unset, .unset] [(.int (1 : Int32)), (.int (3 : Int32))])) (fun _ k => XS.iconst X16.here hx rfl (hb hby at_14) k) ?_
    refine OGo.st (B := T16.setTop (mkF m 16 #[.val (.int p1), .val (.int (5 : Int32)), .val (.ref w_DIFFER), .unset, .unset] [(.int ((3 : Int32) &&& (1 : Int32)))])) (fun _ k => XS.iand X16.here hx rfl (hb hby at_15) rfl k) ?_
    rw [(by decide : ((3 : Int32) &&& (1 : Int32)) = (1 : Int32))]
    refine OGo.st (B := T16.setTop (mkF m 19 #[.val (.int p1), .val (.int (5 : Int32)), .val (.ref w_DIFFER), .unset, .unset] [])) (fun _ k => XS.ifNo X16.here hx rfl (hb hby at_16) rfl (by decide) k) ?_
    refine OGo.st (B := T16.setTop (mkF m 20 #[.val (.int p1), .val (.int (5 : Int32)), .val (.ref w_DIFFER), .unset, .unset] [(.int (1 : Int32))])) (fun _ k => XS.iconst X16.here hx rfl (hb hby at_19) k) ?_
    refine OGo.st (B := T16.setTop (mkF m 24 #[.val (.int p1), .val (.int (5 : Int32)), .val (.ref w_DIFFER), .unset, .unset] [(.int (1 : Int32))])) (fun _ k => XS.goto X16.here hx rfl (pc0 := 20) (pc' := 24) rfl (hb hby at_20) (by decide) (by decide) k) ?_
    refine OGo.st (B := T16.setTop (mkF m 25 #[.val (.int p1), .val (.int (5 : Int32)), .val (.ref w_DIFFER), .val (.int (1 : Int32)), .unset] [])) (fun _ k => XS.istoreN X16.here hx rfl (hb hby at_24) rfl (l' := #[.val (.int p1), .val (.int (5 : Int32)), .val (.ref w_DIFFER), .val (.int (1 : Int32)), .unset]) rfl k) ?_
    refine OGo.st (B := T16.setTop (mkF m 26 #[.val (.int p1), .val (.int (5 : Int32)), .val (.ref w_DIFFER), .val (.int (1 : Int32)), .unset] [(.ref w_DIFFER)])) (fun _ k => XS.aloadN X16.here hx rfl (hb hby at_25) rfl rfl k) ?_
    obtain ⟨v17, T17, L17, X17, hQ17, st17⟩ := (rm2 l Z a0 hw w_DIFFER w_BUG w_CRASH w_DIFFER w_UNSTABLE (1 : Int32) h0 n0 S_BUG S_CRASH S_DIFFER S_UNSTABLE (by simp [n0_1, n0_2, n0_3, n0_4, n0_5, n0_6, n0_7, n1_0, n1_2, n1_3, n1_4, n1_5, n1_6, n1_7, n2_0, n2_1, n2_3, n2_4, n2_5, n2_6, n2_7, n3_0, n3_1, n3_2, n3_4, n3_5, n3_6, n3_7, n4_0, n4_1, n4_2, n4_3, n4_5, n4_6, n4_7, n5_0, n5_1, n5_2, n5_3, n5_4, n5_6, n5_7, n6_0, n6_1, n6_2, n6_3, n6_4, n6_5, n6_7, n7_0, n7_1, n7_2, n7_3, n7_4, n7_5, n7_6])).virt (W := 0) X16 hx hZ hown (hw _ (List.mem_of_getElem? (i := 7) rfl)) (hw _ (List.mem_of_getElem? (i := 8) rfl)) (nf_sel hZ (hw _ (List.mem_of_getElem? (i := 10) rfl))) (hw _ (List.mem_of_getElem? (i := 10) rfl)) (hw _ (List.mem_of_getElem? (i := 9) rfl)) (hw _ (List.mem_of_getElem? (i := 5) rfl)) (hw _ (List.mem_of_getElem? (i := 11) rfl)) (by decide) (by decide) (by decide) e16 (by decide) (by decide) (g := (mkF m 26 #[.val (.int p1), .val (.int (5 : Int32)), .val (.ref w_DIFFER), .val (.int (1 : Int32)), .unset] [(.ref w_DIFFER)])) rfl (by rw [hml]; rfl) E_DIFFER (argsL := []) (rest := []) rfl (lenOf pd_1 rfl) rfl (by show 2 * 0 + _ ≤ _; exact Nat.le_of_eq rfl) (hb hby at_26)
    obtain ⟨rfl, N17q, e17⟩ := hQ17
    have N17 := Fr.app N16 N17q
    refine OGo.st (B := T17.setTop (mkF m 29 #[.val (.int p1), .val (.int (5 : Int32)), .val (.ref w_DIFFER), .val (.int (1 : Int32)), .unset] [(.int (1 : Int32))])) st17 ?_
    refine OGo.st (B := T17.setTop (mkF m 31 #[.val (.int p1), .val (.int (5 : Int32)), .val (.ref w_DIFFER), .val (.int (1 : Int32)), .val (.int (1 : Int32))] [])) (fun _ k => XS.istore X17.here hx rfl (hb hby at_29) rfl (l' := #[.val (.int p1), .val (.int (5 : Int32)), .val (.ref w_DIFFER), .val (.int (1 : Int32)), .val (.int (1 : Int32))]) rfl k) ?_
    refine OGo.st (B := T17.setTop (mkF m 33 #[.val (.int p1), .val (.int (5 : Int32)), .val (.ref w_DIFFER), .val (.int (1 : Int32)), .val (.int (1 : Int32))] [(.int (1 : Int32))])) (fun _ k => XS.iload X17.here hx rfl (hb hby at_31) rfl k) ?_
    refine OGo.st (B := T17.setTop (mkF m 34 #[.val (.int p1), .val (.int (5 : Int32)), .val (.ref w_DIFFER), .val (.int (1 : Int32)), .val (.int (1 : Int32))] [(.int (1 : Int32)), (.int (1 : Int32))])) (fun _ k => XS.iloadN X17.here hx rfl (hb hby at_33) rfl k) ?_
    refine OGo.st (B := T17.setTop (mkF m 37 #[.val (.int p1), .val (.int (5 : Int32)), .val (.ref w_DIFFER), .val (.int (1 : Int32)), .val (.int (1 : Int32))] [])) (fun _ k => XS.icmpNo X17.here hx rfl (hb hby at_34) rfl (by decide) k) ?_
    refine OGo.st (B := T17.setTop (mkF m 38 #[.val (.int p1), .val (.int (5 : Int32)), .val (.ref w_DIFFER), .val (.int (1 : Int32)), .val (.int (1 : Int32))] [(.ref w_DIFFER)])) (fun _ k => XS.aloadN X17.here hx rfl (hb hby at_37) rfl rfl k) ?_
    obtain ⟨v18, T18, L18, X18, hQ18, st18⟩ := (rm3 l Z a0 hw w_DIFFER w_DIFFER w_UNSTABLE (1 : Int32) h0 n0 S_DIFFER S_UNSTABLE (by simp [n0_1, n0_2, n0_3, n0_4, n0_5, n0_6, n0_7, n1_0, n1_2, n1_3, n1_4, n1_5, n1_6, n1_7, n2_0, n2_1, n2_3, n2_4, n2_5, n2_6, n2_7, n3_0, n3_1, n3_2, n3_4, n3_5, n3_6, n3_7, n4_0, n4_1, n4_2, n4_3, n4_5, n4_6, n4_7, n5_0, n5_1, n5_2, n5_3, n5_4, n5_6, n5_7, n6_0, n6_1, n6_2, n6_3, n6_4, n6_5, n6_7, n7_0, n7_1, n7_2, n7_3, n7_4, n7_5, n7_6])).virt (W := 0) X17 hx hZ hown (hw _ (List.mem_of_getElem? (i := 20) rfl)) (hw _ (List.mem_of_getElem? (i := 21) rfl)) (nf_sel hZ (hw _ (List.mem_of_getElem? (i := 23) rfl))) (hw _ (List.mem_of_getElem? (i := 23) rfl)) (hw _ (List.mem_of_getElem? (i := 22) rfl)) (hw _ (List.mem_of_getElem? (i := 5) rfl)) (hw _ (List.mem_of_getElem? (i := 24) rfl)) (by decide) (by decide) (by decide) e17 (by decide) (by decide) (g := (mkF m 38 #[.val (.int p1), .val (.int (5 : Int32)), .val (.ref w_DIFFER), .val (.int (1 : Int32)), .val (.int (1 : Int32))] [(.ref w_DIFFER)])) rfl (by rw [hml]; rfl) E_DIFFER (argsL := []) (rest := []) rfl (lenOf pd_1 rfl) rfl (by show 2 * 0 + _ ≤ _; exact Nat.le_of_eq rfl) (hb hby at_38)
    obtain ⟨rfl, N18q, e18⟩ := hQ18
    have N18 := Fr.app N17 N18q
    refine OGo.st (B := T18.setTop (mkF m 41 #[.val (.int p1), .val (.int (5 : Int32)), .val (.ref w_DIFFER), .val (.int (1 : Int32)), .val (.int (1 : Int32))] [(.int (1 : Int32))])) st18 ?_
    refine OGo.st (B := T18.setTop (mkF m 44 #[.val (.int p1), .val (.int (5 : Int32)), .val (.ref w_DIFFER), .val (.int (1 : Int32)), .val (.int (1 : Int32))] [])) (fun _ k => XS.ifNo X18.here hx rfl (hb hby at_41) rfl (by decide) k) ?_
    refine OGo.st (B := T18.setTop (mkF m 46 #[.val (.int p1), .val (.int (5 : Int32)), .val (.ref w_DIFFER), .val (.int (1 : Int32)), .val (.int (1 : Int32))] [(.int (1 : Int32))])) (fun _ k => XS.iload X18.here hx rfl (hb hby at_44) rfl k) ?_
    refine OGo.st (B := T18.setTop (mkF m 49 #[.val (.int p1), .val (.int (5 : Int32)), .val (.ref w_DIFFER), .val (.int (1 : Int32)), .val (.int (1 : Int32))] [])) (fun _ k => XS.ifNo X18.here hx rfl (hb hby at_46) rfl (by decide) k) ?_
    refine OGo.st (B := T18.setTop (mkF m 50 #[.val (.int p1), .val (.int (5 : Int32)), .val (.ref w_DIFFER), .val (.int (1 : Int32)), .val (.int (1 : Int32))] [(.int (1 : Int32))])) (fun _ k => XS.iconst X18.here hx rfl (hb hby at_49) k) ?_
    refine OGo.st (B := T18.setTop (mkF m 54 #[.val (.int p1), .val (.int (5 : Int32)), .val (.ref w_DIFFER), .val (.int (1 : Int32)), .val (.int (1 : Int32))] [(.int (1 : Int32))])) (fun _ k => XS.goto X18.here hx rfl (pc0 := 50) (pc' := 54) rfl (hb hby at_50) (by decide) (by decide) k) ?_
    exact own_retZ X18 hx hret hlk (hb hby at_54) ⟨rfl, N18⟩ (by decide) (by decide)
  · skip
    rw [hk]
    obtain ⟨v19, T19, L19, X19, hQ19, st19⟩ := (rm1_6 l Z a0 hw w_UNSTABLE h0 n0 S_UNSTABLE).static (W := 0) X0 hx hZ hown (hw _ (List.mem_of_getElem? (i := 0) rfl)) (hw _ (List.mem_of_getElem? (i := 1) rfl)) (hw _ (List.mem_of_getElem? (i := 2) rfl)) (hw _ (List.mem_of_getElem? (i := 3) rfl)) (by decide) (by decide) (by decide) e0 (by decide) (by decide) (g := (mkF m 6 #[.val (.int p1), .val (.int (6 : Int32)), .unset, .unset, .unset] [(.int (6 : Int32))])) rfl (by rw [hml]; rfl) (argsL := [(.int (6 : Int32))]) (rest := []) rfl (lenOf pd_0 rfl) rfl (by show 2 * 0 + _ ≤ _; exact Nat.le_of_eq rfl) (hb hby at_6)
    obtain ⟨rfl, N19q, e19⟩ := hQ19
    have N19 := Fr.app N0 N19q
    refine OGo.st (B := T19.setTop (mkF m 9 #[.val (.int p1), .val (.int (6 : Int32)), .unset, .unset, .unset] [(.ref w_UNSTABLE)])) st19 ?_
    refine OGo.st (B := T19.setTop (mkF m 10 #[.val (.int p1), .val (.int (6 : Int32)), .val (.ref w_UNSTABLE), .unset, .unset] [])) (fun _ k => XS.astoreN X19.here hx rfl (hb hby at_9) rfl rfl (l' := #[.val (.int p1), .val (.int (6 : Int32)), .val (.ref w_UNSTABLE), .unset, .unset]) rfl k) ?_
    refine OGo.st (B := T19.setTop (mkF m 12 #[.val (.int p1), .val (.int (6 : Int32)), .val (.ref w_UNSTABLE), .unset, .unset] [(.int (116 : Int32))])) (fun _ k => XS.bipush X19.here hx rfl (hb hby at_10) k) ?_
    refine OGo.st (B := T19.setTop (mkF m 13 #[.val (.int p1), .val (.int (6 : Int32)), .val (.ref w_UNSTABLE), .unset, .unset] [(.int (6 : Int32)), (.int (116 : Int32))])) (fun _ k => XS.iloadN X19.here hx rfl (hb hby at_12) rfl k) ?_
    refine OGo.st (B := T19.setTop (mkF m 14 #[.val (.int p1), .val (.int (6 : Int32)), .val (.ref w_UNSTABLE), .unset, .unset] [(.int ((116 : Int32) >>> ((6 : Int32) &&& 31)))])) (fun _ k => XS.ishr X19.here hx rfl (hb hby at_13) rfl k) ?_
    rw [(by decide : ((116 : Int32) >>> ((6 : Int32) &&& 31)) = (1 : Int32))]
    refine OGo.st (B := T19.setTop (mkF m 15 #[.val (.int p1), .val (.int (6 : Int32)), .val (.ref w_UNSTABLE), .unset, .unset] [(.int (1 : Int32)), (.int (1 : Int32))])) (fun _ k => XS.iconst X19.here hx rfl (hb hby at_14) k) ?_
    refine OGo.st (B := T19.setTop (mkF m 16 #[.val (.int p1), .val (.int (6 : Int32)), .val (.ref w_UNSTABLE), .unset, .unset] [(.int ((1 : Int32) &&& (1 : Int32)))])) (fun _ k => XS.iand X19.here hx rfl (hb hby at_15) rfl k) ?_
    rw [(by decide : ((1 : Int32) &&& (1 : Int32)) = (1 : Int32))]
    refine OGo.st (B := T19.setTop (mkF m 19 #[.val (.int p1), .val (.int (6 : Int32)), .val (.ref w_UNSTABLE), .unset, .unset] [])) (fun _ k => XS.ifNo X19.here hx rfl (hb hby at_16) rfl (by decide) k) ?_
    refine OGo.st (B := T19.setTop (mkF m 20 #[.val (.int p1), .val (.int (6 : Int32)), .val (.ref w_UNSTABLE), .unset, .unset] [(.int (1 : Int32))])) (fun _ k => XS.iconst X19.here hx rfl (hb hby at_19) k) ?_
    refine OGo.st (B := T19.setTop (mkF m 24 #[.val (.int p1), .val (.int (6 : Int32)), .val (.ref w_UNSTABLE), .unset, .unset] [(.int (1 : Int32))])) (fun _ k => XS.goto X19.here hx rfl (pc0 := 20) (pc' := 24) rfl (hb hby at_20) (by decide) (by decide) k) ?_
    refine OGo.st (B := T19.setTop (mkF m 25 #[.val (.int p1), .val (.int (6 : Int32)), .val (.ref w_UNSTABLE), .val (.int (1 : Int32)), .unset] [])) (fun _ k => XS.istoreN X19.here hx rfl (hb hby at_24) rfl (l' := #[.val (.int p1), .val (.int (6 : Int32)), .val (.ref w_UNSTABLE), .val (.int (1 : Int32)), .unset]) rfl k) ?_
    refine OGo.st (B := T19.setTop (mkF m 26 #[.val (.int p1), .val (.int (6 : Int32)), .val (.ref w_UNSTABLE), .val (.int (1 : Int32)), .unset] [(.ref w_UNSTABLE)])) (fun _ k => XS.aloadN X19.here hx rfl (hb hby at_25) rfl rfl k) ?_
    obtain ⟨v20, T20, L20, X20, hQ20, st20⟩ := (rm2 l Z a0 hw w_UNSTABLE w_BUG w_CRASH w_DIFFER w_UNSTABLE (1 : Int32) h0 n0 S_BUG S_CRASH S_DIFFER S_UNSTABLE (by simp [n0_1, n0_2, n0_3, n0_4, n0_5, n0_6, n0_7, n1_0, n1_2, n1_3, n1_4, n1_5, n1_6, n1_7, n2_0, n2_1, n2_3, n2_4, n2_5, n2_6, n2_7, n3_0, n3_1, n3_2, n3_4, n3_5, n3_6, n3_7, n4_0, n4_1, n4_2, n4_3, n4_5, n4_6, n4_7, n5_0, n5_1, n5_2, n5_3, n5_4, n5_6, n5_7, n6_0, n6_1, n6_2, n6_3, n6_4, n6_5, n6_7, n7_0, n7_1, n7_2, n7_3, n7_4, n7_5, n7_6])).virt (W := 0) X19 hx hZ hown (hw _ (List.mem_of_getElem? (i := 7) rfl)) (hw _ (List.mem_of_getElem? (i := 8) rfl)) (nf_sel hZ (hw _ (List.mem_of_getElem? (i := 10) rfl))) (hw _ (List.mem_of_getElem? (i := 10) rfl)) (hw _ (List.mem_of_getElem? (i := 9) rfl)) (hw _ (List.mem_of_getElem? (i := 5) rfl)) (hw _ (List.mem_of_getElem? (i := 11) rfl)) (by decide) (by decide) (by decide) e19 (by decide) (by decide) (g := (mkF m 26 #[.val (.int p1), .val (.int (6 : Int32)), .val (.ref w_UNSTABLE), .val (.int (1 : Int32)), .unset] [(.ref w_UNSTABLE)])) rfl (by rw [hml]; rfl) E_UNSTABLE (argsL := []) (rest := []) rfl (lenOf pd_1 rfl) rfl (by show 2 * 0 + _ ≤ _; exact Nat.le_of_eq rfl) (hb hby at_26)
    obtain ⟨rfl, N20q, e20⟩ := hQ20
    have N20 := Fr.app N19 N20q
    refine OGo.st (B := T20.setTop (mkF m 29 #[.val (.int p1), .val (.int (6 : Int32)), .val (.ref w_UNSTABLE), .val (.int (1 : Int32)), .unset] [(.int (1 : Int32))])) st20 ?_
    refine OGo.st (B := T20.setTop (mkF m 31 #[.val (.int p1), .val (.int (6 : Int32)), .val (.ref w_UNSTABLE), .val (.int (1 : Int32)), .val (.int (1 : Int32))] [])) (fun _ k => XS.istore X20.here hx rfl (hb hby at_29) rfl (l' := #[.val (.int p1), .val (.int (6 : Int32)), .val (.ref w_UNSTABLE), .val (.int (1 : Int32)), .val (.int (1 : Int32))]) rfl k) ?_
    refine OGo.st (B := T20.setTop (mkF m 33 #[.val (.int p1), .val (.int (6 : Int32)), .val (.ref w_UNSTABLE), .val (.int (1 : Int32)), .val (.int (1 : Int32))] [(.int (1 : Int32))])) (fun _ k => XS.iload X20.here hx rfl (hb hby at_31) rfl k) ?_
    refine OGo.st (B := T20.setTop (mkF m 34 #[.val (.int p1), .val (.int (6 : Int32)), .val (.ref w_UNSTABLE), .val (.int (1 : Int32)), .val (.int (1 : Int32))] [(.int (1 : Int32)), (.int (1 : Int32))])) (fun _ k => XS.iloadN X20.here hx rfl (hb hby at_33) rfl k) ?_
    refine OGo.st (B := T20.setTop (mkF m 37 #[.val (.int p1), .val (.int (6 : Int32)), .val (.ref w_UNSTABLE), .val (.int (1 : Int32)), .val (.int (1 : Int32))] [])) (fun _ k => XS.icmpNo X20.here hx rfl (hb hby at_34) rfl (by decide) k) ?_
    refine OGo.st (B := T20.setTop (mkF m 38 #[.val (.int p1), .val (.int (6 : Int32)), .val (.ref w_UNSTABLE), .val (.int (1 : Int32)), .val (.int (1 : Int32))] [(.ref w_UNSTABLE)])) (fun _ k => XS.aloadN X20.here hx rfl (hb hby at_37) rfl rfl k) ?_
    obtain ⟨v21, T21, L21, X21, hQ21, st21⟩ := (rm3 l Z a0 hw w_UNSTABLE w_DIFFER w_UNSTABLE (1 : Int32) h0 n0 S_DIFFER S_UNSTABLE (by simp [n0_1, n0_2, n0_3, n0_4, n0_5, n0_6, n0_7, n1_0, n1_2, n1_3, n1_4, n1_5, n1_6, n1_7, n2_0, n2_1, n2_3, n2_4, n2_5, n2_6, n2_7, n3_0, n3_1, n3_2, n3_4, n3_5, n3_6, n3_7, n4_0, n4_1, n4_2, n4_3, n4_5, n4_6, n4_7, n5_0, n5_1, n5_2, n5_3, n5_4, n5_6, n5_7, n6_0, n6_1, n6_2, n6_3, n6_4, n6_5, n6_7, n7_0, n7_1, n7_2, n7_3, n7_4, n7_5, n7_6])).virt (W := 0) X20 hx hZ hown (hw _ (List.mem_of_getElem? (i := 20) rfl)) (hw _ (List.mem_of_getElem? (i := 21) rfl)) (nf_sel hZ (hw _ (List.mem_of_getElem? (i := 23) rfl))) (hw _ (List.mem_of_getElem? (i := 23) rfl)) (hw _ (List.mem_of_getElem? (i := 22) rfl)) (hw _ (List.mem_of_getElem? (i := 5) rfl)) (hw _ (List.mem_of_getElem? (i := 24) rfl)) (by decide) (by decide) (by decide) e20 (by decide) (by decide) (g := (mkF m 38 #[.val (.int p1), .val (.int (6 : Int32)), .val (.ref w_UNSTABLE), .val (.int (1 : Int32)), .val (.int (1 : Int32))] [(.ref w_UNSTABLE)])) rfl (by rw [hml]; rfl) E_UNSTABLE (argsL := []) (rest := []) rfl (lenOf pd_1 rfl) rfl (by show 2 * 0 + _ ≤ _; exact Nat.le_of_eq rfl) (hb hby at_38)
    obtain ⟨rfl, N21q, e21⟩ := hQ21
    have N21 := Fr.app N20 N21q
    refine OGo.st (B := T21.setTop (mkF m 41 #[.val (.int p1), .val (.int (6 : Int32)), .val (.ref w_UNSTABLE), .val (.int (1 : Int32)), .val (.int (1 : Int32))] [(.int (1 : Int32))])) st21 ?_
    refine OGo.st (B := T21.setTop (mkF m 44 #[.val (.int p1), .val (.int (6 : Int32)), .val (.ref w_UNSTABLE), .val (.int (1 : Int32)), .val (.int (1 : Int32))] [])) (fun _ k => XS.ifNo X21.here hx rfl (hb hby at_41) rfl (by decide) k) ?_
    refine OGo.st (B := T21.setTop (mkF m 46 #[.val (.int p1), .val (.int (6 : Int32)), .val (.ref w_UNSTABLE), .val (.int (1 : Int32)), .val (.int (1 : Int32))] [(.int (1 : Int32))])) (fun _ k => XS.iload X21.here hx rfl (hb hby at_44) rfl k) ?_
    refine OGo.st (B := T21.setTop (mkF m 49 #[.val (.int p1), .val (.int (6 : Int32)), .val (.ref w_UNSTABLE), .val (.int (1 : Int32)), .val (.int (1 : Int32))] [])) (fun _ k => XS.ifNo X21.here hx rfl (hb hby at_46) rfl (by decide) k) ?_
    refine OGo.st (B := T21.setTop (mkF m 50 #[.val (.int p1), .val (.int (6 : Int32)), .val (.ref w_UNSTABLE), .val (.int (1 : Int32)), .val (.int (1 : Int32))] [(.int (1 : Int32))])) (fun _ k => XS.iconst X21.here hx rfl (hb hby at_49) k) ?_
    refine OGo.st (B := T21.setTop (mkF m 54 #[.val (.int p1), .val (.int (6 : Int32)), .val (.ref w_UNSTABLE), .val (.int (1 : Int32)), .val (.int (1 : Int32))] [(.int (1 : Int32))])) (fun _ k => XS.goto X21.here hx rfl (pc0 := 50) (pc' := 54) rfl (hb hby at_50) (by decide) (by decide) k) ?_
    exact own_retZ X21 hx hret hlk (hb hby at_54) ⟨rfl, N21⟩ (by decide) (by decide)
  · skip
    rw [hk]
    obtain ⟨v22, T22, L22, X22, hQ22, st22⟩ := (rm1_7 l Z a0 hw w_KNOWN h0 n0 S_KNOWN).static (W := 0) X0 hx hZ hown (hw _ (List.mem_of_getElem? (i := 0) rfl)) (hw _ (List.mem_of_getElem? (i := 1) rfl)) (hw _ (List.mem_of_getElem? (i := 2) rfl)) (hw _ (List.mem_of_getElem? (i := 3) rfl)) (by decide) (by decide) (by decide) e0 (by decide) (by decide) (g := (mkF m 6 #[.val (.int p1), .val (.int (7 : Int32)), .unset, .unset, .unset] [(.int (7 : Int32))])) rfl (by rw [hml]; rfl) (argsL := [(.int (7 : Int32))]) (rest := []) rfl (lenOf pd_0 rfl) rfl (by show 2 * 0 + _ ≤ _; exact Nat.le_of_eq rfl) (hb hby at_6)
    obtain ⟨rfl, N22q, e22⟩ := hQ22
    have N22 := Fr.app N0 N22q
    refine OGo.st (B := T22.setTop (mkF m 9 #[.val (.int p1), .val (.int (7 : Int32)), .unset, .unset, .unset] [(.ref w_KNOWN)])) st22 ?_
    refine OGo.st (B := T22.setTop (mkF m 10 #[.val (.int p1), .val (.int (7 : Int32)), .val (.ref w_KNOWN), .unset, .unset] [])) (fun _ k => XS.astoreN X22.here hx rfl (hb hby at_9) rfl rfl (l' := #[.val (.int p1), .val (.int (7 : Int32)), .val (.ref w_KNOWN), .unset, .unset]) rfl k) ?_
    refine OGo.st (B := T22.setTop (mkF m 12 #[.val (.int p1), .val (.int (7 : Int32)), .val (.ref w_KNOWN), .unset, .unset] [(.int (116 : Int32))])) (fun _ k => XS.bipush X22.here hx rfl (hb hby at_10) k) ?_
    refine OGo.st (B := T22.setTop (mkF m 13 #[.val (.int p1), .val (.int (7 : Int32)), .val (.ref w_KNOWN), .unset, .unset] [(.int (7 : Int32)), (.int (116 : Int32))])) (fun _ k => XS.iloadN X22.here hx rfl (hb hby at_12) rfl k) ?_
    refine OGo.st (B := T22.setTop (mkF m 14 #[.val (.int p1), .val (.int (7 : Int32)), .val (.ref w_KNOWN), .unset, .unset] [(.int ((116 : Int32) >>> ((7 : Int32) &&& 31)))])) (fun _ k => XS.ishr X22.here hx rfl (hb hby at_13) rfl k) ?_
    rw [(by decide : ((116 : Int32) >>> ((7 : Int32) &&& 31)) = (0 : Int32))]
    refine OGo.st (B := T22.setTop (mkF m 15 #[.val (.int p1), .val (.int (7 : Int32)), .val (.ref w_KNOWN), .unset, .unset] [(.int (1 : Int32)), (.int (0 : Int32))])) (fun _ k => XS.iconst X22.here hx rfl (hb hby at_14) k) ?_
    refine OGo.st (B := T22.setTop (mkF m 16 #[.val (.int p1), .val (.int (7 : Int32)), .val (.ref w_KNOWN), .unset, .unset] [(.int ((0 : Int32) &&& (1 : Int32)))])) (fun _ k => XS.iand X22.here hx rfl (hb hby at_15) rfl k) ?_
    rw [(by decide : ((0 : Int32) &&& (1 : Int32)) = (0 : Int32))]
    refine OGo.st (B := T22.setTop (mkF m 23 #[.val (.int p1), .val (.int (7 : Int32)), .val (.ref w_KNOWN), .unset, .unset] [])) (fun _ k => XS.ifYes X22.here hx rfl (pc0 := 16) (pc' := 23) rfl (hb hby at_16) rfl (by decide) (by decide) (by decide) k) ?_
    refine OGo.st (B := T22.setTop (mkF m 24 #[.val (.int p1), .val (.int (7 : Int32)), .val (.ref w_KNOWN), .unset, .unset] [(.int (0 : Int32))])) (fun _ k => XS.iconst X22.here hx rfl (hb hby at_23) k) ?_
    refine OGo.st (B := T22.setTop (mkF m 25 #[.val (.int p1), .val (.int (7 : Int32)), .val (.ref w_KNOWN), .val (.int (0 : Int32)), .unset] [])) (fun _ k => XS.istoreN X22.here hx rfl (hb hby at_24) rfl (l' := #[.val (.int p1), .val (.int (7 : Int32)), .val (.ref w_KNOWN), .val (.int (0 : Int32)), .unset]) rfl k) ?_
    refine OGo.st (B := T22.setTop (mkF m 26 #[.val (.int p1), .val (.int (7 : Int32)), .val (.ref w_KNOWN), .val (.int (0 : Int32)), .unset] [(.ref w_KNOWN)])) (fun _ k => XS.aloadN X22.here hx rfl (hb hby at_25) rfl rfl k) ?_
    obtain ⟨v23, T23, L23, X23, hQ23, st23⟩ := (rm2 l Z a0 hw w_KNOWN w_BUG w_CRASH w_DIFFER w_UNSTABLE (0 : Int32) h0 n0 S_BUG S_CRASH S_DIFFER S_UNSTABLE (by simp [n0_1, n0_2, n0_3, n0_4, n0_5, n0_6, n0_7, n1_0, n1_2, n1_3, n1_4, n1_5, n1_6, n1_7, n2_0, n2_1, n2_3, n2_4, n2_5, n2_6, n2_7, n3_0, n3_1, n3_2, n3_4, n3_5, n3_6, n3_7, n4_0, n4_1, n4_2, n4_3, n4_5, n4_6, n4_7, n5_0, n5_1, n5_2, n5_3, n5_4, n5_6, n5_7, n6_0, n6_1, n6_2, n6_3, n6_4, n6_5, n6_7, n7_0, n7_1, n7_2, n7_3, n7_4, n7_5, n7_6])).virt (W := 0) X22 hx hZ hown (hw _ (List.mem_of_getElem? (i := 7) rfl)) (hw _ (List.mem_of_getElem? (i := 8) rfl)) (nf_sel hZ (hw _ (List.mem_of_getElem? (i := 10) rfl))) (hw _ (List.mem_of_getElem? (i := 10) rfl)) (hw _ (List.mem_of_getElem? (i := 9) rfl)) (hw _ (List.mem_of_getElem? (i := 5) rfl)) (hw _ (List.mem_of_getElem? (i := 11) rfl)) (by decide) (by decide) (by decide) e22 (by decide) (by decide) (g := (mkF m 26 #[.val (.int p1), .val (.int (7 : Int32)), .val (.ref w_KNOWN), .val (.int (0 : Int32)), .unset] [(.ref w_KNOWN)])) rfl (by rw [hml]; rfl) E_KNOWN (argsL := []) (rest := []) rfl (lenOf pd_1 rfl) rfl (by show 2 * 0 + _ ≤ _; exact Nat.le_of_eq rfl) (hb hby at_26)
    obtain ⟨rfl, N23q, e23⟩ := hQ23
    have N23 := Fr.app N22 N23q
    refine OGo.st (B := T23.setTop (mkF m 29 #[.val (.int p1), .val (.int (7 : Int32)), .val (.ref w_KNOWN), .val (.int (0 : Int32)), .unset] [(.int (0 : Int32))])) st23 ?_
    refine OGo.st (B := T23.setTop (mkF m 31 #[.val (.int p1), .val (.int (7 : Int32)), .val (.ref w_KNOWN), .val (.int (0 : Int32)), .val (.int (0 : Int32))] [])) (fun _ k => XS.istore X23.here hx rfl (hb hby at_29) rfl (l' := #[.val (.int p1), .val (.int (7 : Int32)), .val (.ref w_KNOWN), .val (.int (0 : Int32)), .val (.int (0 : Int32))]) rfl k) ?_
    refine OGo.st (B := T23.setTop (mkF m 33 #[.val (.int p1), .val (.int (7 : Int32)), .val (.ref w_KNOWN), .val (.int (0 : Int32)), .val (.int (0 : Int32))] [(.int (0 : Int32))])) (fun _ k => XS.iload X23.here hx rfl (hb hby at_31) rfl k) ?_
    refine OGo.st (B := T23.setTop (mkF m 34 #[.val (.int p1), .val (.int (7 : Int32)), .val (.ref w_KNOWN), .val (.int (0 : Int32)), .val (.int (0 : Int32))] [(.int (0 : Int32)), (.int (0 : Int32))])) (fun _ k => XS.iloadN X23.here hx rfl (hb hby at_33) rfl k) ?_
    refine OGo.st (B := T23.setTop (mkF m 37 #[.val (.int p1), .val (.int (7 : Int32)), .val (.ref w_KNOWN), .val (.int (0 : Int32)), .val (.int (0 : Int32))] [])) (fun _ k => XS.icmpNo X23.here hx rfl (hb hby at_34) rfl (by decide) k) ?_
    refine OGo.st (B := T23.setTop (mkF m 38 #[.val (.int p1), .val (.int (7 : Int32)), .val (.ref w_KNOWN), .val (.int (0 : Int32)), .val (.int (0 : Int32))] [(.ref w_KNOWN)])) (fun _ k => XS.aloadN X23.here hx rfl (hb hby at_37) rfl rfl k) ?_
    obtain ⟨v24, T24, L24, X24, hQ24, st24⟩ := (rm3 l Z a0 hw w_KNOWN w_DIFFER w_UNSTABLE (0 : Int32) h0 n0 S_DIFFER S_UNSTABLE (by simp [n0_1, n0_2, n0_3, n0_4, n0_5, n0_6, n0_7, n1_0, n1_2, n1_3, n1_4, n1_5, n1_6, n1_7, n2_0, n2_1, n2_3, n2_4, n2_5, n2_6, n2_7, n3_0, n3_1, n3_2, n3_4, n3_5, n3_6, n3_7, n4_0, n4_1, n4_2, n4_3, n4_5, n4_6, n4_7, n5_0, n5_1, n5_2, n5_3, n5_4, n5_6, n5_7, n6_0, n6_1, n6_2, n6_3, n6_4, n6_5, n6_7, n7_0, n7_1, n7_2, n7_3, n7_4, n7_5, n7_6])).virt (W := 0) X23 hx hZ hown (hw _ (List.mem_of_getElem? (i := 20) rfl)) (hw _ (List.mem_of_getElem? (i := 21) rfl)) (nf_sel hZ (hw _ (List.mem_of_getElem? (i := 23) rfl))) (hw _ (List.mem_of_getElem? (i := 23) rfl)) (hw _ (List.mem_of_getElem? (i := 22) rfl)) (hw _ (List.mem_of_getElem? (i := 5) rfl)) (hw _ (List.mem_of_getElem? (i := 24) rfl)) (by decide) (by decide) (by decide) e23 (by decide) (by decide) (g := (mkF m 38 #[.val (.int p1), .val (.int (7 : Int32)), .val (.ref w_KNOWN), .val (.int (0 : Int32)), .val (.int (0 : Int32))] [(.ref w_KNOWN)])) rfl (by rw [hml]; rfl) E_KNOWN (argsL := []) (rest := []) rfl (lenOf pd_1 rfl) rfl (by show 2 * 0 + _ ≤ _; exact Nat.le_of_eq rfl) (hb hby at_38)
    obtain ⟨rfl, N24q, e24⟩ := hQ24
    have N24 := Fr.app N23 N24q
    refine OGo.st (B := T24.setTop (mkF m 41 #[.val (.int p1), .val (.int (7 : Int32)), .val (.ref w_KNOWN), .val (.int (0 : Int32)), .val (.int (0 : Int32))] [(.int (0 : Int32))])) st24 ?_
    refine OGo.st (B := T24.setTop (mkF m 49 #[.val (.int p1), .val (.int (7 : Int32)), .val (.ref w_KNOWN), .val (.int (0 : Int32)), .val (.int (0 : Int32))] [])) (fun _ k => XS.ifYes X24.here hx rfl (pc0 := 41) (pc' := 49) rfl (hb hby at_41) rfl (by decide) (by decide) (by decide) k) ?_
    refine OGo.st (B := T24.setTop (mkF m 50 #[.val (.int p1), .val (.int (7 : Int32)), .val (.ref w_KNOWN), .val (.int (0 : Int32)), .val (.int (0 : Int32))] [(.int (1 : Int32))])) (fun _ k => XS.iconst X24.here hx rfl (hb hby at_49) k) ?_
    refine OGo.st (B := T24.setTop (mkF m 54 #[.val (.int p1), .val (.int (7 : Int32)), .val (.ref w_KNOWN), .val (.int (0 : Int32)), .val (.int (0 : Int32))] [(.int (1 : Int32))])) (fun _ k => XS.goto X24.here hx rfl (pc0 := 50) (pc' := 54) rfl (hb hby at_50) (by decide) (by decide) k) ?_
    exact own_retZ X24 hx hret hlk (hb hby at_54) ⟨rfl, N24⟩ (by decide) (by decide)
set_option maxRecDepth 65536 in
set_option maxHeartbeats 40000000 in
theorem comes_1 {Post : Tables → Env → Array Value → State → Outcome → State → Prop} (hpost : ∀ tb e args s v u, (limb_1_1.after args s (.returned v) u = true ∧ limb_1_2.after args s (.returned v) u = true ∧ True) → FrameEnd s (.returned v) u (Jvm.fieldLocs frame_1_writes args s ++ Jvm.arrayLocs frame_1_arrays args s ++ Jvm.staticLocs frame_1_statics s) 0 0 → Post tb e args s (.returned v) u) :
    ArmFor flags0 classFile x code maxLocals ret World_1 tables_1 room_1 Calls_1 rest_1 Pre_1 Post := by
  intro l hfl _ _ p e ha hc hk s m args below hf hA hF happ hP
  obtain ⟨hcalls, hrest, hpre⟩ := hP
  obtain ⟨-, -, -, hnamed, -, -, -, hat⟩ := (Spec.applies_iff hf).mp happ
  obtain ⟨hg, hn⟩ := and_e (Cond.before_iff.mp (show (Jvm.Cond.and given_1 narrow_1).before args s = true from hpre))
  obtain ⟨q1, q2⟩ := and_e hg
  obtain ⟨w0, rfl⟩ : ∃ w0 : Value, args = #[w0] := by
    have hs : args.size = 1 := by simpa [Cond.value, given_1] using q1
    obtain ⟨L⟩ := args
    match L, hs with
    | [w0], _ => exact ⟨w0, rfl⟩
  have hw := fun d (hd : d ∈ tables_1) => atoms_spec (ws := Jvm.Cond.code x code maxLocals ret :: tables_1) hat d (List.mem_cons_of_mem _ hd)
  obtain ⟨i0, ei0⟩ := is_v q2
  obtain rfl : w0 = (.int i0) := Option.some.inj ei0
  obtain ⟨q3, q4⟩ := and_e hn
  obtain ⟨q5, q6⟩ := and_e q4
  obtain ⟨q7, q8⟩ := and_e q6
  obtain ⟨q9, q10⟩ := and_e q8
  obtain ⟨q11, q12⟩ := and_e q10
  obtain ⟨q13, q14⟩ := and_e q12
  obtain ⟨q15, q16⟩ := and_e q14
  obtain ⟨q17, q18⟩ := and_e q16
  obtain ⟨q19, q20⟩ := and_e q18
  obtain ⟨q21, q22⟩ := and_e q20
  obtain ⟨q23, q24⟩ := and_e q22
  obtain ⟨q25, q26⟩ := and_e q24
  obtain ⟨q27, q28⟩ := and_e q26
  obtain ⟨q29, q30⟩ := and_e q28
  obtain ⟨q31, q32⟩ := and_e q30
  obtain ⟨u_VALID, ev_VALID, S_VALID, E_VALID⟩ := own_sta (t := ("com/example/graphwright/graphwright/cli/Verdict", "VALID", "Lcom/example/graphwright/graphwright/cli/Verdict;")) q3 (hw _ (List.mem_of_getElem? (i := 5) rfl)) (hw _ (List.mem_of_getElem? (i := 6) rfl))
  replace S_VALID : Sta s s.heap "com/example/graphwright/graphwright/cli/Verdict" "VALID" "Lcom/example/graphwright/graphwright/cli/Verdict;" (.ref u_VALID) := S_VALID
  obtain ⟨u_BUG, ev_BUG, S_BUG, E_BUG⟩ := own_sta (t := ("com/example/graphwright/graphwright/cli/Verdict", "BUG", "Lcom/example/graphwright/graphwright/cli/Verdict;")) q5 (hw _ (List.mem_of_getElem? (i := 5) rfl)) (hw _ (List.mem_of_getElem? (i := 13) rfl))
  replace S_BUG : Sta s s.heap "com/example/graphwright/graphwright/cli/Verdict" "BUG" "Lcom/example/graphwright/graphwright/cli/Verdict;" (.ref u_BUG) := S_BUG
  obtain ⟨u_CRASH, ev_CRASH, S_CRASH, E_CRASH⟩ := own_sta (t := ("com/example/graphwright/graphwright/cli/Verdict", "CRASH", "Lcom/example/graphwright/graphwright/cli/Verdict;")) q11 (hw _ (List.mem_of_getElem? (i := 5) rfl)) (hw _ (List.mem_of_getElem? (i := 15) rfl))
  replace S_CRASH : Sta s s.heap "com/example/graphwright/graphwright/cli/Verdict" "CRASH" "Lcom/example/graphwright/graphwright/cli/Verdict;" (.ref u_CRASH) := S_CRASH
  obtain ⟨u_DIFFER, ev_DIFFER, S_DIFFER, E_DIFFER⟩ := own_sta (t := ("com/example/graphwright/graphwright/cli/Verdict", "DIFFER", "Lcom/example/graphwright/graphwright/cli/Verdict;")) q15 (hw _ (List.mem_of_getElem? (i := 5) rfl)) (hw _ (List.mem_of_getElem? (i := 17) rfl))
  replace S_DIFFER : Sta s s.heap "com/example/graphwright/graphwright/cli/Verdict" "DIFFER" "Lcom/example/graphwright/graphwright/cli/Verdict;" (.ref u_DIFFER) := S_DIFFER
  obtain ⟨u_UNSTABLE, ev_UNSTABLE, S_UNSTABLE, E_UNSTABLE⟩ := own_sta (t := ("com/example/graphwright/graphwright/cli/Verdict", "UNSTABLE", "Lcom/example/graphwright/graphwright/cli/Verdict;")) q19 (hw _ (List.mem_of_getElem? (i := 5) rfl)) (hw _ (List.mem_of_getElem? (i := 19) rfl))
  replace S_UNSTABLE : Sta s s.heap "com/example/graphwright/graphwright/cli/Verdict" "UNSTABLE" "Lcom/example/graphwright/graphwright/cli/Verdict;" (.ref u_UNSTABLE) := S_UNSTABLE
  obtain ⟨u_TIMEOUT, ev_TIMEOUT, S_TIMEOUT, E_TIMEOUT⟩ := own_sta (t := ("com/example/graphwright/graphwright/cli/Verdict", "TIMEOUT", "Lcom/example/graphwright/graphwright/cli/Verdict;")) q23 (hw _ (List.mem_of_getElem? (i := 5) rfl)) (hw _ (List.mem_of_getElem? (i := 26) rfl))
  replace S_TIMEOUT : Sta s s.heap "com/example/graphwright/graphwright/cli/Verdict" "TIMEOUT" "Lcom/example/graphwright/graphwright/cli/Verdict;" (.ref u_TIMEOUT) := S_TIMEOUT
  obtain ⟨u_KNOWN, ev_KNOWN, S_KNOWN, E_KNOWN⟩ := own_sta (t := ("com/example/graphwright/graphwright/cli/Verdict", "KNOWN", "Lcom/example/graphwright/graphwright/cli/Verdict;")) q27 (hw _ (List.mem_of_getElem? (i := 5) rfl)) (hw _ (List.mem_of_getElem? (i := 29) rfl))
  replace S_KNOWN : Sta s s.heap "com/example/graphwright/graphwright/cli/Verdict" "KNOWN" "Lcom/example/graphwright/graphwright/cli/Verdict;" (.ref u_KNOWN) := S_KNOWN
  obtain ⟨u_INVALID, ev_INVALID, S_INVALID, E_INVALID⟩ := own_sta (t := ("com/example/graphwright/graphwright/cli/Verdict", "INVALID", "Lcom/example/graphwright/graphwright/cli/Verdict;")) q31 (hw _ (List.mem_of_getElem? (i := 5) rfl)) (hw _ (List.mem_of_getElem? (i := 32) rfl))
  replace S_INVALID : Sta s s.heap "com/example/graphwright/graphwright/cli/Verdict" "INVALID" "Lcom/example/graphwright/graphwright/cli/Verdict;" (.ref u_INVALID) := S_INVALID
  have O_VALID := own_ord ev_VALID q7
  have O_BUG := own_ord ev_BUG q9
  have O_CRASH := own_ord ev_CRASH q13
  have O_DIFFER := own_ord ev_DIFFER q17
  have O_UNSTABLE := own_ord ev_UNSTABLE q21
  have O_TIMEOUT := own_ord ev_TIMEOUT q25
  have O_KNOWN := own_ord ev_KNOWN q29
  have O_INVALID := own_ord ev_INVALID q32
  have n0_1 : u_VALID ≠ u_INVALID := Fld.ne O_VALID O_INVALID (by decide)
  have n0_2 : u_VALID ≠ u_BUG := Fld.ne O_VALID O_BUG (by decide)
  have n0_3 : u_VALID ≠ u_TIMEOUT := Fld.ne O_VALID O_TIMEOUT (by decide)
  have n0_4 : u_VALID ≠ u_CRASH := Fld.ne O_VALID O_CRASH (by decide)
  have n0_5 : u_VALID ≠ u_DIFFER := Fld.ne O_VALID O_DIFFER (by decide)
  have n0_6 : u_VALID ≠ u_UNSTABLE := Fld.ne O_VALID O_UNSTABLE (by decide)
  have n0_7 : u_VALID ≠ u_KNOWN := Fld.ne O_VALID O_KNOWN (by decide)
  have n1_0 : u_INVALID ≠ u_VALID := Fld.ne O_INVALID O_VALID (by decide)
  have n1_2 : u_INVALID ≠ u_BUG := Fld.ne O_INVALID O_BUG (by decide)
  have n1_3 : u_INVALID ≠ u_TIMEOUT := Fld.ne O_INVALID O_TIMEOUT (by decide)
  have n1_4 : u_INVALID ≠ u_CRASH := Fld.ne O_INVALID O_CRASH (by decide)
  have n1_5 : u_INVALID ≠ u_DIFFER := Fld.ne O_INVALID O_DIFFER (by decide)
  have n1_6 : u_INVALID ≠ u_UNSTABLE := Fld.ne O_INVALID O_UNSTABLE (by decide)
  have n1_7 : u_INVALID ≠ u_KNOWN := Fld.ne O_INVALID O_KNOWN (by decide)
  have n2_0 : u_BUG ≠ u_VALID := Fld.ne O_BUG O_VALID (by decide)
  have n2_1 : u_BUG ≠ u_INVALID := Fld.ne O_BUG O_INVALID (by decide)
  have n2_3 : u_BUG ≠ u_TIMEOUT := Fld.ne O_BUG O_TIMEOUT (by decide)
  have n2_4 : u_BUG ≠ u_CRASH := Fld.ne O_BUG O_CRASH (by decide)
  have n2_5 : u_BUG ≠ u_DIFFER := Fld.ne O_BUG O_DIFFER (by decide)
  have n2_6 : u_BUG ≠ u_UNSTABLE := Fld.ne O_BUG O_UNSTABLE (by decide)
  have n2_7 : u_BUG ≠ u_KNOWN := Fld.ne O_BUG O_KNOWN (by decide)
  have n3_0 : u_TIMEOUT ≠ u_VALID := Fld.ne O_TIMEOUT O_VALID (by decide)
  have n3_1 : u_TIMEOUT ≠ u_INVALID := Fld.ne O_TIMEOUT O_INVALID (by decide)
  have n3_2 : u_TIMEOUT ≠ u_BUG := Fld.ne O_TIMEOUT O_BUG (by decide)
  have n3_4 : u_TIMEOUT ≠ u_CRASH := Fld.ne O_TIMEOUT O_CRASH (by decide)
  have n3_5 : u_TIMEOUT ≠ u_DIFFER := Fld.ne O_TIMEOUT O_DIFFER (by decide)
  have n3_6 : u_TIMEOUT ≠ u_UNSTABLE := Fld.ne O_TIMEOUT O_UNSTABLE (by decide)
  have n3_7 : u_TIMEOUT ≠ u_KNOWN := Fld.ne O_TIMEOUT O_KNOWN (by decide)
  have n4_0 : u_CRASH ≠ u_VALID := Fld.ne O_CRASH O_VALID (by decide)
  have n4_1 : u_CRASH ≠ u_INVALID := Fld.ne O_CRASH O_INVALID (by decide)
  have n4_2 : u_CRASH ≠ u_BUG := Fld.ne O_CRASH O_BUG (by decide)
  have n4_3 : u_CRASH ≠ u_TIMEOUT := Fld.ne O_CRASH O_TIMEOUT (by decide)
  have n4_5 : u_CRASH ≠ u_DIFFER := Fld.ne O_CRASH O_DIFFER (by decide)
  have n4_6 : u_CRASH ≠ u_UNSTABLE := Fld.ne O_CRASH O_UNSTABLE (by decide)
  have n4_7 : u_CRASH ≠ u_KNOWN := Fld.ne O_CRASH O_KNOWN (by decide)
  have n5_0 : u_DIFFER ≠ u_VALID := Fld.ne O_DIFFER O_VALID (by decide)
  have n5_1 : u_DIFFER ≠ u_INVALID := Fld.ne O_DIFFER O_INVALID (by decide)
  have n5_2 : u_DIFFER ≠ u_BUG := Fld.ne O_DIFFER O_BUG (by decide)
  have n5_3 : u_DIFFER ≠ u_TIMEOUT := Fld.ne O_DIFFER O_TIMEOUT (by decide)
  have n5_4 : u_DIFFER ≠ u_CRASH := Fld.ne O_DIFFER O_CRASH (by decide)
  have n5_6 : u_DIFFER ≠ u_UNSTABLE := Fld.ne O_DIFFER O_UNSTABLE (by decide)
  have n5_7 : u_DIFFER ≠ u_KNOWN := Fld.ne O_DIFFER O_KNOWN (by decide)
  have n6_0 : u_UNSTABLE ≠ u_VALID := Fld.ne O_UNSTABLE O_VALID (by decide)
  have n6_1 : u_UNSTABLE ≠ u_INVALID := Fld.ne O_UNSTABLE O_INVALID (by decide)
  have n6_2 : u_UNSTABLE ≠ u_BUG := Fld.ne O_UNSTABLE O_BUG (by decide)
  have n6_3 : u_UNSTABLE ≠ u_TIMEOUT := Fld.ne O_UNSTABLE O_TIMEOUT (by decide)
  have n6_4 : u_UNSTABLE ≠ u_CRASH := Fld.ne O_UNSTABLE O_CRASH (by decide)
  have n6_5 : u_UNSTABLE ≠ u_DIFFER := Fld.ne O_UNSTABLE O_DIFFER (by decide)
  have n6_7 : u_UNSTABLE ≠ u_KNOWN := Fld.ne O_UNSTABLE O_KNOWN (by decide)
  have n7_0 : u_KNOWN ≠ u_VALID := Fld.ne O_KNOWN O_VALID (by decide)
  have n7_1 : u_KNOWN ≠ u_INVALID := Fld.ne O_KNOWN O_INVALID (by decide)
  have n7_2 : u_KNOWN ≠ u_BUG := Fld.ne O_KNOWN O_BUG (by decide)
  have n7_3 : u_KNOWN ≠ u_TIMEOUT := Fld.ne O_KNOWN O_TIMEOUT (by decide)
  have n7_4 : u_KNOWN ≠ u_CRASH := Fld.ne O_KNOWN O_CRASH (by decide)
  have n7_5 : u_KNOWN ≠ u_DIFFER := Fld.ne O_KNOWN O_DIFFER (by decide)
  have n7_6 : u_KNOWN ≠ u_UNSTABLE := Fld.ne O_KNOWN O_UNSTABLE (by decide)
  obtain ⟨n, o, h1, h2, h3, _, L, rfl, ⟨rfl, N⟩, hq⟩ := rm0 l s _ hw i0 u_VALID u_INVALID u_BUG u_TIMEOUT u_CRASH u_DIFFER u_UNSTABLE u_KNOWN s.heap s.heap.size S_VALID S_INVALID S_BUG S_TIMEOUT S_CRASH S_DIFFER S_UNSTABLE S_KNOWN E_VALID E_INVALID E_BUG E_TIMEOUT E_CRASH E_DIFFER E_UNSTABLE E_KNOWN n0_1 n0_2 n0_3 n0_4 n0_5 n0_6 n0_7 n1_0 n1_2 n1_3 n1_4 n1_5 n1_6 n1_7 n2_0 n2_1 n2_3 n2_4 n2_5 n2_6 n2_7 n3_0 n3_1 n3_2 n3_4 n3_5 n3_6 n3_7 n4_0 n4_1 n4_2 n4_3 n4_5 n4_6 n4_7 n5_0 n5_1 n5_2 n5_3 n5_4 n5_6 n5_7 n6_0 n6_1 n6_2 n6_3 n6_4 n6_5 n6_7 n7_0 n7_1 n7_2 n7_3 n7_4 n7_5 n7_6 p e ha hc hk s m _ below hf ((Spec.applies_iff_loose hf).mp happ).1 ⟨rfl, State.Warmed39.refl s, rfl⟩ trivial
  refine ⟨n, _, h1, h2, h3, hpost _ _ _ _ _ _ ⟨Cond.after_iff.mpr rfl, Cond.after_iff.mpr (eq_i res_at (Term.int_eval (1)) rfl), trivial⟩ ⟨hq.1, hq.2.1, (hq.2.2.sift fun y hy => Or.inr (N y hy)).mono (by decide) (by decide)⟩⟩
theorem main_1_1 : Claimed_1_1 := comes_1 fun _ _ _ _ _ _ h hF => ⟨h.1, hF⟩
theorem main_1_2 : Claimed_1_2 := comes_1 fun _ _ _ _ _ _ h hF => ⟨h.2.1, hF⟩
end Jvm.Pilot.@@N@@
namespace Jvm.Pilot.@@N@@
open Jvm Jvm.ClassFile Sem Op Lib Jvm.Free Jvm.Stand Jvm.Pilot.@@N@@.Jvm.D
/-! MADE BY PROGRAM (witnessworld.py) out of the Statement's table words and the real class files: 12 classes; the members and pool entries that the words name. The judged class is class 1, her method 2. -/
namespace start1
open Jvm.ClassFile
def u (s : String) : CpInfo := .utf8 (stringToUtf16 s)
/-- a pool by its gaps: so many unusable entries, then the entry; so many at the end -/
def gap : Nat → List CpInfo → List CpInfo
  | 0, r => r
  | n + 1, r => .unusable :: gap n r
def poolList (es : List (Nat × CpInfo)) (last : Nat) : List CpInfo := es.foldr (fun e r => gap e.1 (e.2 :: r)) (gap last [])
def pool (es : List (Nat × CpInfo)) (last : Nat) : Array CpInfo := ⟨poolList es last⟩
def fileOf (pool : Array CpInfo) (this : Nat) (attrs : Array Attribute := #[]) (ms : Array MethodInfo := #[]) (fl : Nat := 33) (sup : Nat := 0) (ifs : Array Nat := #[]) (fds : Array FieldInfo := #[]) : ClassFile where
  minorVersion := 0
  majorVersion := 65
  constantPool := pool
  accessFlags := fl
  thisClass := this
  superClass := sup
  interfaces := ifs
  fields := fds
  methods := ms
  attributes := attrs
def plain (name : String) (sup : Option ClassId) : Class where
  name := name
  kind := .ordinary
  loader := none
  accessFlags := 33
  super := sup
  interfaces := #[]
  cf := none
  fields := #[]
  methods := #[]
  instanceTypes := #[]
  staticTypes := #[]
  resolved := #[]
  callSites := []
  init := .initialized
  statics := none
  mirror := none

def pool0 : Array CpInfo := pool [(5, u "<init>"), (0, u "()V"), (1, .class_ 10), (1, u "java/lang/Object")] 113

def k0m0 : Method := { name := "<init>", desc := "()V", sig := { parameters := [], returnType := none }, accessFlags := 1, code := none }
/-- java/lang/Object -/
def k0 : Class := { plain "java/lang/Object" none with
  accessFlags := 33
  interfaces := #[]
  cf := some (fileOf pool0 8 #[] #[{ accessFlags := 1, nameIndex := 5, descriptorIndex := 6, attributes := #[] }] 33 0 #[] #[])
  fields := #[]
  methods := #[k0m0]
  instanceTypes := #[]
  staticTypes := #[]
  resolved := Array.replicate 124 none
  statics := none }

def pool1 : Array CpInfo := pool [(2, .class_ 4), (1, u "java/lang/Object"), (0, u "<init>"), (0, u "()V"), (0, .fieldref 8 9), (0, .class_ 10), (0, .nameAndType 11 12), (0, u "com/example/graphwright/graphwright/cli/Verdict"), (0, u "VALID"), (0, u "Lcom/example/graphwright/graphwright/cli/Verdict;"), (0, .fieldref 8 14), (0, .nameAndType 15 12), (0, u "INVALID"), (0, .fieldref 8 17), (0, .nameAndType 18 12), (0, u "BUG"), (0, .fieldref 8 20), (0, .nameAndType 21 12), (0, u "TIMEOUT"), (0, .fieldref 8 23), (0, .nameAndType 24 12), (0, u "CRASH"), (0, .fieldref 8 26), (0, .nameAndType 27 12), (0, u "DIFFER"), (0, .fieldref 8 29), (0, .nameAndType 30 12), (0, u "UNSTABLE"), (0, .fieldref 8 32), (0, .nameAndType 33 12), (0, u "KNOWN"), (0, .methodref 35 36), (0, .class_ 37), (0, .nameAndType 38 39), (0, u "com/example/graphwright/graphwright/cli/VerdictIsFaultPinLaw"), (0, u "pick"), (0, u "(I)Lcom/example/graphwright/graphwright/cli/Verdict;"), (0, .methodref 8 41), (0, .nameAndType 42 43), (0, u "isFault"), (0, u "()Z"), (0, .methodref 8 45), (0, .nameAndType 46 43), (0, u "needsComparison"), (3, u "law"), (0, u "(I)Z")] 2

def k1m0 : Method := { name := "<init>", desc := "()V", sig := { parameters := [], returnType := none }, accessFlags := 2, code := none }
def k1c1 : Code := { maxStack := 2, maxLocals := 1, code := method_2_code, exceptionTable := #[], attributes := #[] }
def k1m1 : Method := { name := "pick", desc := "(I)Lcom/example/graphwright/graphwright/cli/Verdict;", sig := { parameters := [.int], returnType := some (.object "com/example/graphwright/graphwright/cli/Verdict") }, accessFlags := 10, code := some k1c1 }
def k1c2 : Code := { maxStack := 2, maxLocals := 5, code := code, exceptionTable := #[], attributes := #[] }
def k1m2 : Method := { name := "law", desc := "(I)Z", sig := { parameters := [.int], returnType := some .boolean }, accessFlags := 9, code := some k1c2 }
/-- com/example/graphwright/graphwright/cli/VerdictIsFaultPinLaw -/
def k1 : Class := { plain "com/example/graphwright/graphwright/cli/VerdictIsFaultPinLaw" (some 0) with
  accessFlags := 49
  interfaces := #[]
  cf := some (fileOf pool1 35 #[] #[{ accessFlags := 2, nameIndex := 5, descriptorIndex := 6, attributes := #[] }, { accessFlags := 10, nameIndex := 38, descriptorIndex := 39, attributes := #[] }, { accessFlags := 9, nameIndex := 50, descriptorIndex := 51, attributes := #[] }] 49 2 #[] #[])
  fields := #[]
  methods := #[k1m0, k1m1, k1m2]
  instanceTypes := #[]
  staticTypes := #[]
  resolved := Array.replicate 54 none
  statics := none }

def pool2 : Array CpInfo := pool [(1, .class_ 2), (0, u "java/lang/constant/Constable"), (0, .class_ 4), (0, u "java/lang/Object")] 6

/-- java/lang/constant/Constable -/
def k2 : Class := { plain "java/lang/constant/Constable" (some 0) with
  accessFlags := 1537
  interfaces := #[]
  cf := some (fileOf pool2 1 #[] #[] 1537 3 #[] #[])
  fields := #[]
  methods := #[]
  instanceTypes := #[]
  staticTypes := #[]
  resolved := Array.replicate 11 none
  statics := none }

def pool3 : Array CpInfo := pool [(1, .class_ 2), (0, u "java/lang/Comparable"), (0, .class_ 4), (0, u "java/lang/Object")] 7

/-- java/lang/Comparable -/
def k3 : Class := { plain "java/lang/Comparable" (some 0) with
  accessFlags := 1537
  interfaces := #[]
  cf := some (fileOf pool3 1 #[] #[] 1537 3 #[] #[])
  fields := #[]
  methods := #[]
  instanceTypes := #[]
  staticTypes := #[]
  resolved := Array.replicate 12 none
  statics := none }

def pool4 : Array CpInfo := pool [(1, .class_ 2), (0, u "java/io/Serializable"), (0, .class_ 4), (0, u "java/lang/Object")] 2

/-- java/io/Serializable -/
def k4 : Class := { plain "java/io/Serializable" (some 0) with
  accessFlags := 1537
  interfaces := #[]
  cf := some (fileOf pool4 1 #[] #[] 1537 3 #[] #[])
  fields := #[]
  methods := #[]
  instanceTypes := #[]
  staticTypes := #[]
  resolved := Array.replicate 7 none
  statics := none }

def pool5 : Array CpInfo := pool [(2, .class_ 4), (1, u "java/lang/Enum"), (0, u "name"), (0, u "Ljava/lang/String;"), (2, u "ordinal"), (0, u "I"), (1, .class_ 14), (1, u "java/lang/Object"), (4, u "hash"), (86, .class_ 108), (1, u "java/lang/Enum$EnumDesc"), (2, .class_ 112), (0, u "java/lang/constant/Constable"), (0, .class_ 114), (0, u "java/lang/Comparable"), (0, .class_ 116), (0, u "java/io/Serializable")] 87

/-- java/lang/Enum -/
def k5 : Class := { plain "java/lang/Enum" (some 0) with
  accessFlags := 1057
  interfaces := #[2, 3, 4]
  cf := some (fileOf pool5 2 #[.nestMembers #[106]] #[] 1057 12 #[111, 113, 115] #[{ accessFlags := 18, nameIndex := 5, descriptorIndex := 6, attributes := #[] }, { accessFlags := 18, nameIndex := 9, descriptorIndex := 10, attributes := #[] }, { accessFlags := 2, nameIndex := 19, descriptorIndex := 10, attributes := #[] }])
  fields := #[{ name := "name", type := (.object "java/lang/String"), accessFlags := 18, slot := 0, constantValue := 0 }, { name := "ordinal", type := .int, accessFlags := 18, slot := 1, constantValue := 0 }, { name := "hash", type := .int, accessFlags := 2, slot := 2, constantValue := 0 }]
  methods := #[]
  instanceTypes := #[(.object "java/lang/String"), .int, .int]
  staticTypes := #[]
  resolved := Array.replicate 204 none
  statics := none }

def pool6 : Array CpInfo := pool [(1, .class_ 2), (0, u "com/example/graphwright/graphwright/cli/Verdict"), (2, u "VALID"), (0, u "Lcom/example/graphwright/graphwright/cli/Verdict;"), (2, u "INVALID"), (0, .fieldref 1 11), (0, .nameAndType 12 6), (0, u "BUG"), (2, u "TIMEOUT"), (0, .fieldref 1 17), (0, .nameAndType 18 6), (0, u "CRASH"), (0, .fieldref 1 20), (0, .nameAndType 21 6), (0, u "DIFFER"), (0, .fieldref 1 23), (0, .nameAndType 24 6), (0, u "UNSTABLE"), (2, u "KNOWN"), (2, u "$VALUES"), (0, u "[Lcom/example/graphwright/graphwright/cli/Verdict;"), (6, .class_ 40), (1, u "java/lang/Enum"), (26, u "isFault"), (0, u "()Z"), (1, u "needsComparison")] 4

def k6c0 : Code := { maxStack := 2, maxLocals := 1, code := prog_53_method_4_code, exceptionTable := #[], attributes := #[] }
def k6m0 : Method := { name := "isFault", desc := "()Z", sig := { parameters := [], returnType := some .boolean }, accessFlags := 0, code := some k6c0 }
def k6c1 : Code := { maxStack := 2, maxLocals := 1, code := prog_53_method_5_code, exceptionTable := #[], attributes := #[] }
def k6m1 : Method := { name := "needsComparison", desc := "()Z", sig := { parameters := [], returnType := some .boolean }, accessFlags := 0, code := some k6c1 }
/-- com/example/graphwright/graphwright/cli/Verdict -/
def k6 : Class := { plain "com/example/graphwright/graphwright/cli/Verdict" (some 5) with
  accessFlags := 16433
  interfaces := #[]
  cf := some (fileOf pool6 1 #[] #[{ accessFlags := 0, nameIndex := 67, descriptorIndex := 68, attributes := #[] }, { accessFlags := 0, nameIndex := 70, descriptorIndex := 68, attributes := #[] }] 16433 38 #[] #[{ accessFlags := 16409, nameIndex := 5, descriptorIndex := 6, attributes := #[] }, { accessFlags := 16409, nameIndex := 9, descriptorIndex := 6, attributes := #[] }, { accessFlags := 16409, nameIndex := 12, descriptorIndex := 6, attributes := #[] }, { accessFlags := 16409, nameIndex := 15, descriptorIndex := 6, attributes := #[] }, { accessFlags := 16409, nameIndex := 18, descriptorIndex := 6, attributes := #[] }, { accessFlags := 16409, nameIndex := 21, descriptorIndex := 6, attributes := #[] }, { accessFlags := 16409, nameIndex := 24, descriptorIndex := 6, attributes := #[] }, { accessFlags := 16409, nameIndex := 27, descriptorIndex := 6, attributes := #[] }, { accessFlags := 4122, nameIndex := 30, descriptorIndex := 31, attributes := #[] }])
  fields := #[{ name := "VALID", type := (.object "com/example/graphwright/graphwright/cli/Verdict"), accessFlags := 16409, slot := 0, constantValue := 0 }, { name := "INVALID", type := (.object "com/example/graphwright/graphwright/cli/Verdict"), accessFlags := 16409, slot := 1, constantValue := 0 }, { name := "BUG", type := (.object "com/example/graphwright/graphwright/cli/Verdict"), accessFlags := 16409, slot := 2, constantValue := 0 }, { name := "TIMEOUT", type := (.object "com/example/graphwright/graphwright/cli/Verdict"), accessFlags := 16409, slot := 3, constantValue := 0 }, { name := "CRASH", type := (.object "com/example/graphwright/graphwright/cli/Verdict"), accessFlags := 16409, slot := 4, constantValue := 0 }, { name := "DIFFER", type := (.object "com/example/graphwright/graphwright/cli/Verdict"), accessFlags := 16409, slot := 5, constantValue := 0 }, { name := "UNSTABLE", type := (.object "com/example/graphwright/graphwright/cli/Verdict"), accessFlags := 16409, slot := 6, constantValue := 0 }, { name := "KNOWN", type := (.object "com/example/graphwright/graphwright/cli/Verdict"), accessFlags := 16409, slot := 7, constantValue := 0 }, { name := "$VALUES", type := (.array (.object "com/example/graphwright/graphwright/cli/Verdict")), accessFlags := 4122, slot := 8, constantValue := 0 }]
  methods := #[k6m0, k6m1]
  instanceTypes := #[(.object "java/lang/String"), .int, .int]
  staticTypes := #[(.object "com/example/graphwright/graphwright/cli/Verdict"), (.object "com/example/graphwright/graphwright/cli/Verdict"), (.object "com/example/graphwright/graphwright/cli/Verdict"), (.object "com/example/graphwright/graphwright/cli/Verdict"), (.object "com/example/graphwright/graphwright/cli/Verdict"), (.object "com/example/graphwright/graphwright/cli/Verdict"), (.object "com/example/graphwright/graphwright/cli/Verdict"), (.object "com/example/graphwright/graphwright/cli/Verdict"), (.array (.object "com/example/graphwright/graphwright/cli/Verdict"))]
  resolved := Array.replicate 75 none
  statics := some 0 }

def pool7 : Array CpInfo := pool [(1, u "java/lang/Cloneable"), (0, .class_ 1), (0, u "java/lang/Object"), (0, .class_ 3)] 3

/-- java/lang/Cloneable -/
def k7 : Class := { plain "java/lang/Cloneable" (some 0) with
  accessFlags := 1537
  interfaces := #[]
  cf := some (fileOf pool7 2 #[] #[] 1537 4 #[] #[])
  fields := #[]
  methods := #[]
  instanceTypes := #[]
  staticTypes := #[]
  resolved := Array.replicate 8 none
  statics := none }

/-- the primitive byte -/
def k8 : Class := { plain "byte" none with kind := .primitive 'B', accessFlags := 0x411 }
/-- [B -/
def k9 : Class := { plain "[B" (some 0) with kind := .array 8 .byte, interfaces := #[7, 4], accessFlags := 1041 }

/-- the primitive int -/
def k10 : Class := { plain "int" none with kind := .primitive 'I', accessFlags := 0x411 }
/-- [I -/
def k11 : Class := { plain "[I" (some 0) with kind := .array 10 .int, interfaces := #[7, 4], accessFlags := 1041 }

def heap : Heap := #[{ cls := 6, slots := #[.ref 1, .ref 2, .ref 3, .ref 4, .ref 5, .ref 6, .ref 7, .ref 8, .null], vm := .statics 6 },
  { cls := 6, slots := #[.null, .int 0, .int 0], vm := .none },
  { cls := 6, slots := #[.null, .int 1, .int 0], vm := .none },
  { cls := 6, slots := #[.null, .int 2, .int 0], vm := .none },
  { cls := 6, slots := #[.null, .int 3, .int 0], vm := .none },
  { cls := 6, slots := #[.null, .int 4, .int 0], vm := .none },
  { cls := 6, slots := #[.null, .int 5, .int 0], vm := .none },
  { cls := 6, slots := #[.null, .int 6, .int 0], vm := .none },
  { cls := 6, slots := #[.null, .int 7, .int 0], vm := .none }]
def classes : Array Class := #[k0, k1, k2, k3, k4, k5, k6, k7, k8, k9, k10, k11]
def interned : List (Array UInt16 × Addr) := []
def slotsUsed : Nat := 33
def theMethod : MethodId := ⟨1, 2⟩
def args0 : Array Value := #[.int 3]
def aboutOver (below : List Frame) : State where
  vm := { classes := classes, interned := interned.toArray }
  heap := heap
  slotsUsed := slotsUsed
  threads := #[{ frames := .invoking theMethod args0 :: below }]
def below0 : List Frame := [.native { method := ⟨0, 0⟩, args := #[] }]
def about1 : State := aboutOver below0
def p0 : Program := .bare "" "" ""
def e0 : Env := launch0.env 0 0 0
theorem w_frames : about1.frames = Frame.invoking theMethod args0 :: below0 := rfl
set_option maxRecDepth 65536 in
theorem w_args : argsFit about1.vm theMethod args0 = true := by decide +kernel
set_option maxRecDepth 65536 in
theorem w_heap : heapFits about1 = true := by decide +kernel
set_option maxRecDepth 65536 in
theorem w_runnable : about1.curStatus? = some .runnable := by decide +kernel
set_option maxRecDepth 65536 in
theorem w_alone : about1.alone = true := by decide +kernel
set_option maxRecDepth 65536 in
theorem w_named : about1.methodNamed? x = some theMethod := by decide +kernel
set_option maxRecDepth 65536 in
theorem w_hears : about1.hears theMethod below0 = true := by decide +kernel
set_option maxRecDepth 65536 in
theorem w_ripe : about1.ripe theMethod args0 below0 = true := by decide +kernel
theorem w_running : about1.status = .running := rfl
set_option maxRecDepth 65536 in
theorem w_room : about1.hasRoom e0.platform room_1 = true :=
  launch0.hasRoom_least _ room_1 (by decide +kernel) (by decide +kernel) (by decide +kernel) (by decide +kernel) (by decide +kernel) (by decide +kernel)
theorem allAtoms_all (ts : List Jvm.Cond) (a : Array Jvm.Value) (st : Jvm.State) : (allAtoms ts).before a st = ts.all (fun c => c.before a st) := by
  induction ts with
  | nil => rfl
  | cons c t ih =>
    show (Jvm.Cond.and c (allAtoms t)).before a st = _
    rw [Jvm.Cond.before_and, ih, List.all_cons]
def words1 : List Jvm.Cond := Jvm.Cond.code x code maxLocals ret :: tables_1
/-- a 'code' word, met by the world's own term for the bytes: nothing is compared byte by byte -/
theorem code_word {y : MethodName} {bytes : ByteArray} {mx : Nat} {rt : Option FieldType} {a : Array Value} {s : State} {m : MethodId} {meth : Method} {c : Code} (h1 : s.methodNamed? y = some m) (h2 : s.vm.method? m = some meth) (h3 : meth.code = some c) (h4 : c.code = bytes)
    (h5 : (c.maxLocals == mx && c.exceptionTable.isEmpty && decide (c.maxStack ≤ mostOperands) && decide (meth.sig.returnType = rt) && !meth.locks && decide (parseMethodDescriptor y.desc = some meth.sig)) = true) : (Jvm.Cond.code y bytes mx rt).before a s = true := by
  simp only [Bool.and_eq_true, beq_iff_eq, Bool.not_eq_true', decide_eq_true_eq] at h5
  obtain ⟨⟨⟨⟨⟨g1, g2⟩, g3⟩, g4⟩, g5⟩, g6⟩ := h5
  simp [Cond.before, Cond.holds, Cond.value, h1, h2, h3, h4, g1, g2, g3, g4, g5, g6]
def isCode : Jvm.Cond → Bool
  | .code _ _ _ _ => true
  | _ => false
theorem all_split {L : List Jvm.Cond} {P : Jvm.Cond → Bool} (h1 : L.all (fun c => isCode c || P c) = true) (h2 : ∀ c ∈ L.filter isCode, P c = true) : L.all P = true := by
  refine List.all_eq_true.mpr fun c hc => ?_
  have h := List.all_eq_true.mp h1 c hc
  rcases Bool.eq_false_or_eq_true (isCode c) with hi | hi
  · exact h2 c (List.mem_filter.mpr ⟨hc, hi⟩)
  · simpa [hi] using h
set_option maxRecDepth 65536 in
theorem w_c0 : (Jvm.Cond.code x code maxLocals ret).before args0 about1 = true := code_word (m := ⟨1, 2⟩) (meth := k1m2) (c := k1c2) (by decide +kernel) rfl rfl rfl (by decide +kernel)
set_option maxRecDepth 65536 in
theorem w_c1 : (Jvm.Cond.code ({ cls := "com/example/graphwright/graphwright/cli/VerdictIsFaultPinLaw", name := "pick", desc := "(I)Lcom/example/graphwright/graphwright/cli/Verdict;" } : Jvm.MethodName) method_2_code (1 : Nat) (Option.some (Jvm.ClassFile.FieldType.object "com/example/graphwright/graphwright/cli/Verdict"))).before args0 about1 = true := code_word (m := ⟨1, 1⟩) (meth := k1m1) (c := k1c1) (by decide +kernel) rfl rfl rfl (by decide +kernel)
set_option maxRecDepth 65536 in
theorem w_c2 : (Jvm.Cond.code ({ cls := "com/example/graphwright/graphwright/cli/Verdict", name := "isFault", desc := "()Z" } : Jvm.MethodName) prog_53_method_4_code (1 : Nat) (Option.some Jvm.ClassFile.FieldType.boolean)).before args0 about1 = true := code_word (m := ⟨6, 0⟩) (meth := k6m0) (c := k6c0) (by decide +kernel) rfl rfl rfl (by decide +kernel)
set_option maxRecDepth 65536 in
theorem w_c3 : (Jvm.Cond.code ({ cls := "com/example/graphwright/graphwright/cli/Verdict", name := "needsComparison", desc := "()Z" } : Jvm.MethodName) prog_53_method_5_code (1 : Nat) (Option.some Jvm.ClassFile.FieldType.boolean)).before args0 about1 = true := code_word (m := ⟨6, 1⟩) (meth := k6m1) (c := k6c1) (by decide +kernel) rfl rfl rfl (by decide +kernel)
def codes1 : List Jvm.Cond := [Jvm.Cond.code x code maxLocals ret, Jvm.Cond.code ({ cls := "com/example/graphwright/graphwright/cli/VerdictIsFaultPinLaw", name := "pick", desc := "(I)Lcom/example/graphwright/graphwright/cli/Verdict;" } : Jvm.MethodName) method_2_code (1 : Nat) (Option.some (Jvm.ClassFile.FieldType.object "com/example/graphwright/graphwright/cli/Verdict")), Jvm.Cond.code ({ cls := "com/example/graphwright/graphwright/cli/Verdict", name := "isFault", desc := "()Z" } : Jvm.MethodName) prog_53_method_4_code (1 : Nat) (Option.some Jvm.ClassFile.FieldType.boolean), Jvm.Cond.code ({ cls := "com/example/graphwright/graphwright/cli/Verdict", name := "needsComparison", desc := "()Z" } : Jvm.MethodName) prog_53_method_5_code (1 : Nat) (Option.some Jvm.ClassFile.FieldType.boolean)]
set_option maxRecDepth 65536 in
theorem codes_eq : words1.filter isCode = codes1 := rfl
theorem w_codes : ∀ c ∈ words1.filter isCode, c.before args0 about1 = true := by
  rw [codes_eq]
  intro c hc
  simp only [codes1, List.mem_cons, List.not_mem_nil, or_false] at hc
  rcases hc with rfl | rfl | rfl | rfl
  · exact w_c0
  · exact w_c1
  · exact w_c2
  · exact w_c3
set_option maxRecDepth 65536 in
theorem w_t1 : (words1.take 24).all (fun c => isCode c || c.before args0 about1) = true := by decide +kernel
set_option maxRecDepth 65536 in
theorem w_t2 : (words1.drop 24).all (fun c => isCode c || c.before args0 about1) = true := by decide +kernel
theorem w_tables : (allAtoms (Jvm.Cond.code x code maxLocals ret :: tables_1)).before args0 about1 = true := by
  rw [allAtoms_all]
  show words1.all (fun c => c.before args0 about1) = true
  refine all_split ?_ w_codes
  rw [← List.take_append_drop 24 words1, List.all_append, w_t1, w_t2]
  rfl
set_option maxRecDepth 65536 in
theorem w_case : (Jvm.Cond.and given_1 narrow_1).before args0 about1 = true := by decide +kernel
theorem w_applies : (headSpec (Jvm.Cond.code x code maxLocals ret :: tables_1) room_1).applies x e0.platform about1 = true :=
  (Spec.applies_iff w_frames).mpr ⟨w_running, w_runnable, w_alone, w_named, w_hears, w_ripe, w_room, w_tables⟩
theorem atStart : AtStart classFile x code maxLocals ret World_1 tables_1 room_1 Calls_1 rest_1 Pre_1 launch0 p0 e0 about1 theMethod args0 below0 :=
  ⟨lists_1, trivial, launch0.admits_env _ _ _, launch0.least_env, fairChoices_fair.cas, fairChoices_fair.clock, w_frames, w_args, w_heap, w_applies, trivial, trivial, w_case⟩
end start1
theorem witness_1 : WitnessClaimed_1 := ⟨start1.p0, start1.e0, start1.about1, start1.theMethod, start1.args0, start1.below0, start1.atStart⟩
end Jvm.Pilot.@@N@@
