import JvmDerived
import JvmDerived.Pilot.@@N@@Statement
import JvmDerived.Pilot.@@N@@Code
set_option linter.unusedVariables false
set_option linter.unusedSimpArgs false
namespace Jvm.Pilot.@@N@@
open Jvm Jvm.ClassFile Sem Op Lib Jvm.Free Jvm.Stand Jvm.LawKit Jvm.RoadKit Bundle Jvm.Pilot.@@N@@.Jvm.D
section Own
variable {p : Program} {l : Launch} {e : Env} {R : Room} {s : State} {m : MethodId} {args : Array Value} {below : List Frame} {meth : Method} {c : Code} {T : State} {locs : List Loc} {cells slots : Nat} {Z : State} {a0 : Array Value} {h h' : Heap}
/-- from A the run comes to its end, and G holds there -/
def OGo (p : Program) (e : Env) (below : List Frame) (G : State → Outcome → Prop) (A : State) : Prop := ∃ s₂ o, Steps p.tables e below A s₂ ∧ s₂.status = .running ∧ Ended s₂ below o ∧ G s₂ o
theorem OGo.st {G : State → Outcome → Prop} {A B : State} (k : ∀ t, Steps p.tables e below B t → Steps p.tables e below A t) (g : OGo p e below G B) : OGo p e below G A := by
  obtain ⟨s₂, o, q, r⟩ := g
  exact ⟨s₂, o, k _ q, r⟩
theorem OGo.join {α : Type} {G : State → Outcome → Prop} {A : State} (F : α → State) (P : α → Prop) (h1 : ∀ a, P a → OGo p e below G (F a)) (h2 : (∀ a, P a → OGo p e below G (F a)) → OGo p e below G A) : OGo p e below G A := h2 h1
/-- what a body leaves -/
def ODone (s : State) (rm : Room) (Q : Option Value → Heap → List Loc → Prop) (t : State) (o : Outcome) : Prop := ∃ v L, o = .returned v ∧ Q v t.heap L ∧ FrameEnd s o t L rm.cells rm.slots
/-- a body's contract -/
def OMet (l : Launch) (Z : State) (y : MethodName) (bytes : ByteArray) (maxL : Nat) (ret : Option FieldType) (ws : List Jvm.Cond) (rm : Room) (as' : Array Value) (h0 : Heap) (Q : Option Value → Heap → List Loc → Prop) : Prop :=
  MetFree l y (head1 (Jvm.Cond.code y bytes maxL ret :: ws) rm) (fun a U => a = as' ∧ Z.Warmed39 U.vm ∧ U.heap = h0) (fun _ _ _ _ _ => True) (fun _ U o U' => ∃ v L, o = .returned v ∧ Q v U'.heap L ∧ FrameEnd U o U' L rm.cells rm.slots)
section M
variable {y : MethodName} {bytes : ByteArray} {maxL : Nat} {ret : Option FieldType} {ws : List Jvm.Cond} {rm : Room} {as' : Array Value} {Q : Option Value → Heap → List Loc → Prop}
theorem OMet.of (hp : plainFor y = true)
    (body : ∀ (p : Program) (e : Env) (s : State) (m : MethodId) (below : List Frame) (meth : Method) (c : Code) (s₁ : State), p.tables.exec = Jvm.exec → c.code = bytes → c.maxLocals = maxL → s.methodNamed? y = some m → s.vm.findClass y.cls = some m.cls → meth.name = y.name → meth.sig.returnType = ret → meth.locks = false → Z.Warmed39 s.vm →
      Stand p l e rm s m as' below meth c s₁ [] 0 0 → s₁.heap = h → OGo p e below (ODone s rm Q) (s₁.setTop (entryFrame m as' maxL))) : OMet l Z y bytes maxL ret ws rm as' h Q := by
  refine MetFree.of_bodySF hp hisR ?_
  intro p e s m args below meth c s₁ Bd hml hP hK
  obtain ⟨hA, hZ, hh⟩ := hP
  subst hA
  exact body p e s m below meth c s₁ Bd.exec Bd.bytes hml Bd.named (findClass_of_methodNamed Bd.named) (name_of_methodNamed Bd.named Bd.method).1 Bd.returns Bd.notSynchronized hZ (Stand.of_body Bd) (by rw [← hh, Bd.state]; rfl)
theorem OMet.back {len W : Nat} (hM : OMet l Z y bytes maxL ret [] rm as' h Q) (hZ : Z.Warmed39 s.vm) (wc : (Jvm.Cond.code y bytes maxL ret).before a0 Z = true) (wz : (Jvm.Cond.initialized y.cls).before a0 Z = true) (hf : rm.frames + 1 ≤ R.frames) (hl : W + (maxL + 11) + rm.locals ≤ R.locals) :
    Back l R p e below s args y len W (fun A a => a = as' ∧ A.U.heap = h ∧ A.cells + rm.cells ≤ R.cells ∧ A.slots + rm.slots ≤ R.slots) (fun A _ v B => ∃ L, Q v B.U.heap L ∧ B.locs = A.locs ++ L ∧ B.cells = A.cells + rm.cells ∧ B.slots = A.slots + rm.slots) :=
  backOf hM hZ wc wz hf hl
/-- a static call by its contract -/
theorem OMet.static (hM : OMet l Z y bytes maxL ret [] rm as' h Q) (X : Stand p l e R s m args below meth c T locs cells slots) (hx : p.tables.exec = Jvm.exec) (hZ : Z.Warmed39 s.vm) {own : String} {index W : Nat} (hown : s.vm.findClass own = some m.cls)
    (w1 : (Jvm.Cond.methodLink own index y).before a0 Z = true) (w2 : (Jvm.Cond.static y).before a0 Z = true) (w3 : (Jvm.Cond.initialized y.cls).before a0 Z = true) (w4 : (Jvm.Cond.code y bytes maxL ret).before a0 Z = true)
    (hy : y.cls ≠ "java/lang/invoke/MethodHandle" ∧ y.cls ≠ "java/lang/invoke/VarHandle") (hf : rm.frames + 1 ≤ R.frames) (hl : W + (maxL + 11) + rm.locals ≤ R.locals) (eT : T.heap = h) (hc : cells + rm.cells ≤ R.cells) (hs : slots + rm.slots ≤ R.slots)
    {g : JFrame} (hg : g.method = m) (hsize : g.locals.size = c.maxLocals) {argsL rest : List Value} (ha : argsL.toArray = as') (hlen : ∀ sig, parseMethodDescriptor y.desc = some sig → argsL.length = sig.parameters.length) (hstack : g.stack = argsL.reverse ++ rest) (hW : 2 * g.monitorRoom + (rest.map fun v => v.category).sum ≤ W)
    (hd : decode c.code g.pc = .ok (.invokestatic index, 3)) :
    ∃ (v : Option Value) (T' : State) (L : List Loc), Stand p l e R s m args below meth c T' (locs ++ L) (cells + rm.cells) (slots + rm.slots) ∧ Q v T'.heap L ∧ ∀ target, Steps p.tables e below (T'.setTop { g with pc := g.pc + 3, stack := v.toList ++ rest }) target → Steps p.tables e below (T.setTop g) target := by
  obtain ⟨v, vm, ⟨T', L', k', n'⟩, -, X', ⟨L, hQ, e1, e2, e3⟩, st⟩ := Jvm.LawKit.callS X hx hown (mvT hZ w1) (mvT hZ w2) (mvT hZ w3) (mvT hZ w4) hy (OMet.back (W := W) hM hZ w4 w3 hf hl) (g := g) hg hsize hlen hstack hW hd (fun _ _ => ⟨ha, eT, hc, hs⟩)
  dsimp only [Pt.U, Pt.locs, Pt.cells, Pt.slots] at X' e1 e2 e3 st hQ
  subst e1 e2 e3
  exact ⟨v, T', L, X', hQ, st⟩
/-- a constructor by its contract -/
theorem OMet.init (hM : OMet l Z y bytes maxL none [] rm as' h Q) (X : Stand p l e R s m args below meth c T locs cells slots) (hx : p.tables.exec = Jvm.exec) (hZ : Z.Warmed39 s.vm) {own : String} {index W : Nat} (hy1 : y.name = "<init>") (hown : s.vm.findClass own = some m.cls)
    (w1 : (Jvm.Cond.methodLink own index y).before a0 Z = true) (w2 : (Jvm.Cond.instanceMethod y).before a0 Z = true) (w3 : (Jvm.Cond.initialized y.cls).before a0 Z = true) (w4 : (Jvm.Cond.code y bytes maxL none).before a0 Z = true)
    (hy : y.cls ≠ "java/lang/invoke/MethodHandle" ∧ y.cls ≠ "java/lang/invoke/VarHandle") (hf : rm.frames + 1 ≤ R.frames) (hl : W + (maxL + 11) + rm.locals ≤ R.locals) (eT : T.heap = h) (hc : cells + rm.cells ≤ R.cells) (hs : slots + rm.slots ≤ R.slots)
    {g : JFrame} (hg : g.method = m) (hsize : g.locals.size = c.maxLocals) {a : Addr} {argsL rest : List Value} (ha : (Value.ref a :: argsL).toArray = as') (hlen : ∀ sig, parseMethodDescriptor y.desc = some sig → argsL.length = sig.parameters.length) (hstack : g.stack = argsL.reverse ++ .ref a :: rest) (hW : 2 * g.monitorRoom + (rest.map fun v => v.category).sum ≤ W)
    (hd : decode c.code g.pc = .ok (.invokespecial index, 3)) :
    ∃ (v : Option Value) (T' : State) (L : List Loc), Stand p l e R s m args below meth c T' (locs ++ L) (cells + rm.cells) (slots + rm.slots) ∧ Q v T'.heap L ∧ ∀ target, Steps p.tables e below (T'.setTop { g with pc := g.pc + 3, stack := v.toList ++ rest }) target → Steps p.tables e below (T.setTop g) target := by
  obtain ⟨v, vm, ⟨T', L', k', n'⟩, -, X', ⟨L, hQ, e1, e2, e3⟩, st⟩ := X.specialBack hx hy1 hown (mvT hZ w1) (mvT hZ w2) (mvT hZ w4) hy (OMet.back (W := W) hM hZ w4 w3 hf hl) (g := g) hg hsize (Steps.refl _) (a := a) hlen hstack hW hd (fun _ _ => ⟨ha, eT, hc, hs⟩)
  dsimp only [Pt.U, Pt.locs, Pt.cells, Pt.slots] at X' e1 e2 e3 st hQ
  subst e1 e2 e3
  exact ⟨v, T', L, X', hQ, fun _ k => st.trans k⟩
/-- a virtual call by the contract of the body that the receiver's class selects -/
theorem OMet.virt (hM : OMet l Z y bytes maxL ret [] rm as' h Q) (X : Stand p l e R s m args below meth c T locs cells slots) (hx : p.tables.exec = Jvm.exec) (hZ : Z.Warmed39 s.vm) {own C : String} {index W : Nat} {y0 : MethodName} (hown : s.vm.findClass own = some m.cls)
    (w1 : (Jvm.Cond.methodLink own index y0).before a0 Z = true) (w2 : (Jvm.Cond.declares y0).before a0 Z = true) (nf : NotFace s y0) (w5 : (Jvm.Cond.selects C y0 y).before a0 Z = true) (w6 : (Jvm.Cond.instanceMethod y).before a0 Z = true)
    (w3 : (Jvm.Cond.initialized y.cls).before a0 Z = true) (w4 : (Jvm.Cond.code y bytes maxL ret).before a0 Z = true)
    (hy : y0.cls ≠ "java/lang/invoke/MethodHandle" ∧ y0.cls ≠ "java/lang/invoke/VarHandle") (hf : rm.frames + 1 ≤ R.frames) (hl : W + (maxL + 11) + rm.locals ≤ R.locals) (eT : T.heap = h) (hc : cells + rm.cells ≤ R.cells) (hs : slots + rm.slots ≤ R.slots)
    {g : JFrame} (hg : g.method = m) (hsize : g.locals.size = c.maxLocals) {a : Addr} (E : Exa Z h a C) {argsL rest : List Value} (ha : (Value.ref a :: argsL).toArray = as') (hlen : ∀ sig, parseMethodDescriptor y0.desc = some sig → argsL.length = sig.parameters.length) (hstack : g.stack = argsL.reverse ++ .ref a :: rest) (hW : 2 * g.monitorRoom + (rest.map fun v => v.category).sum ≤ W)
    (hd : decode c.code g.pc = .ok (.invokevirtual index, 3)) :
    ∃ (v : Option Value) (T' : State) (L : List Loc), Stand p l e R s m args below meth c T' (locs ++ L) (cells + rm.cells) (slots + rm.slots) ∧ Q v T'.heap L ∧ ∀ target, Steps p.tables e below (T'.setTop { g with pc := g.pc + 3, stack := v.toList ++ rest }) target → Steps p.tables e below (T.setTop g) target := by
  obtain ⟨cB, kB, qa, qb, qc⟩ := isOf hZ eT E
  obtain ⟨v, vm, ⟨T', L', k', n'⟩, -, X', ⟨L, hQ, e1, e2, e3⟩, st⟩ := X.virtualBack hx hown (mvT hZ w1) (mvT hZ w2) nf (mvT hZ w5) (mvT hZ w6) hy (OMet.back (W := W) hM hZ w4 w3 hf hl) qa qc (g := g) hg hsize (Steps.refl _) hlen hstack hW hd (fun _ _ => ⟨ha, eT, hc, hs⟩)
  dsimp only [Pt.U, Pt.locs, Pt.cells, Pt.slots] at X' e1 e2 e3 st hQ
  subst e1 e2 e3
  exact ⟨v, T', L, X', hQ, fun _ k => st.trans k⟩
/-- a call through an interface by the contract of the body that the receiver's class selects -/
theorem OMet.iface (hM : OMet l Z y bytes maxL ret [] rm as' h Q) (X : Stand p l e R s m args below meth c T locs cells slots) (hx : p.tables.exec = Jvm.exec) (hZ : Z.Warmed39 s.vm) {own C : String} {index count W : Nat} {y0 : MethodName} (hown : s.vm.findClass own = some m.cls)
    (w1 : (Jvm.Cond.methodLink own index y0).before a0 Z = true) (w2 : (Jvm.Cond.declares y0).before a0 Z = true) (w7 : (Jvm.Cond.interfaceMethod y0.cls y0.cls y0.name y0.desc).before a0 Z = true) (w5 : (Jvm.Cond.selects C y0 y).before a0 Z = true) (w6 : (Jvm.Cond.instanceMethod y).before a0 Z = true)
    (w8 : (Jvm.Cond.publicMethod y).before a0 Z = true) (w9 : (Jvm.Cond.unhidden C y0.name y0.desc).before a0 Z = true) (w0 : (Jvm.Cond.castable C y0.cls).before a0 Z = true) (w3 : (Jvm.Cond.initialized y.cls).before a0 Z = true) (w4 : (Jvm.Cond.code y bytes maxL ret).before a0 Z = true)
    (hy : y0.cls ≠ "java/lang/invoke/MethodHandle" ∧ y0.cls ≠ "java/lang/invoke/VarHandle") (hf : rm.frames + 1 ≤ R.frames) (hl : W + (maxL + 11) + rm.locals ≤ R.locals) (eT : T.heap = h) (hc : cells + rm.cells ≤ R.cells) (hs : slots + rm.slots ≤ R.slots)
    {g : JFrame} (hg : g.method = m) (hsize : g.locals.size = c.maxLocals) {a : Addr} (E : Exa Z h a C) {argsL rest : List Value} (ha : (Value.ref a :: argsL).toArray = as') (hlen : ∀ sig, parseMethodDescriptor y0.desc = some sig → argsL.length = sig.parameters.length) (hstack : g.stack = argsL.reverse ++ .ref a :: rest) (hW : 2 * g.monitorRoom + (rest.map fun v => v.category).sum ≤ W)
    (hd : decode c.code g.pc = .ok (.invokeinterface index count, 5)) :
    ∃ (v : Option Value) (T' : State) (L : List Loc), Stand p l e R s m args below meth c T' (locs ++ L) (cells + rm.cells) (slots + rm.slots) ∧ Q v T'.heap L ∧ ∀ target, Steps p.tables e below (T'.setTop { g with pc := g.pc + 5, stack := v.toList ++ rest }) target → Steps p.tables e below (T.setTop g) target := by
  obtain ⟨cB, kB, qa, qb, qc⟩ := isOf hZ eT E
  obtain ⟨v, vm, ⟨T', L', k', n'⟩, -, X', ⟨L, hQ, e1, e2, e3⟩, st⟩ := X.interfaceBack hx hown (mvT hZ w1) (mvT hZ w2) (mvT hZ w7 (by simp [Cond.onTables, Cond.keepsFace, Cond.keeps, Cond.steady, Cond.faceAtom, hy.1, hy.2])) (mvT hZ w5) (mvT hZ w6) (mvT hZ w8) (mvT hZ w9) (mvT hZ w0) hy (OMet.back (W := W) hM hZ w4 w3 hf hl) qa qb qc (g := g) hg hsize (Steps.refl _) hlen hstack hW hd (fun _ _ => ⟨ha, eT, hc, hs⟩)
  dsimp only [Pt.U, Pt.locs, Pt.cells, Pt.slots] at X' e1 e2 e3 st hQ
  subst e1 e2 e3
  exact ⟨v, T', L, X', hQ, fun _ k => st.trans k⟩
end M
theorem nf_sel {C : String} {y : MethodName} (hZ : Z.Warmed39 s.vm) (w : (Jvm.Cond.selects C y y).before a0 Z = true) : NotFace s y := notFace_of_selects (args := #[]) (mvT hZ w)
/-- the returns -/
theorem own_ret (X : Stand p l e R s m args below meth c T locs cells slots) {rm : Room} {Q : Option Value → Heap → List Loc → Prop} {A : State} {v : Option Value} (hv : meth.sig.returnType = none → v = none) (hlk : meth.locks = false)
    (k : ∀ fs, (∀ (f : JFrame) (acts : List Action), f.method = m → f.locked = none → f.entered = [] → (doReturn e (T.setTop f) acts v).1 = T.setFrames fs) → Steps p.tables e below A (T.setFrames fs)) (hQ : Q v T.heap locs) (hc : cells ≤ rm.cells) (hs : slots ≤ rm.slots) : OGo p e below (ODone s rm Q) A := by
  obtain ⟨fs, hr, hrun, hended, hW, hsame⟩ := X.leave (v := v) hv hlk
  exact ⟨_, _, k fs hr, hrun, hended, v, locs, rfl, hQ, ⟨_, rfl⟩, hW, hsame.mono hc hs⟩
theorem own_retZ (X : Stand p l e R s m args below meth c T locs cells slots) (hx : p.tables.exec = Jvm.exec) {rm : Room} {Q : Option Value → Heap → List Loc → Prop} {pc : Nat} {Ls : Array Slot} {z : Int32} {rest : List Value} (hret : meth.sig.returnType = some .boolean) (hlk : meth.locks = false)
    (hd : decode c.code pc = .ok (.ireturn, 1)) (hQ : Q (some (.int (nar .boolean z))) T.heap locs) (hc : cells ≤ rm.cells) (hs : slots ≤ rm.slots) : OGo p e below (ODone s rm Q) (T.setTop (mkF m pc Ls (.int z :: rest))) :=
  own_ret X (fun h => by rw [hret] at h; cases h) hlk (fun fs hr => retN X hx hret (Or.inl rfl) hd hr) hQ hc hs
theorem own_retI (X : Stand p l e R s m args below meth c T locs cells slots) (hx : p.tables.exec = Jvm.exec) {rm : Room} {Q : Option Value → Heap → List Loc → Prop} {pc : Nat} {Ls : Array Slot} {z : Int32} {rest : List Value} (hret : meth.sig.returnType = some .int) (hlk : meth.locks = false)
    (hd : decode c.code pc = .ok (.ireturn, 1)) (hQ : Q (some (.int z)) T.heap locs) (hc : cells ≤ rm.cells) (hs : slots ≤ rm.slots) : OGo p e below (ODone s rm Q) (T.setTop (mkF m pc Ls (.int z :: rest))) :=
  own_ret X (fun h => by rw [hret] at h; cases h) hlk (fun fs hr => retOut X hx hret rfl (Or.inl ⟨rfl, Or.inl rfl, z, rfl⟩) hd hr) hQ hc hs
theorem own_retJ (X : Stand p l e R s m args below meth c T locs cells slots) (hx : p.tables.exec = Jvm.exec) {rm : Room} {Q : Option Value → Heap → List Loc → Prop} {pc : Nat} {Ls : Array Slot} {z : Int64} {rest : List Value} (hret : meth.sig.returnType = some .long) (hlk : meth.locks = false)
    (hd : decode c.code pc = .ok (.lreturn, 1)) (hQ : Q (some (.long z)) T.heap locs) (hc : cells ≤ rm.cells) (hs : slots ≤ rm.slots) : OGo p e below (ODone s rm Q) (T.setTop (mkF m pc Ls (.long z :: rest))) :=
  own_ret X (fun h => by rw [hret] at h; cases h) hlk (fun fs hr => retOut X hx hret rfl (Or.inr (Or.inl ⟨rfl, rfl, z, rfl⟩)) hd hr) hQ hc hs
theorem own_retA (X : Stand p l e R s m args below meth c T locs cells slots) (hx : p.tables.exec = Jvm.exec) {rm : Room} {Q : Option Value → Heap → List Loc → Prop} {pc : Nat} {Ls : Array Slot} {w : Value} {t : FieldType} {rest : List Value} (hret : meth.sig.returnType = some t) (hlk : meth.locks = false)
    (hn : narrow t w = w) (ht : t.isReference = true) (hw : w.isRef = true) (hd : decode c.code pc = .ok (.areturn, 1)) (hQ : Q (some w) T.heap locs) (hc : cells ≤ rm.cells) (hs : slots ≤ rm.slots) : OGo p e below (ODone s rm Q) (T.setTop (mkF m pc Ls (w :: rest))) :=
  own_ret X (fun h => by rw [hret] at h; cases h) hlk (fun fs hr => retOut X hx hret hn (Or.inr (Or.inr (Or.inr (Or.inr ⟨rfl, ht, hw⟩)))) hd hr) hQ hc hs
theorem own_ret0 (X : Stand p l e R s m args below meth c T locs cells slots) (hx : p.tables.exec = Jvm.exec) {rm : Room} {Q : Option Value → Heap → List Loc → Prop} {pc : Nat} {Ls : Array Slot} (hret : meth.sig.returnType = none) (hlk : meth.locks = false)
    (hd : decode c.code pc = .ok (.return_, 1)) (hQ : Q none T.heap locs) (hc : cells ≤ rm.cells) (hs : slots ≤ rm.slots) : OGo p e below (ODone s rm Q) (T.setTop (mkF m pc Ls [])) :=
  own_ret X (fun _ => rfl) hlk (fun fs hr => X.returnOut hx hret hd hr) hQ hc hs
/-- a body that returns r and leaves the heap as it was -/
def OPure (r : Option Value) (h0 : Heap) (n0 : Nat) (v : Option Value) (h : Heap) (L : List Loc) : Prop := v = r ∧ Fr n0 L ∧ h = h0
/-- the start's words -/
theorem own_int {k : Int32} {t : Term} (hq : (Jvm.Cond.eq t (.int k)).value args s none s [] = some true) : t.eval args s none [] s = some (.int k) := by
  obtain ⟨x, y, e1, e2, k1, k2⟩ := cmp_v (Or.inl hq)
  have e3 : y = .int k := (Option.some.inj e2).symm
  subst e3
  obtain ⟨z, rfl⟩ := k2
  have q : (Jvm.Cond.eq t (.int k)).value args s none s [] = some (decide (z = k)) := by simp [Jvm.Cond.value, e1, Term.eval]
  rw [e1, gotT q hq]
theorem own_long {k : Int64} {t : Term} (hq : (Jvm.Cond.eq t (.long k)).value args s none s [] = some true) : t.eval args s none [] s = some (.long k) := by
  obtain ⟨x, y, e1, e2, k1, k2⟩ := cmp_v (Or.inl hq)
  have e3 : y = .long k := (Option.some.inj e2).symm
  subst e3
  obtain ⟨z, rfl⟩ := k2
  have q : (Jvm.Cond.eq t (.long k)).value args s none s [] = some (decide (z = k)) := eq_L e1 e2
  rw [e1, gotT q hq]
theorem own_ord {k : Int32} {t : Term} {C n d : String} {x : Addr} (ht : t.eval args s none [] s = some (.ref x)) (hq : (Jvm.Cond.eq (.field t C n d) (.int k)).value args s none s [] = some true) : Fld s s.heap x C n d (.int k) :=
  Fld.start ((fld_at ht).symm.trans (own_int hq))
theorem own_ordL {k : Int64} {t : Term} {C n d : String} {x : Addr} (ht : t.eval args s none [] s = some (.ref x)) (hq : (Jvm.Cond.eq (.field t C n d) (.long k)).value args s none s [] = some true) : Fld s s.heap x C n d (.long k) :=
  Fld.start ((fld_at ht).symm.trans (own_long hq))
theorem own_sta {t : String × String × String} {C : String} (hq : (Jvm.Cond.exactly (.static t.1 t.2.1 t.2.2) C).value args s none s [] = some true) (w1 : (Jvm.Cond.initialized t.1).before args s = true) (w2 : (Jvm.Cond.laysStatic t.1 t.2.1 t.2.2).before args s = true) :
    ∃ a, (Term.static t.1 t.2.1 t.2.2).eval args s none [] s = some (.ref a) ∧ Sta s s.heap t.1 t.2.1 t.2.2 (.ref a) ∧ Exa s s.heap a C := by
  obtain ⟨a, ea⟩ := exa_v hq
  exact ⟨a, ea, Sta.start ea (Or.inr ⟨w1, w2⟩), Exa.start ea hq⟩
theorem own_len {t : Term} {a : Addr} {c : Cell} {z : Int32} (et : t.eval args s none [] s = some (.ref a)) (ha : s.arrayAt? a = some c) (hq : (Term.length t).eval args s none [] s = some (.int z)) : c.slots.size < 2 ^ 31 ∧ c.slots.size.toInt32 = z := by
  by_cases hl : c.slots.size < 2 ^ 31
  · rw [len_f et ha hl] at hq
    exact ⟨hl, Value.int.inj (Option.some.inj hq)⟩
  · simp [Term.eval, et, ha, hl] at hq
theorem own_b01 {z : Int32} (hz : z = 0 ∨ z = 1) : narrow .boolean (.int z) = .int z ∧ fits .boolean (.int z) = true ∧ nar .boolean z = z := by
  rcases hz with rfl | rfl <;> decide
theorem own_ns_root {O K : String} {n : Nat} (w : (Jvm.Cond.noSuperclass O).before a0 Z = true) (wi : (Jvm.Cond.instantiable K n).before a0 Z = true) (hn : O ≠ K) : NS Z O K := by
  obtain ⟨c, k, h1, h2, h3, -⟩ := Cond.noSuperclass_spec w
  obtain ⟨t, kt, g1, -⟩ := Cond.instantiable_spec wi
  refine ⟨c, t, h1, g1, fun f => ?_⟩
  cases f with
  | zero => rfl
  | succ f => simp [Vm.isSubclassAux, ids_ne h1 g1 hn, h2, h3]
theorem own_ns_no {C S K : String} {n : Nat} (w : (Jvm.Cond.superclass C S).before a0 Z = true) (wi : (Jvm.Cond.instantiable K n).before a0 Z = true) (N : NS Z C K) (hn : C ≠ K) : ∃ c t, Z.vm.findClass C = some c ∧ Z.vm.findClass K = some t ∧ Z.vm.assignable c t = false := by
  obtain ⟨c, t, h0, g0, n3⟩ := N
  obtain ⟨p, k, kp, -, h2, -, -, h5, -, h7⟩ := Cond.superclass_spec h0 w
  obtain ⟨t', kt, g1, g2, g3, g4, -⟩ := Cond.instantiable_spec wi
  cases g0.symm.trans g1
  have g5 : kt.isInterface = false := (Bool.or_eq_false_iff.mp g4).1
  refine ⟨c, t, h0, g0, ?_⟩
  show Z.vm.assignableAux (255 + 1) c t = false
  simp [Vm.assignableAux, ids_ne h0 g0 hn, h2, g2, h5, g3, g5, Vm.isSubclass, n3]
end Own
theorem own_rem7 (x : Int32) : (x &&& (2147483647 : Int32)) % (7 : Int32) = (0 : Int32) ∨ (x &&& (2147483647 : Int32)) % (7 : Int32) = (1 : Int32) ∨ (x &&& (2147483647 : Int32)) % (7 : Int32) = (2 : Int32) ∨ (x &&& (2147483647 : Int32)) % (7 : Int32) = (3 : Int32) ∨ (x &&& (2147483647 : Int32)) % (7 : Int32) = (4 : Int32) ∨ (x &&& (2147483647 : Int32)) % (7 : Int32) = (5 : Int32) ∨ (x &&& (2147483647 : Int32)) % (7 : Int32) = (6 : Int32) := by
  have q0 := c_mask x 2147483647 31 (by decide) (by decide)
  have q := (c_irem (x &&& 2147483647) 7 7 rfl).1 (by omega)
  have q2 : ((x &&& 2147483647) % 7).toInt = 0 ∨ ((x &&& 2147483647) % 7).toInt = 1 ∨ ((x &&& 2147483647) % 7).toInt = 2 ∨ ((x &&& 2147483647) % 7).toInt = 3 ∨ ((x &&& 2147483647) % 7).toInt = 4 ∨ ((x &&& 2147483647) % 7).toInt = 5 ∨ ((x &&& 2147483647) % 7).toInt = 6 := by omega
  rcases q2 with q | q | q | q | q | q | q
  · exact Or.inl (Int32.toInt_inj.mp (q.trans rfl))
  · exact Or.inr (Or.inl (Int32.toInt_inj.mp (q.trans rfl)))
  · exact Or.inr (Or.inr (Or.inl (Int32.toInt_inj.mp (q.trans rfl))))
  · exact Or.inr (Or.inr (Or.inr (Or.inl (Int32.toInt_inj.mp (q.trans rfl)))))
  · exact Or.inr (Or.inr (Or.inr (Or.inr (Or.inl (Int32.toInt_inj.mp (q.trans rfl))))))
  · exact Or.inr (Or.inr (Or.inr (Or.inr (Or.inr (Or.inl (Int32.toInt_inj.mp (q.trans rfl)))))))
  · exact Or.inr (Or.inr (Or.inr (Or.inr (Or.inr (Or.inr (Int32.toInt_inj.mp (q.trans rfl)))))))
theorem d1_0 : decode method_2_code 0 = .ok (.iload_n 0, 1) := by decide +kernel
theorem d1_1 : decode method_2_code 1 = .ok (.ifCond .ne 7, 3) := by decide +kernel
theorem d1_4 : decode method_2_code 4 = .ok (.getstatic 7, 3) := by decide +kernel
theorem d1_7 : decode method_2_code 7 = .ok (.areturn, 1) := by decide +kernel
theorem pn_com_example_graphwright_graphwright_cypher_RoleFollowsWithPinLaw : plainName "com/example/graphwright/graphwright/cypher/RoleFollowsWithPinLaw" = true := by first | (simp [plainName, overriddenIn]; done) | decide +kernel
theorem ef_rm1_0 (m : MethodId) (x0 : Int32) : entryFrame m #[(.int x0)] 1 = mkF m 0 #[.val (.int x0)] [] := by first | (simp [entryFrame, mkF, argsToLocals, Value.category]; done) | rfl
set_option maxRecDepth 65536 in
set_option maxHeartbeats 40000000 in
theorem rm1_0 (l : Launch) (Z : State) (a0 : Array Value) (hw : ∀ d ∈ tables_1, d.before a0 Z = true) (w : Addr) (h0 : Heap) (n0 : Nat) (S : Sta Z h0 "com/example/graphwright/graphwright/cypher/Clause$Role" "PROJECTS" "Lcom/example/graphwright/graphwright/cypher/Clause$Role;" (.ref w)) :
    OMet l Z (⟨"com/example/graphwright/graphwright/cypher/RoleFollowsWithPinLaw", "pick", "(I)Lcom/example/graphwright/graphwright/cypher/Clause$Role;"⟩ : MethodName) method_2_code 1 (some (.object "com/example/graphwright/graphwright/cypher/Clause$Role")) [] ({ frames := 0, cells := 0, slots := 0, locals := 0 } : Room) #[(.int (0 : Int32))] h0 (OPure (some (.ref w)) h0 n0) := by
  refine OMet.of (plainFor_of_name pn_com_example_graphwright_graphwright_cypher_RoleFollowsWithPinLaw) ?_
  intro p e s m below meth c s₁ hx hby hml hnd hown hnm hret hlk hZ X0 e0
  replace hown : s.vm.findClass "com/example/graphwright/graphwright/cypher/RoleFollowsWithPinLaw" = some m.cls := hown
  replace hml : c.maxLocals = 1 := hml
  have N0 := Fr.nil n0
  rw [ef_rm1_0 m (0 : Int32)]
  refine OGo.st (B := s₁.setTop (mkF m 1 #[.val (.int (0 : Int32))] [(.int (0 : Int32))])) (fun _ k => XS.iloadN X0.here hx rfl (hb hby d1_0) rfl k) ?_
  refine OGo.st (B := s₁.setTop (mkF m 4 #[.val (.int (0 : Int32))] [])) (fun _ k => XS.ifNo X0.here hx rfl (hb hby d1_1) rfl (by decide) k) ?_
  obtain ⟨T1, X1, e1, st1⟩ := getS2 X0 hx hZ hown (host := "") (Or.inl (hw _ (List.mem_of_getElem? (i := 5) rfl))) Via.refl e0 S (g := (mkF m 4 #[.val (.int (0 : Int32))] [])) rfl (hb hby d1_4)
  refine OGo.st (B := T1.setTop (mkF m 7 #[.val (.int (0 : Int32))] [(.ref w)])) st1 ?_
  exact own_retA X1 hx hret hlk rfl rfl rfl (hb hby d1_7) ⟨rfl, N0, e1⟩ (by decide) (by decide)
theorem d1_8 : decode method_2_code 8 = .ok (.iload_n 0, 1) := by decide +kernel
theorem d1_9 : decode method_2_code 9 = .ok (.iconst 1, 1) := by decide +kernel
theorem d1_10 : decode method_2_code 10 = .ok (.if_icmp .ne 7, 3) := by decide +kernel
theorem d1_13 : decode method_2_code 13 = .ok (.getstatic 13, 3) := by decide +kernel
theorem d1_16 : decode method_2_code 16 = .ok (.areturn, 1) := by decide +kernel
theorem ef_rm1_1 (m : MethodId) (x0 : Int32) : entryFrame m #[(.int x0)] 1 = mkF m 0 #[.val (.int x0)] [] := by first | (simp [entryFrame, mkF, argsToLocals, Value.category]; done) | rfl
set_option maxRecDepth 65536 in
set_option maxHeartbeats 40000000 in
theorem rm1_1 (l : Launch) (Z : State) (a0 : Array Value) (hw : ∀ d ∈ tables_1, d.before a0 Z = true) (w : Addr) (h0 : Heap) (n0 : Nat) (S : Sta Z h0 "com/example/graphwright/graphwright/cypher/Clause$Role" "READS" "Lcom/example/graphwright/graphwright/cypher/Clause$Role;" (.ref w)) :
    OMet l Z (⟨"com/example/graphwright/graphwright/cypher/RoleFollowsWithPinLaw", "pick", "(I)Lcom/example/graphwright/graphwright/cypher/Clause$Role;"⟩ : MethodName) method_2_code 1 (some (.object "com/example/graphwright/graphwright/cypher/Clause$Role")) [] ({ frames := 0, cells := 0, slots := 0, locals := 0 } : Room) #[(.int (1 : Int32))] h0 (OPure (some (.ref w)) h0 n0) := by
  refine OMet.of (plainFor_of_name pn_com_example_graphwright_graphwright_cypher_RoleFollowsWithPinLaw) ?_
  intro p e s m below meth c s₁ hx hby hml hnd hown hnm hret hlk hZ X0 e0
  replace hown : s.vm.findClass "com/example/graphwright/graphwright/cypher/RoleFollowsWithPinLaw" = some m.cls := hown
  replace hml : c.maxLocals = 1 := hml
  have N0 := Fr.nil n0
  rw [ef_rm1_1 m (1 : Int32)]
  refine OGo.st (B := s₁.setTop (mkF m 1 #[.val (.int (1 : Int32))] [(.int (1 : Int32))])) (fun _ k => XS.iloadN X0.here hx rfl (hb hby d1_0) rfl k) ?_
  refine OGo.st (B := s₁.setTop (mkF m 8 #[.val (.int (1 : Int32))] [])) (fun _ k => XS.ifYes X0.here hx rfl (pc0 := 1) (pc' := 8) rfl (hb hby d1_1) rfl (by decide) (by decide) (by decide) k) ?_
  refine OGo.st (B := s₁.setTop (mkF m 9 #[.val (.int (1 : Int32))] [(.int (1 : Int32))])) (fun _ k => XS.iloadN X0.here hx rfl (hb hby d1_8) rfl k) ?_
  refine OGo.st (B := s₁.setTop (mkF m 10 #[.val (.int (1 : Int32))] [(.int (1 : Int32)), (.int (1 : Int32))])) (fun _ k => XS.iconst X0.here hx rfl (hb hby d1_9) k) ?_
  refine OGo.st (B := s₁.setTop (mkF m 13 #[.val (.int (1 : Int32))] [])) (fun _ k => XS.icmpNo X0.here hx rfl (hb hby d1_10) rfl (by decide) k) ?_
  obtain ⟨T1, X1, e1, st1⟩ := getS2 X0 hx hZ hown (host := "") (Or.inl (hw _ (List.mem_of_getElem? (i := 30) rfl))) Via.refl e0 S (g := (mkF m 13 #[.val (.int (1 : Int32))] [])) rfl (hb hby d1_13)
  refine OGo.st (B := T1.setTop (mkF m 16 #[.val (.int (1 : Int32))] [(.ref w)])) st1 ?_
  exact own_retA X1 hx hret hlk rfl rfl rfl (hb hby d1_16) ⟨rfl, N0, e1⟩ (by decide) (by decide)
theorem d1_17 : decode method_2_code 17 = .ok (.iload_n 0, 1) := by decide +kernel
theorem d1_18 : decode method_2_code 18 = .ok (.iconst 2, 1) := by decide +kernel
theorem d1_19 : decode method_2_code 19 = .ok (.if_icmp .ne 7, 3) := by decide +kernel
theorem d1_22 : decode method_2_code 22 = .ok (.getstatic 16, 3) := by decide +kernel
theorem d1_25 : decode method_2_code 25 = .ok (.areturn, 1) := by decide +kernel
theorem ef_rm1_2 (m : MethodId) (x0 : Int32) : entryFrame m #[(.int x0)] 1 = mkF m 0 #[.val (.int x0)] [] := by first | (simp [entryFrame, mkF, argsToLocals, Value.category]; done) | rfl
set_option maxRecDepth 65536 in
set_option maxHeartbeats 40000000 in
theorem rm1_2 (l : Launch) (Z : State) (a0 : Array Value) (hw : ∀ d ∈ tables_1, d.before a0 Z = true) (w : Addr) (h0 : Heap) (n0 : Nat) (S : Sta Z h0 "com/example/graphwright/graphwright/cypher/Clause$Role" "MATCHES" "Lcom/example/graphwright/graphwright/cypher/Clause$Role;" (.ref w)) :
    OMet l Z (⟨"com/example/graphwright/graphwright/cypher/RoleFollowsWithPinLaw", "pick", "(I)Lcom/example/graphwright/graphwright/cypher/Clause$Role;"⟩ : MethodName) method_2_code 1 (some (.object "com/example/graphwright/graphwright/cypher/Clause$Role")) [] ({ frames := 0, cells := 0, slots := 0, locals := 0 } : Room) #[(.int (2 : Int32))] h0 (OPure (some (.ref w)) h0 n0) := by
  refine OMet.of (plainFor_of_name pn_com_example_graphwright_graphwright_cypher_RoleFollowsWithPinLaw) ?_
  intro p e s m below meth c s₁ hx hby hml hnd hown hnm hret hlk hZ X0 e0
  replace hown : s.vm.findClass "com/example/graphwright/graphwright/cypher/RoleFollowsWithPinLaw" = some m.cls := hown
  replace hml : c.maxLocals = 1 := hml
  have N0 := Fr.nil n0
  rw [ef_rm1_2 m (2 : Int32)]
  refine OGo.st (B := s₁.setTop (mkF m 1 #[.val (.int (2 : Int32))] [(.int (2 : Int32))])) (fun _ k => XS.iloadN X0.here hx rfl (hb hby d1_0) rfl k) ?_
  refine OGo.st (B := s₁.setTop (mkF m 8 #[.val (.int (2 : Int32))] [])) (fun _ k => XS.ifYes X0.here hx rfl (pc0 := 1) (pc' := 8) rfl (hb hby d1_1) rfl (by decide) (by decide) (by decide) k) ?_
  refine OGo.st (B := s₁.setTop (mkF m 9 #[.val (.int (2 : Int32))] [(.int (2 : Int32))])) (fun _ k => XS.iloadN X0.here hx rfl (hb hby d1_8) rfl k) ?_
  refine OGo.st (B := s₁.setTop (mkF m 10 #[.val (.int (2 : Int32))] [(.int (1 : Int32)), (.int (2 : Int32))])) (fun _ k => XS.iconst X0.here hx rfl (hb hby d1_9) k) ?_
  refine OGo.st (B := s₁.setTop (mkF m 17 #[.val (.int (2 : Int32))] [])) (fun _ k => XS.icmpYes X0.here hx rfl (pc0 := 10) (pc' := 17) rfl (hb hby d1_10) rfl (by decide) (by decide) (by decide) k) ?_
  refine OGo.st (B := s₁.setTop (mkF m 18 #[.val (.int (2 : Int32))] [(.int (2 : Int32))])) (fun _ k => XS.iloadN X0.here hx rfl (hb hby d1_17) rfl k) ?_
  refine OGo.st (B := s₁.setTop (mkF m 19 #[.val (.int (2 : Int32))] [(.int (2 : Int32)), (.int (2 : Int32))])) (fun _ k => XS.iconst X0.here hx rfl (hb hby d1_18) k) ?_
  refine OGo.st (B := s₁.setTop (mkF m 22 #[.val (.int (2 : Int32))] [])) (fun _ k => XS.icmpNo X0.here hx rfl (hb hby d1_19) rfl (by decide) k) ?_
  obtain ⟨T1, X1, e1, st1⟩ := getS2 X0 hx hZ hown (host := "") (Or.inl (hw _ (List.mem_of_getElem? (i := 29) rfl))) Via.refl e0 S (g := (mkF m 22 #[.val (.int (2 : Int32))] [])) rfl (hb hby d1_22)
  refine OGo.st (B := T1.setTop (mkF m 25 #[.val (.int (2 : Int32))] [(.ref w)])) st1 ?_
  exact own_retA X1 hx hret hlk rfl rfl rfl (hb hby d1_25) ⟨rfl, N0, e1⟩ (by decide) (by decide)
theorem d1_26 : decode method_2_code 26 = .ok (.iload_n 0, 1) := by decide +kernel
theorem d1_27 : decode method_2_code 27 = .ok (.iconst 3, 1) := by decide +kernel
theorem d1_28 : decode method_2_code 28 = .ok (.if_icmp .ne 7, 3) := by decide +kernel
theorem d1_31 : decode method_2_code 31 = .ok (.getstatic 19, 3) := by decide +kernel
theorem d1_34 : decode method_2_code 34 = .ok (.areturn, 1) := by decide +kernel
theorem ef_rm1_3 (m : MethodId) (x0 : Int32) : entryFrame m #[(.int x0)] 1 = mkF m 0 #[.val (.int x0)] [] := by first | (simp [entryFrame, mkF, argsToLocals, Value.category]; done) | rfl
set_option maxRecDepth 65536 in
set_option maxHeartbeats 40000000 in
theorem rm1_3 (l : Launch) (Z : State) (a0 : Array Value) (hw : ∀ d ∈ tables_1, d.before a0 Z = true) (w : Addr) (h0 : Heap) (n0 : Nat) (S : Sta Z h0 "com/example/graphwright/graphwright/cypher/Clause$Role" "CALLS" "Lcom/example/graphwright/graphwright/cypher/Clause$Role;" (.ref w)) :
    OMet l Z (⟨"com/example/graphwright/graphwright/cypher/RoleFollowsWithPinLaw", "pick", "(I)Lcom/example/graphwright/graphwright/cypher/Clause$Role;"⟩ : MethodName) method_2_code 1 (some (.object "com/example/graphwright/graphwright/cypher/Clause$Role")) [] ({ frames := 0, cells := 0, slots := 0, locals := 0 } : Room) #[(.int (3 : Int32))] h0 (OPure (some (.ref w)) h0 n0) := by
  refine OMet.of (plainFor_of_name pn_com_example_graphwright_graphwright_cypher_RoleFollowsWithPinLaw) ?_
  intro p e s m below meth c s₁ hx hby hml hnd hown hnm hret hlk hZ X0 e0
  replace hown : s.vm.findClass "com/example/graphwright/graphwright/cypher/RoleFollowsWithPinLaw" = some m.cls := hown
  replace hml : c.maxLocals = 1 := hml
  have N0 := Fr.nil n0
  rw [ef_rm1_3 m (3 : Int32)]
  refine OGo.st (B := s₁.setTop (mkF m 1 #[.val (.int (3 : Int32))] [(.int (3 : Int32))])) (fun _ k => XS.iloadN X0.here hx rfl (hb hby d1_0) rfl k) ?_
  refine OGo.st (B := s₁.setTop (mkF m 8 #[.val (.int (3 : Int32))] [])) (fun _ k => XS.ifYes X0.here hx rfl (pc0 := 1) (pc' := 8) rfl (hb hby d1_1) rfl (by decide) (by decide) (by decide) k) ?_
  refine OGo.st (B := s₁.setTop (mkF m 9 #[.val (.int (3 : Int32))] [(.int (3 : Int32))])) (fun _ k => XS.iloadN X0.here hx rfl (hb hby d1_8) rfl k) ?_
  refine OGo.st (B := s₁.setTop (mkF m 10 #[.val (.int (3 : Int32))] [(.int (1 : Int32)), (.int (3 : Int32))])) (fun _ k => XS.iconst X0.here hx rfl (hb hby d1_9) k) ?_
  refine OGo.st (B := s₁.setTop (mkF m 17 #[.val (.int (3 : Int32))] [])) (fun _ k => XS.icmpYes X0.here hx rfl (pc0 := 10) (pc' := 17) rfl (hb hby d1_10) rfl (by decide) (by decide) (by decide) k) ?_
  refine OGo.st (B := s₁.setTop (mkF m 18 #[.val (.int (3 : Int32))] [(.int (3 : Int32))])) (fun _ k => XS.iloadN X0.here hx rfl (hb hby d1_17) rfl k) ?_
  refine OGo.st (B := s₁.setTop (mkF m 19 #[.val (.int (3 : Int32))] [(.int (2 : Int32)), (.int (3 : Int32))])) (fun _ k => XS.iconst X0.here hx rfl (hb hby d1_18) k) ?_
  refine OGo.st (B := s₁.setTop (mkF m 26 #[.val (.int (3 : Int32))] [])) (fun _ k => XS.icmpYes X0.here hx rfl (pc0 := 19) (pc' := 26) rfl (hb hby d1_19) rfl (by decide) (by decide) (by decide) k) ?_
  refine OGo.st (B := s₁.setTop (mkF m 27 #[.val (.int (3 : Int32))] [(.int (3 : Int32))])) (fun _ k => XS.iloadN X0.here hx rfl (hb hby d1_26) rfl k) ?_
  refine OGo.st (B := s₁.setTop (mkF m 28 #[.val (.int (3 : Int32))] [(.int (3 : Int32)), (.int (3 : Int32))])) (fun _ k => XS.iconst X0.here hx rfl (hb hby d1_27) k) ?_
  refine OGo.st (B := s₁.setTop (mkF m 31 #[.val (.int (3 : Int32))] [])) (fun _ k => XS.icmpNo X0.here hx rfl (hb hby d1_28) rfl (by decide) k) ?_
  obtain ⟨T1, X1, e1, st1⟩ := getS2 X0 hx hZ hown (host := "") (Or.inl (hw _ (List.mem_of_getElem? (i := 22) rfl))) Via.refl e0 S (g := (mkF m 31 #[.val (.int (3 : Int32))] [])) rfl (hb hby d1_31)
  refine OGo.st (B := T1.setTop (mkF m 34 #[.val (.int (3 : Int32))] [(.ref w)])) st1 ?_
  exact own_retA X1 hx hret hlk rfl rfl rfl (hb hby d1_34) ⟨rfl, N0, e1⟩ (by decide) (by decide)
theorem d1_35 : decode method_2_code 35 = .ok (.iload_n 0, 1) := by decide +kernel
theorem d1_36 : decode method_2_code 36 = .ok (.iconst 4, 1) := by decide +kernel
theorem d1_37 : decode method_2_code 37 = .ok (.if_icmp .ne 7, 3) := by decide +kernel
theorem d1_40 : decode method_2_code 40 = .ok (.getstatic 22, 3) := by decide +kernel
theorem d1_43 : decode method_2_code 43 = .ok (.areturn, 1) := by decide +kernel
theorem ef_rm1_4 (m : MethodId) (x0 : Int32) : entryFrame m #[(.int x0)] 1 = mkF m 0 #[.val (.int x0)] [] := by first | (simp [entryFrame, mkF, argsToLocals, Value.category]; done) | rfl
set_option maxRecDepth 65536 in
set_option maxHeartbeats 40000000 in
theorem rm1_4 (l : Launch) (Z : State) (a0 : Array Value) (hw : ∀ d ∈ tables_1, d.before a0 Z = true) (w : Addr) (h0 : Heap) (n0 : Nat) (S : Sta Z h0 "com/example/graphwright/graphwright/cypher/Clause$Role" "MERGES" "Lcom/example/graphwright/graphwright/cypher/Clause$Role;" (.ref w)) :
    OMet l Z (⟨"com/example/graphwright/graphwright/cypher/RoleFollowsWithPinLaw", "pick", "(I)Lcom/example/graphwright/graphwright/cypher/Clause$Role;"⟩ : MethodName) method_2_code 1 (some (.object "com/example/graphwright/graphwright/cypher/Clause$Role")) [] ({ frames := 0, cells := 0, slots := 0, locals := 0 } : Room) #[(.int (4 : Int32))] h0 (OPure (some (.ref w)) h0 n0) := by
  refine OMet.of (plainFor_of_name pn_com_example_graphwright_graphwright_cypher_RoleFollowsWithPinLaw) ?_
  intro p e s m below meth c s₁ hx hby hml hnd hown hnm hret hlk hZ X0 e0
  replace hown : s.vm.findClass "com/example/graphwright/graphwright/cypher/RoleFollowsWithPinLaw" = some m.cls := hown
  replace hml : c.maxLocals = 1 := hml
  have N0 := Fr.nil n0
  rw [ef_rm1_4 m (4 : Int32)]
  refine OGo.st (B := s₁.setTop (mkF m 1 #[.val (.int (4 : Int32))] [(.int (4 : Int32))])) (fun _ k => XS.iloadN X0.here hx rfl (hb hby d1_0) rfl k) ?_
  refine OGo.st (B := s₁.setTop (mkF m 8 #[.val (.int (4 : Int32))] [])) (fun _ k => XS.ifYes X0.here hx rfl (pc0 := 1) (pc' := 8) rfl (hb hby d1_1) rfl (by decide) (by decide) (by decide) k) ?_
  refine OGo.st (B := s₁.setTop (mkF m 9 #[.val (.int (4 : Int32))] [(.int (4 : Int32))])) (fun _ k => XS.iloadN X0.here hx rfl (hb hby d1_8) rfl k) ?_
  refine OGo.st (B := s₁.setTop (mkF m 10 #[.val (.int (4 : Int32))] [(.int (1 : Int32)), (.int (4 : Int32))])) (fun _ k => XS.iconst X0.here hx rfl (hb hby d1_9) k) ?_
  refine OGo.st (B := s₁.setTop (mkF m 17 #[.val (.int (4 : Int32))] [])) (fun _ k => XS.icmpYes X0.here hx rfl (pc0 := 10) (pc' := 17) rfl (hb hby d1_10) rfl (by decide) (by decide) (by decide) k) ?_
  refine OGo.st (B := s₁.setTop (mkF m 18 #[.val (.int (4 : Int32))] [(.int (4 : Int32))])) (fun _ k => XS.iloadN X0.here hx rfl (hb hby d1_17) rfl k) ?_
  refine OGo.st (B := s₁.setTop (mkF m 19 #[.val (.int (4 : Int32))] [(.int (2 : Int32)), (.int (4 : Int32))])) (fun _ k => XS.iconst X0.here hx rfl (hb hby d1_18) k) ?_
  refine OGo.st (B := s₁.setTop (mkF m 26 #[.val (.int (4 : Int32))] [])) (fun _ k => XS.icmpYes X0.here hx rfl (pc0 := 19) (pc' := 26) rfl (hb hby d1_19) rfl (by decide) (by decide) (by decide) k) ?_
  refine OGo.st (B := s₁.setTop (mkF m 27 #[.val (.int (4 : Int32))] [(.int (4 : Int32))])) (fun _ k => XS.iloadN X0.here hx rfl (hb hby d1_26) rfl k) ?_
  refine OGo.st (B := s₁.setTop (mkF m 28 #[.val (.int (4 : Int32))] [(.int (3 : Int32)), (.int (4 : Int32))])) (fun _ k => XS.iconst X0.here hx rfl (hb hby d1_27) k) ?_
  refine OGo.st (B := s₁.setTop (mkF m 35 #[.val (.int (4 : Int32))] [])) (fun _ k => XS.icmpYes X0.here hx rfl (pc0 := 28) (pc' := 35) rfl (hb hby d1_28) rfl (by decide) (by decide) (by decide) k) ?_
  refine OGo.st (B := s₁.setTop (mkF m 36 #[.val (.int (4 : Int32))] [(.int (4 : Int32))])) (fun _ k => XS.iloadN X0.here hx rfl (hb hby d1_35) rfl k) ?_
  refine OGo.st (B := s₁.setTop (mkF m 37 #[.val (.int (4 : Int32))] [(.int (4 : Int32)), (.int (4 : Int32))])) (fun _ k => XS.iconst X0.here hx rfl (hb hby d1_36) k) ?_
  refine OGo.st (B := s₁.setTop (mkF m 40 #[.val (.int (4 : Int32))] [])) (fun _ k => XS.icmpNo X0.here hx rfl (hb hby d1_37) rfl (by decide) k) ?_
  obtain ⟨T1, X1, e1, st1⟩ := getS2 X0 hx hZ hown (host := "") (Or.inl (hw _ (List.mem_of_getElem? (i := 27) rfl))) Via.refl e0 S (g := (mkF m 40 #[.val (.int (4 : Int32))] [])) rfl (hb hby d1_40)
  refine OGo.st (B := T1.setTop (mkF m 43 #[.val (.int (4 : Int32))] [(.ref w)])) st1 ?_
  exact own_retA X1 hx hret hlk rfl rfl rfl (hb hby d1_43) ⟨rfl, N0, e1⟩ (by decide) (by decide)
theorem d1_44 : decode method_2_code 44 = .ok (.iload_n 0, 1) := by decide +kernel
theorem d1_45 : decode method_2_code 45 = .ok (.iconst 5, 1) := by decide +kernel
theorem d1_46 : decode method_2_code 46 = .ok (.if_icmp .ne 7, 3) := by decide +kernel
theorem d1_49 : decode method_2_code 49 = .ok (.getstatic 25, 3) := by decide +kernel
theorem d1_52 : decode method_2_code 52 = .ok (.areturn, 1) := by decide +kernel
theorem ef_rm1_5 (m : MethodId) (x0 : Int32) : entryFrame m #[(.int x0)] 1 = mkF m 0 #[.val (.int x0)] [] := by first | (simp [entryFrame, mkF, argsToLocals, Value.category]; done) | rfl
set_option maxRecDepth 65536 in
set_option maxHeartbeats 40000000 in
theorem rm1_5 (l : Launch) (Z : State) (a0 : Array Value) (hw : ∀ d ∈ tables_1, d.before a0 Z = true) (w : Addr) (h0 : Heap) (n0 : Nat) (S : Sta Z h0 "com/example/graphwright/graphwright/cypher/Clause$Role" "MAKES" "Lcom/example/graphwright/graphwright/cypher/Clause$Role;" (.ref w)) :
    OMet l Z (⟨"com/example/graphwright/graphwright/cypher/RoleFollowsWithPinLaw", "pick", "(I)Lcom/example/graphwright/graphwright/cypher/Clause$Role;"⟩ : MethodName) method_2_code 1 (some (.object "com/example/graphwright/graphwright/cypher/Clause$Role")) [] ({ frames := 0, cells := 0, slots := 0, locals := 0 } : Room) #[(.int (5 : Int32))] h0 (OPure (some (.ref w)) h0 n0) := by
  refine OMet.of (plainFor_of_name pn_com_example_graphwright_graphwright_cypher_RoleFollowsWithPinLaw) ?_
  intro p e s m below meth c s₁ hx hby hml hnd hown hnm hret hlk hZ X0 e0
  replace hown : s.vm.findClass "com/example/graphwright/graphwright/cypher/RoleFollowsWithPinLaw" = some m.cls := hown
  replace hml : c.maxLocals = 1 := hml
  have N0 := Fr.nil n0
  rw [ef_rm1_5 m (5 : Int32)]
  refine OGo.st (B := s₁.setTop (mkF m 1 #[.val (.int (5 : Int32))] [(.int (5 : Int32))])) (fun _ k => XS.iloadN X0.here hx rfl (hb hby d1_0) rfl k) ?_
  refine OGo.st (B := s₁.setTop (mkF m 8 #[.val (.int (5 : Int32))] [])) (fun _ k => XS.ifYes X0.here hx rfl (pc0 := 1) (pc' := 8) rfl (hb hby d1_1) rfl (by decide) (by decide) (by decide) k) ?_
  refine OGo.st (B := s₁.setTop (mkF m 9 #[.val (.int (5 : Int32))] [(.int (5 : Int32))])) (fun _ k => XS.iloadN X0.here hx rfl (hb hby d1_8) rfl k) ?_
  refine OGo.st (B := s₁.setTop (mkF m 10 #[.val (.int (5 : Int32))] [(.int (1 : Int32)), (.int (5 : Int32))])) (fun _ k => XS.iconst X0.here hx rfl (hb hby d1_9) k) ?_
  refine OGo.st (B := s₁.setTop (mkF m 17 #[.val (.int (5 : Int32))] [])) (fun _ k => XS.icmpYes X0.here hx rfl (pc0 := 10) (pc' := 17) rfl (hb hby d1_10) rfl (by decide) (by decide) (by decide) k) ?_
  refine OGo.st (B := s₁.setTop (mkF m 18 #[.val (.int (5 : Int32))] [(.int (5 : Int32))])) (fun _ k => XS.iloadN X0.here hx rfl (hb hby d1_17) rfl k) ?_
  refine OGo.st (B := s₁.setTop (mkF m 19 #[.val (.int (5 : Int32))] [(.int (2 : Int32)), (.int (5 : Int32))])) (fun _ k => XS.iconst X0.here hx rfl (hb hby d1_18) k) ?_
  refine OGo.st (B := s₁.setTop (mkF m 26 #[.val (.int (5 : Int32))] [])) (fun _ k => XS.icmpYes X0.here hx rfl (pc0 := 19) (pc' := 26) rfl (hb hby d1_19) rfl (by decide) (by decide) (by decide) k) ?_
  refine OGo.st (B := s₁.setTop (mkF m 27 #[.val (.int (5 : Int32))] [(.int (5 : Int32))])) (fun _ k => XS.iloadN X0.here hx rfl (hb hby d1_26) rfl k) ?_
  refine OGo.st (B := s₁.setTop (mkF m 28 #[.val (.int (5 : Int32))] [(.int (3 : Int32)), (.int (5 : Int32))])) (fun _ k => XS.iconst X0.here hx rfl (hb hby d1_27) k) ?_
  refine OGo.st (B := s₁.setTop (mkF m 35 #[.val (.int (5 : Int32))] [])) (fun _ k => XS.icmpYes X0.here hx rfl (pc0 := 28) (pc' := 35) rfl (hb hby d1_28) rfl (by decide) (by decide) (by decide) k) ?_
  refine OGo.st (B := s₁.setTop (mkF m 36 #[.val (.int (5 : Int32))] [(.int (5 : Int32))])) (fun _ k => XS.iloadN X0.here hx rfl (hb hby d1_35) rfl k) ?_
  refine OGo.st (B := s₁.setTop (mkF m 37 #[.val (.int (5 : Int32))] [(.int (4 : Int32)), (.int (5 : Int32))])) (fun _ k => XS.iconst X0.here hx rfl (hb hby d1_36) k) ?_
  refine OGo.st (B := s₁.setTop (mkF m 44 #[.val (.int (5 : Int32))] [])) (fun _ k => XS.icmpYes X0.here hx rfl (pc0 := 37) (pc' := 44) rfl (hb hby d1_37) rfl (by decide) (by decide) (by decide) k) ?_
  refine OGo.st (B := s₁.setTop (mkF m 45 #[.val (.int (5 : Int32))] [(.int (5 : Int32))])) (fun _ k => XS.iloadN X0.here hx rfl (hb hby d1_44) rfl k) ?_
  refine OGo.st (B := s₁.setTop (mkF m 46 #[.val (.int (5 : Int32))] [(.int (5 : Int32)), (.int (5 : Int32))])) (fun _ k => XS.iconst X0.here hx rfl (hb hby d1_45) k) ?_
  refine OGo.st (B := s₁.setTop (mkF m 49 #[.val (.int (5 : Int32))] [])) (fun _ k => XS.icmpNo X0.here hx rfl (hb hby d1_46) rfl (by decide) k) ?_
  obtain ⟨T1, X1, e1, st1⟩ := getS2 X0 hx hZ hown (host := "") (Or.inl (hw _ (List.mem_of_getElem? (i := 23) rfl))) Via.refl e0 S (g := (mkF m 49 #[.val (.int (5 : Int32))] [])) rfl (hb hby d1_49)
  refine OGo.st (B := T1.setTop (mkF m 52 #[.val (.int (5 : Int32))] [(.ref w)])) st1 ?_
  exact own_retA X1 hx hret hlk rfl rfl rfl (hb hby d1_52) ⟨rfl, N0, e1⟩ (by decide) (by decide)
theorem d1_53 : decode method_2_code 53 = .ok (.getstatic 28, 3) := by decide +kernel
theorem d1_56 : decode method_2_code 56 = .ok (.areturn, 1) := by decide +kernel
theorem ef_rm1_6 (m : MethodId) (x0 : Int32) : entryFrame m #[(.int x0)] 1 = mkF m 0 #[.val (.int x0)] [] := by first | (simp [entryFrame, mkF, argsToLocals, Value.category]; done) | rfl
set_option maxRecDepth 65536 in
set_option maxHeartbeats 40000000 in
theorem rm1_6 (l : Launch) (Z : State) (a0 : Array Value) (hw : ∀ d ∈ tables_1, d.before a0 Z = true) (w : Addr) (h0 : Heap) (n0 : Nat) (S : Sta Z h0 "com/example/graphwright/graphwright/cypher/Clause$Role" "CHANGES" "Lcom/example/graphwright/graphwright/cypher/Clause$Role;" (.ref w)) :
    OMet l Z (⟨"com/example/graphwright/graphwright/cypher/RoleFollowsWithPinLaw", "pick", "(I)Lcom/example/graphwright/graphwright/cypher/Clause$Role;"⟩ : MethodName) method_2_code 1 (some (.object "com/example/graphwright/graphwright/cypher/Clause$Role")) [] ({ frames := 0, cells := 0, slots := 0, locals := 0 } : Room) #[(.int (6 : Int32))] h0 (OPure (some (.ref w)) h0 n0) := by
  refine OMet.of (plainFor_of_name pn_com_example_graphwright_graphwright_cypher_RoleFollowsWithPinLaw) ?_
  intro p e s m below meth c s₁ hx hby hml hnd hown hnm hret hlk hZ X0 e0
  replace hown : s.vm.findClass "com/example/graphwright/graphwright/cypher/RoleFollowsWithPinLaw" = some m.cls := hown
  replace hml : c.maxLocals = 1 := hml
  have N0 := Fr.nil n0
  rw [ef_rm1_6 m (6 : Int32)]
  refine OGo.st (B := s₁.setTop (mkF m 1 #[.val (.int (6 : Int32))] [(.int (6 : Int32))])) (fun _ k => XS.iloadN X0.here hx rfl (hb hby d1_0) rfl k) ?_
  refine OGo.st (B := s₁.setTop (mkF m 8 #[.val (.int (6 : Int32))] [])) (fun _ k => XS.ifYes X0.here hx rfl (pc0 := 1) (pc' := 8) rfl (hb hby d1_1) rfl (by decide) (by decide) (by decide) k) ?_
  refine OGo.st (B := s₁.setTop (mkF m 9 #[.val (.int (6 : Int32))] [(.int (6 : Int32))])) (fun _ k => XS.iloadN X0.here hx rfl (hb hby d1_8) rfl k) ?_
  refine OGo.st (B := s₁.setTop (mkF m 10 #[.val (.int (6 : Int32))] [(.int (1 : Int32)), (.int (6 : Int32))])) (fun _ k => XS.iconst X0.here hx rfl (hb hby d1_9) k) ?_
  refine OGo.st (B := s₁.setTop (mkF m 17 #[.val (.int (6 : Int32))] [])) (fun _ k => XS.icmpYes X0.here hx rfl (pc0 := 10) (pc' := 17) rfl (hb hby d1_10) rfl (by decide) (by decide) (by decide) k) ?_
  refine OGo.st (B := s₁.setTop (mkF m 18 #[.val (.int (6 : Int32))] [(.int (6 : Int32))])) (fun _ k => XS.iloadN X0.here hx rfl (hb hby d1_17) rfl k) ?_
  refine OGo.st (B := s₁.setTop (mkF m 19 #[.val (.int (6 : Int32))] [(.int (2 : Int32)), (.int (6 : Int32))])) (fun _ k => XS.iconst X0.here hx rfl (hb hby d1_18) k) ?_
  refine OGo.st (B := s₁.setTop (mkF m 26 #[.val (.int (6 : Int32))] [])) (fun _ k => XS.icmpYes X0.here hx rfl (pc0 := 19) (pc' := 26) rfl (hb hby d1_19) rfl (by decide) (by decide) (by decide) k) ?_
  refine OGo.st (B := s₁.setTop (mkF m 27 #[.val (.int (6 : Int32))] [(.int (6 : Int32))])) (fun _ k => XS.iloadN X0.here hx rfl (hb hby d1_26) rfl k) ?_
  refine OGo.st (B := s₁.setTop (mkF m 28 #[.val (.int (6 : Int32))] [(.int (3 : Int32)), (.int (6 : Int32))])) (fun _ k => XS.iconst X0.here hx rfl (hb hby d1_27) k) ?_
  refine OGo.st (B := s₁.setTop (mkF m 35 #[.val (.int (6 : Int32))] [])) (fun _ k => XS.icmpYes X0.here hx rfl (pc0 := 28) (pc' := 35) rfl (hb hby d1_28) rfl (by decide) (by decide) (by decide) k) ?_
  refine OGo.st (B := s₁.setTop (mkF m 36 #[.val (.int (6 : Int32))] [(.int (6 : Int32))])) (fun _ k => XS.iloadN X0.here hx rfl (hb hby d1_35) rfl k) ?_
  refine OGo.st (B := s₁.setTop (mkF m 37 #[.val (.int (6 : Int32))] [(.int (4 : Int32)), (.int (6 : Int32))])) (fun _ k => XS.iconst X0.here hx rfl (hb hby d1_36) k) ?_
  refine OGo.st (B := s₁.setTop (mkF m 44 #[.val (.int (6 : Int32))] [])) (fun _ k => XS.icmpYes X0.here hx rfl (pc0 := 37) (pc' := 44) rfl (hb hby d1_37) rfl (by decide) (by decide) (by decide) k) ?_
  refine OGo.st (B := s₁.setTop (mkF m 45 #[.val (.int (6 : Int32))] [(.int (6 : Int32))])) (fun _ k => XS.iloadN X0.here hx rfl (hb hby d1_44) rfl k) ?_
  refine OGo.st (B := s₁.setTop (mkF m 46 #[.val (.int (6 : Int32))] [(.int (5 : Int32)), (.int (6 : Int32))])) (fun _ k => XS.iconst X0.here hx rfl (hb hby d1_45) k) ?_
  refine OGo.st (B := s₁.setTop (mkF m 53 #[.val (.int (6 : Int32))] [])) (fun _ k => XS.icmpYes X0.here hx rfl (pc0 := 46) (pc' := 53) rfl (hb hby d1_46) rfl (by decide) (by decide) (by decide) k) ?_
  obtain ⟨T1, X1, e1, st1⟩ := getS2 X0 hx hZ hown (host := "") (Or.inl (hw _ (List.mem_of_getElem? (i := 25) rfl))) Via.refl e0 S (g := (mkF m 53 #[.val (.int (6 : Int32))] [])) rfl (hb hby d1_53)
  refine OGo.st (B := T1.setTop (mkF m 56 #[.val (.int (6 : Int32))] [(.ref w)])) st1 ?_
  exact own_retA X1 hx hret hlk rfl rfl rfl (hb hby d1_56) ⟨rfl, N0, e1⟩ (by decide) (by decide)
theorem d2_0 : decode prog_59_method_4_code 0 = .ok (.aload_n 0, 1) := by decide +kernel
theorem d2_1 : decode prog_59_method_4_code 1 = .ok (.getstatic 7, 3) := by decide +kernel
theorem d2_4 : decode prog_59_method_4_code 4 = .ok (.if_acmp .eq 17, 3) := by decide +kernel
theorem d2_7 : decode prog_59_method_4_code 7 = .ok (.aload_n 0, 1) := by decide +kernel
theorem d2_8 : decode prog_59_method_4_code 8 = .ok (.getstatic 10, 3) := by decide +kernel
theorem d2_11 : decode prog_59_method_4_code 11 = .ok (.if_acmp .eq 10, 3) := by decide +kernel
theorem d2_14 : decode prog_59_method_4_code 14 = .ok (.aload_n 0, 1) := by decide +kernel
theorem d2_15 : decode prog_59_method_4_code 15 = .ok (.getstatic 13, 3) := by decide +kernel
theorem d2_18 : decode prog_59_method_4_code 18 = .ok (.if_acmp .ne 7, 3) := by decide +kernel
theorem d2_21 : decode prog_59_method_4_code 21 = .ok (.iconst 1, 1) := by decide +kernel
theorem d2_22 : decode prog_59_method_4_code 22 = .ok (.goto 4, 3) := by decide +kernel
theorem d2_25 : decode prog_59_method_4_code 25 = .ok (.iconst 0, 1) := by decide +kernel
theorem d2_26 : decode prog_59_method_4_code 26 = .ok (.ireturn, 1) := by decide +kernel
theorem pn_com_example_graphwright_graphwright_cypher_Clause_Role : plainName "com/example/graphwright/graphwright/cypher/Clause$Role" = true := by first | (simp [plainName, overriddenIn]; done) | decide +kernel
theorem ef_rm2 (m : MethodId) (x0 : Addr) : entryFrame m #[(.ref x0)] 1 = mkF m 0 #[.val (.ref x0)] [] := by first | (simp [entryFrame, mkF, argsToLocals, Value.category]; done) | rfl
set_option maxRecDepth 65536 in
set_option maxHeartbeats 40000000 in
theorem rm2 (l : Launch) (Z : State) (a0 : Array Value) (hw : ∀ d ∈ tables_1, d.before a0 Z = true) (a w_READS w_MATCHES w_CALLS : Addr) (r : Int32) (h0 : Heap) (n0 : Nat) (S_READS : Sta Z h0 "com/example/graphwright/graphwright/cypher/Clause$Role" "READS" "Lcom/example/graphwright/graphwright/cypher/Clause$Role;" (.ref w_READS)) (S_MATCHES : Sta Z h0 "com/example/graphwright/graphwright/cypher/Clause$Role" "MATCHES" "Lcom/example/graphwright/graphwright/cypher/Clause$Role;" (.ref w_MATCHES)) (S_CALLS : Sta Z h0 "com/example/graphwright/graphwright/cypher/Clause$Role" "CALLS" "Lcom/example/graphwright/graphwright/cypher/Clause$Role;" (.ref w_CALLS)) (hr : (if a = w_READS ∨ a = w_MATCHES ∨ a = w_CALLS then (1 : Int32) else 0) = r) :
    OMet l Z (⟨"com/example/graphwright/graphwright/cypher/Clause$Role", "followsWith", "()Z"⟩ : MethodName) prog_59_method_4_code 1 (some .boolean) [] ({ frames := 0, cells := 0, slots := 0, locals := 0 } : Room) #[(.ref a)] h0 (OPure (some (.int r)) h0 n0) := by
  refine OMet.of (plainFor_of_name pn_com_example_graphwright_graphwright_cypher_Clause_Role) ?_
  intro p e s m below meth c s₁ hx hby hml hnd hown hnm hret hlk hZ X0 e0
  replace hown : s.vm.findClass "com/example/graphwright/graphwright/cypher/Clause$Role" = some m.cls := hown
  replace hml : c.maxLocals = 1 := hml
  have N0 := Fr.nil n0
  rw [ef_rm2 m a]
  refine OGo.st (B := s₁.setTop (mkF m 1 #[.val (.ref a)] [(.ref a)])) (fun _ k => XS.aloadN X0.here hx rfl (hb hby d2_0) rfl rfl k) ?_
  obtain ⟨T1, X1, e1, st1⟩ := getS2 X0 hx hZ hown (host := "") (Or.inl (hw _ (List.mem_of_getElem? (i := 13) rfl))) Via.refl e0 S_READS (g := (mkF m 1 #[.val (.ref a)] [(.ref a)])) rfl (hb hby d2_1)
  refine OGo.st (B := T1.setTop (mkF m 4 #[.val (.ref a)] [(.ref w_READS), (.ref a)])) st1 ?_
  by_cases h0 : a = w_READS
  · skip
    refine OGo.st (B := T1.setTop (mkF m 21 #[.val (.ref a)] [])) (fun _ k => Jvm.RoadKit.acmp (g := (mkF m 4 #[.val (.ref a)] [(.ref w_READS), (.ref a)])) X1 hx rfl rfl rfl (pc0 := 4) (pc' := 21) (same := true) rfl (hb hby d2_4) rfl (decide_eq_true (congrArg Value.ref h0)) (by decide) (by decide) k) ?_
    refine OGo.st (B := T1.setTop (mkF m 22 #[.val (.ref a)] [(.int (1 : Int32))])) (fun _ k => XS.iconst X1.here hx rfl (hb hby d2_21) k) ?_
    refine OGo.st (B := T1.setTop (mkF m 26 #[.val (.ref a)] [(.int (1 : Int32))])) (fun _ k => XS.goto X1.here hx rfl (pc0 := 22) (pc' := 26) rfl (hb hby d2_22) (by decide) (by decide) k) ?_
    exact own_retZ X1 hx hret hlk (hb hby d2_26) ⟨by rw [← hr, if_pos (Or.inl h0)]; rfl, N0, e1⟩ (by decide) (by decide)
  · skip
    refine OGo.st (B := T1.setTop (mkF m 7 #[.val (.ref a)] [])) (fun _ k => Jvm.RoadKit.acmp (g := (mkF m 4 #[.val (.ref a)] [(.ref w_READS), (.ref a)])) X1 hx rfl rfl rfl (pc0 := 4) (pc' := 7) (same := false) rfl (hb hby d2_4) rfl (decide_eq_false fun q => h0 (Value.ref.inj q)) (by decide) (by decide) k) ?_
    refine OGo.st (B := T1.setTop (mkF m 8 #[.val (.ref a)] [(.ref a)])) (fun _ k => XS.aloadN X1.here hx rfl (hb hby d2_7) rfl rfl k) ?_
    obtain ⟨T2, X2, e2, st2⟩ := getS2 X1 hx hZ hown (host := "") (Or.inl (hw _ (List.mem_of_getElem? (i := 15) rfl))) Via.refl e1 S_MATCHES (g := (mkF m 8 #[.val (.ref a)] [(.ref a)])) rfl (hb hby d2_8)
    refine OGo.st (B := T2.setTop (mkF m 11 #[.val (.ref a)] [(.ref w_MATCHES), (.ref a)])) st2 ?_
    by_cases h1 : a = w_MATCHES
    · skip
      refine OGo.st (B := T2.setTop (mkF m 21 #[.val (.ref a)] [])) (fun _ k => Jvm.RoadKit.acmp (g := (mkF m 11 #[.val (.ref a)] [(.ref w_MATCHES), (.ref a)])) X2 hx rfl rfl rfl (pc0 := 11) (pc' := 21) (same := true) rfl (hb hby d2_11) rfl (decide_eq_true (congrArg Value.ref h1)) (by decide) (by decide) k) ?_
      refine OGo.st (B := T2.setTop (mkF m 22 #[.val (.ref a)] [(.int (1 : Int32))])) (fun _ k => XS.iconst X2.here hx rfl (hb hby d2_21) k) ?_
      refine OGo.st (B := T2.setTop (mkF m 26 #[.val (.ref a)] [(.int (1 : Int32))])) (fun _ k => XS.goto X2.here hx rfl (pc0 := 22) (pc' := 26) rfl (hb hby d2_22) (by decide) (by decide) k) ?_
      exact own_retZ X2 hx hret hlk (hb hby d2_26) ⟨by rw [← hr, if_pos (Or.inr (Or.inl h1))]; rfl, N0, e2⟩ (by decide) (by decide)
    · skip
      refine OGo.st (B := T2.setTop (mkF m 14 #[.val (.ref a)] [])) (fun _ k => Jvm.RoadKit.acmp (g := (mkF m 11 #[.val (.ref a)] [(.ref w_MATCHES), (.ref a)])) X2 hx rfl rfl rfl (pc0 := 11) (pc' := 14) (same := false) rfl (hb hby d2_11) rfl (decide_eq_false fun q => h1 (Value.ref.inj q)) (by decide) (by decide) k) ?_
      refine OGo.st (B := T2.setTop (mkF m 15 #[.val (.ref a)] [(.ref a)])) (fun _ k => XS.aloadN X2.here hx rfl (hb hby d2_14) rfl rfl k) ?_
      obtain ⟨T3, X3, e3, st3⟩ := getS2 X2 hx hZ hown (host := "") (Or.inl (hw _ (List.mem_of_getElem? (i := 17) rfl))) Via.refl e2 S_CALLS (g := (mkF m 15 #[.val (.ref a)] [(.ref a)])) rfl (hb hby d2_15)
      refine OGo.st (B := T3.setTop (mkF m 18 #[.val (.ref a)] [(.ref w_CALLS), (.ref a)])) st3 ?_
      by_cases h2 : a = w_CALLS
      · skip
        refine OGo.st (B := T3.setTop (mkF m 21 #[.val (.ref a)] [])) (fun _ k => Jvm.RoadKit.acmp (g := (mkF m 18 #[.val (.ref a)] [(.ref w_CALLS), (.ref a)])) X3 hx rfl rfl rfl (pc0 := 18) (pc' := 21) (same := true) rfl (hb hby d2_18) rfl (decide_eq_true (congrArg Value.ref h2)) (by decide) (by decide) k) ?_
        refine OGo.st (B := T3.setTop (mkF m 22 #[.val (.ref a)] [(.int (1 : Int32))])) (fun _ k => XS.iconst X3.here hx rfl (hb hby d2_21) k) ?_
        refine OGo.st (B := T3.setTop (mkF m 26 #[.val (.ref a)] [(.int (1 : Int32))])) (fun _ k => XS.goto X3.here hx rfl (pc0 := 22) (pc' := 26) rfl (hb hby d2_22) (by decide) (by decide) k) ?_
        exact own_retZ X3 hx hret hlk (hb hby d2_26) ⟨by rw [← hr, if_pos (Or.inr (Or.inr (h2)))]; rfl, N0, e3⟩ (by decide) (by decide)
      · skip
        refine OGo.st (B := T3.setTop (mkF m 25 #[.val (.ref a)] [])) (fun _ k => Jvm.RoadKit.acmp (g := (mkF m 18 #[.val (.ref a)] [(.ref w_CALLS), (.ref a)])) X3 hx rfl rfl rfl (pc0 := 18) (pc' := 25) (same := false) rfl (hb hby d2_18) rfl (decide_eq_false fun q => h2 (Value.ref.inj q)) (by decide) (by decide) k) ?_
        refine OGo.st (B := T3.setTop (mkF m 26 #[.val (.ref a)] [(.int (0 : Int32))])) (fun _ k => XS.iconst X3.here hx rfl (hb hby d2_25) k) ?_
        exact own_retZ X3 hx hret hlk (hb hby d2_26) ⟨by rw [← hr, if_neg (by simp [h0, h1, h2])]; rfl, N0, e3⟩ (by decide) (by decide)
theorem d3_0 : decode method_3_code 0 = .ok (.iload_n 0, 1) := by decide +kernel
theorem d3_1 : decode method_3_code 1 = .ok (.ifCond .ne 5, 3) := by decide +kernel
theorem d3_4 : decode method_3_code 4 = .ok (.iconst 0, 1) := by decide +kernel
theorem d3_5 : decode method_3_code 5 = .ok (.ireturn, 1) := by decide +kernel
theorem ef_rm3_0 (m : MethodId) (x0 : Int32) : entryFrame m #[(.int x0)] 1 = mkF m 0 #[.val (.int x0)] [] := by first | (simp [entryFrame, mkF, argsToLocals, Value.category]; done) | rfl
set_option maxRecDepth 65536 in
set_option maxHeartbeats 40000000 in
theorem rm3_0 (l : Launch) (Z : State) (a0 : Array Value) (hw : ∀ d ∈ tables_1, d.before a0 Z = true) (h0 : Heap) (n0 : Nat) :
    OMet l Z (⟨"com/example/graphwright/graphwright/cypher/RoleFollowsWithPinLaw", "expected", "(I)Z"⟩ : MethodName) method_3_code 1 (some .boolean) [] ({ frames := 0, cells := 0, slots := 0, locals := 0 } : Room) #[(.int (0 : Int32))] h0 (OPure (some (.int (0 : Int32))) h0 n0) := by
  refine OMet.of (plainFor_of_name pn_com_example_graphwright_graphwright_cypher_RoleFollowsWithPinLaw) ?_
  intro p e s m below meth c s₁ hx hby hml hnd hown hnm hret hlk hZ X0 e0
  replace hown : s.vm.findClass "com/example/graphwright/graphwright/cypher/RoleFollowsWithPinLaw" = some m.cls := hown
  replace hml : c.maxLocals = 1 := hml
  have N0 := Fr.nil n0
  rw [ef_rm3_0 m (0 : Int32)]
  refine OGo.st (B := s₁.setTop (mkF m 1 #[.val (.int (0 : Int32))] [(.int (0 : Int32))])) (fun _ k => XS.iloadN X0.here hx rfl (hb hby d3_0) rfl k) ?_
  refine OGo.st (B := s₁.setTop (mkF m 4 #[.val (.int (0 : Int32))] [])) (fun _ k => XS.ifNo X0.here hx rfl (hb hby d3_1) rfl (by decide) k) ?_
  refine OGo.st (B := s₁.setTop (mkF m 5 #[.val (.int (0 : Int32))] [(.int (0 : Int32))])) (fun _ k => XS.iconst X0.here hx rfl (hb hby d3_4) k) ?_
  exact own_retZ X0 hx hret hlk (hb hby d3_5) ⟨rfl, N0, e0⟩ (by decide) (by decide)
theorem d3_6 : decode method_3_code 6 = .ok (.iload_n 0, 1) := by decide +kernel
theorem d3_7 : decode method_3_code 7 = .ok (.iconst 1, 1) := by decide +kernel
theorem d3_8 : decode method_3_code 8 = .ok (.if_icmp .ne 5, 3) := by decide +kernel
theorem d3_11 : decode method_3_code 11 = .ok (.iconst 1, 1) := by decide +kernel
theorem d3_12 : decode method_3_code 12 = .ok (.ireturn, 1) := by decide +kernel
theorem ef_rm3_1 (m : MethodId) (x0 : Int32) : entryFrame m #[(.int x0)] 1 = mkF m 0 #[.val (.int x0)] [] := by first | (simp [entryFrame, mkF, argsToLocals, Value.category]; done) | rfl
set_option maxRecDepth 65536 in
set_option maxHeartbeats 40000000 in
theorem rm3_1 (l : Launch) (Z : State) (a0 : Array Value) (hw : ∀ d ∈ tables_1, d.before a0 Z = true) (h0 : Heap) (n0 : Nat) :
    OMet l Z (⟨"com/example/graphwright/graphwright/cypher/RoleFollowsWithPinLaw", "expected", "(I)Z"⟩ : MethodName) method_3_code 1 (some .boolean) [] ({ frames := 0, cells := 0, slots := 0, locals := 0 } : Room) #[(.int (1 : Int32))] h0 (OPure (some (.int (1 : Int32))) h0 n0) := by
  refine OMet.of (plainFor_of_name pn_com_example_graphwright_graphwright_cypher_RoleFollowsWithPinLaw) ?_
  intro p e s m below meth c s₁ hx hby hml hnd hown hnm hret hlk hZ X0 e0
  replace hown : s.vm.findClass "com/example/graphwright/graphwright/cypher/RoleFollowsWithPinLaw" = some m.cls := hown
  replace hml : c.maxLocals = 1 := hml
  have N0 := Fr.nil n0
  rw [ef_rm3_1 m (1 : Int32)]
  refine OGo.st (B := s₁.setTop (mkF m 1 #[.val (.int (1 : Int32))] [(.int (1 : Int32))])) (fun _ k => XS.iloadN X0.here hx rfl (hb hby d3_0) rfl k) ?_
  refine OGo.st (B := s₁.setTop (mkF m 6 #[.val (.int (1 : Int32))] [])) (fun _ k => XS.ifYes X0.here hx rfl (pc0 := 1) (pc' := 6) rfl (hb hby d3_1) rfl (by decide) (by decide) (by decide) k) ?_
  refine OGo.st (B := s₁.setTop (mkF m 7 #[.val (.int (1 : Int32))] [(.int (1 : Int32))])) (fun _ k => XS.iloadN X0.here hx rfl (hb hby d3_6) rfl k) ?_
  refine OGo.st (B := s₁.setTop (mkF m 8 #[.val (.int (1 : Int32))] [(.int (1 : Int32)), (.int (1 : Int32))])) (fun _ k => XS.iconst X0.here hx rfl (hb hby d3_7) k) ?_
  refine OGo.st (B := s₁.setTop (mkF m 11 #[.val (.int (1 : Int32))] [])) (fun _ k => XS.icmpNo X0.here hx rfl (hb hby d3_8) rfl (by decide) k) ?_
  refine OGo.st (B := s₁.setTop (mkF m 12 #[.val (.int (1 : Int32))] [(.int (1 : Int32))])) (fun _ k => XS.iconst X0.here hx rfl (hb hby d3_11) k) ?_
  exact own_retZ X0 hx hret hlk (hb hby d3_12) ⟨rfl, N0, e0⟩ (by decide) (by decide)
theorem d3_13 : decode method_3_code 13 = .ok (.iload_n 0, 1) := by decide +kernel
theorem d3_14 : decode method_3_code 14 = .ok (.iconst 2, 1) := by decide +kernel
theorem d3_15 : decode method_3_code 15 = .ok (.if_icmp .ne 5, 3) := by decide +kernel
theorem d3_18 : decode method_3_code 18 = .ok (.iconst 1, 1) := by decide +kernel
theorem d3_19 : decode method_3_code 19 = .ok (.ireturn, 1) := by decide +kernel
theorem ef_rm3_2 (m : MethodId) (x0 : Int32) : entryFrame m #[(.int x0)] 1 = mkF m 0 #[.val (.int x0)] [] := by first | (simp [entryFrame, mkF, argsToLocals, Value.category]; done) | rfl
set_option maxRecDepth 65536 in
set_option maxHeartbeats 40000000 in
theorem rm3_2 (l : Launch) (Z : State) (a0 : Array Value) (hw : ∀ d ∈ tables_1, d.before a0 Z = true) (h0 : Heap) (n0 : Nat) :
    OMet l Z (⟨"com/example/graphwright/graphwright/cypher/RoleFollowsWithPinLaw", "expected", "(I)Z"⟩ : MethodName) method_3_code 1 (some .boolean) [] ({ frames := 0, cells := 0, slots := 0, locals := 0 } : Room) #[(.int (2 : Int32))] h0 (OPure (some (.int (1 : Int32))) h0 n0) := by
  refine OMet.of (plainFor_of_name pn_com_example_graphwright_graphwright_cypher_RoleFollowsWithPinLaw) ?_
  intro p e s m below meth c s₁ hx hby hml hnd hown hnm hret hlk hZ X0 e0
  replace hown : s.vm.findClass "com/example/graphwright/graphwright/cypher/RoleFollowsWithPinLaw" = some m.cls := hown
  replace hml : c.maxLocals = 1 := hml
  have N0 := Fr.nil n0
  rw [ef_rm3_2 m (2 : Int32)]
  refine OGo.st (B := s₁.setTop (mkF m 1 #[.val (.int (2 : Int32))] [(.int (2 : Int32))])) (fun _ k => XS.iloadN X0.here hx rfl (hb hby d3_0) rfl k) ?_
  refine OGo.st (B := s₁.setTop (mkF m 6 #[.val (.int (2 : Int32))] [])) (fun _ k => XS.ifYes X0.here hx rfl (pc0 := 1) (pc' := 6) rfl (hb hby d3_1) rfl (by decide) (by decide) (by decide) k) ?_
  refine OGo.st (B := s₁.setTop (mkF m 7 #[.val (.int (2 : Int32))] [(.int (2 : Int32))])) (fun _ k => XS.iloadN X0.here hx rfl (hb hby d3_6) rfl k) ?_
  refine OGo.st (B := s₁.setTop (mkF m 8 #[.val (.int (2 : Int32))] [(.int (1 : Int32)), (.int (2 : Int32))])) (fun _ k => XS.iconst X0.here hx rfl (hb hby d3_7) k) ?_
  refine OGo.st (B := s₁.setTop (mkF m 13 #[.val (.int (2 : Int32))] [])) (fun _ k => XS.icmpYes X0.here hx rfl (pc0 := 8) (pc' := 13) rfl (hb hby d3_8) rfl (by decide) (by decide) (by decide) k) ?_
  refine OGo.st (B := s₁.setTop (mkF m 14 #[.val (.int (2 : Int32))] [(.int (2 : Int32))])) (fun _ k => XS.iloadN X0.here hx rfl (hb hby d3_13) rfl k) ?_
  refine OGo.st (B := s₁.setTop (mkF m 15 #[.val (.int (2 : Int32))] [(.int (2 : Int32)), (.int (2 : Int32))])) (fun _ k => XS.iconst X0.here hx rfl (hb hby d3_14) k) ?_
  refine OGo.st (B := s₁.setTop (mkF m 18 #[.val (.int (2 : Int32))] [])) (fun _ k => XS.icmpNo X0.here hx rfl (hb hby d3_15) rfl (by decide) k) ?_
  refine OGo.st (B := s₁.setTop (mkF m 19 #[.val (.int (2 : Int32))] [(.int (1 : Int32))])) (fun _ k => XS.iconst X0.here hx rfl (hb hby d3_18) k) ?_
  exact own_retZ X0 hx hret hlk (hb hby d3_19) ⟨rfl, N0, e0⟩ (by decide) (by decide)
theorem d3_20 : decode method_3_code 20 = .ok (.iload_n 0, 1) := by decide +kernel
theorem d3_21 : decode method_3_code 21 = .ok (.iconst 3, 1) := by decide +kernel
theorem d3_22 : decode method_3_code 22 = .ok (.if_icmp .ne 5, 3) := by decide +kernel
theorem d3_25 : decode method_3_code 25 = .ok (.iconst 1, 1) := by decide +kernel
theorem d3_26 : decode method_3_code 26 = .ok (.ireturn, 1) := by decide +kernel
theorem ef_rm3_3 (m : MethodId) (x0 : Int32) : entryFrame m #[(.int x0)] 1 = mkF m 0 #[.val (.int x0)] [] := by first | (simp [entryFrame, mkF, argsToLocals, Value.category]; done) | rfl
set_option maxRecDepth 65536 in
set_option maxHeartbeats 40000000 in
theorem rm3_3 (l : Launch) (Z : State) (a0 : Array Value) (hw : ∀ d ∈ tables_1, d.before a0 Z = true) (h0 : Heap) (n0 : Nat) :
    OMet l Z (⟨"com/example/graphwright/graphwright/cypher/RoleFollowsWithPinLaw", "expected", "(I)Z"⟩ : MethodName) method_3_code 1 (some .boolean) [] ({ frames := 0, cells := 0, slots := 0, locals := 0 } : Room) #[(.int (3 : Int32))] h0 (OPure (some (.int (1 : Int32))) h0 n0) := by
  refine OMet.of (plainFor_of_name pn_com_example_graphwright_graphwright_cypher_RoleFollowsWithPinLaw) ?_
  intro p e s m below meth c s₁ hx hby hml hnd hown hnm hret hlk hZ X0 e0
  replace hown : s.vm.findClass "com/example/graphwright/graphwright/cypher/RoleFollowsWithPinLaw" = some m.cls := hown
  replace hml : c.maxLocals = 1 := hml
  have N0 := Fr.nil n0
  rw [ef_rm3_3 m (3 : Int32)]
  refine OGo.st (B := s₁.setTop (mkF m 1 #[.val (.int (3 : Int32))] [(.int (3 : Int32))])) (fun _ k => XS.iloadN X0.here hx rfl (hb hby d3_0) rfl k) ?_
  refine OGo.st (B := s₁.setTop (mkF m 6 #[.val (.int (3 : Int32))] [])) (fun _ k => XS.ifYes X0.here hx rfl (pc0 := 1) (pc' := 6) rfl (hb hby d3_1) rfl (by decide) (by decide) (by decide) k) ?_
  refine OGo.st (B := s₁.setTop (mkF m 7 #[.val (.int (3 : Int32))] [(.int (3 : Int32))])) (fun _ k => XS.iloadN X0.here hx rfl (hb hby d3_6) rfl k) ?_
  refine OGo.st (B := s₁.setTop (mkF m 8 #[.val (.int (3 : Int32))] [(.int (1 : Int32)), (.int (3 : Int32))])) (fun _ k => XS.iconst X0.here hx rfl (hb hby d3_7) k) ?_
  refine OGo.st (B := s₁.setTop (mkF m 13 #[.val (.int (3 : Int32))] [])) (fun _ k => XS.icmpYes X0.here hx rfl (pc0 := 8) (pc' := 13) rfl (hb hby d3_8) rfl (by decide) (by decide) (by decide) k) ?_
  refine OGo.st (B := s₁.setTop (mkF m 14 #[.val (.int (3 : Int32))] [(.int (3 : Int32))])) (fun _ k => XS.iloadN X0.here hx rfl (hb hby d3_13) rfl k) ?_
  refine OGo.st (B := s₁.setTop (mkF m 15 #[.val (.int (3 : Int32))] [(.int (2 : Int32)), (.int (3 : Int32))])) (fun _ k => XS.iconst X0.here hx rfl (hb hby d3_14) k) ?_
  refine OGo.st (B := s₁.setTop (mkF m 20 #[.val (.int (3 : Int32))] [])) (fun _ k => XS.icmpYes X0.here hx rfl (pc0 := 15) (pc' := 20) rfl (hb hby d3_15) rfl (by decide) (by decide) (by decide) k) ?_
  refine OGo.st (B := s₁.setTop (mkF m 21 #[.val (.int (3 : Int32))] [(.int (3 : Int32))])) (fun _ k => XS.iloadN X0.here hx rfl (hb hby d3_20) rfl k) ?_
  refine OGo.st (B := s₁.setTop (mkF m 22 #[.val (.int (3 : Int32))] [(.int (3 : Int32)), (.int (3 : Int32))])) (fun _ k => XS.iconst X0.here hx rfl (hb hby d3_21) k) ?_
  refine OGo.st (B := s₁.setTop (mkF m 25 #[.val (.int (3 : Int32))] [])) (fun _ k => XS.icmpNo X0.here hx rfl (hb hby d3_22) rfl (by decide) k) ?_
  refine OGo.st (B := s₁.setTop (mkF m 26 #[.val (.int (3 : Int32))] [(.int (1 : Int32))])) (fun _ k => XS.iconst X0.here hx rfl (hb hby d3_25) k) ?_
  exact own_retZ X0 hx hret hlk (hb hby d3_26) ⟨rfl, N0, e0⟩ (by decide) (by decide)
theorem d3_27 : decode method_3_code 27 = .ok (.iload_n 0, 1) := by decide +kernel
theorem d3_28 : decode method_3_code 28 = .ok (.iconst 4, 1) := by decide +kernel
theorem d3_29 : decode method_3_code 29 = .ok (.if_icmp .ne 5, 3) := by decide +kernel
theorem d3_32 : decode method_3_code 32 = .ok (.iconst 0, 1) := by decide +kernel
theorem d3_33 : decode method_3_code 33 = .ok (.ireturn, 1) := by decide +kernel
theorem ef_rm3_4 (m : MethodId) (x0 : Int32) : entryFrame m #[(.int x0)] 1 = mkF m 0 #[.val (.int x0)] [] := by first | (simp [entryFrame, mkF, argsToLocals, Value.category]; done) | rfl
set_option maxRecDepth 65536 in
set_option maxHeartbeats 40000000 in
theorem rm3_4 (l : Launch) (Z : State) (a0 : Array Value) (hw : ∀ d ∈ tables_1, d.before a0 Z = true) (h0 : Heap) (n0 : Nat) :
    OMet l Z (⟨"com/example/graphwright/graphwright/cypher/RoleFollowsWithPinLaw", "expected", "(I)Z"⟩ : MethodName) method_3_code 1 (some .boolean) [] ({ frames := 0, cells := 0, slots := 0, locals := 0 } : Room) #[(.int (4 : Int32))] h0 (OPure (some (.int (0 : Int32))) h0 n0) := by
  refine OMet.of (plainFor_of_name pn_com_example_graphwright_graphwright_cypher_RoleFollowsWithPinLaw) ?_
  intro p e s m below meth c s₁ hx hby hml hnd hown hnm hret hlk hZ X0 e0
  replace hown : s.vm.findClass "com/example/graphwright/graphwright/cypher/RoleFollowsWithPinLaw" = some m.cls := hown
  replace hml : c.maxLocals = 1 := hml
  have N0 := Fr.nil n0
  rw [ef_rm3_4 m (4 : Int32)]
  refine OGo.st (B := s₁.setTop (mkF m 1 #[.val (.int (4 : Int32))] [(.int (4 : Int32))])) (fun _ k => XS.iloadN X0.here hx rfl (hb hby d3_0) rfl k) ?_
  refine OGo.st (B := s₁.setTop (mkF m 6 #[.val (.int (4 : Int32))] [])) (fun _ k => XS.ifYes X0.here hx rfl (pc0 := 1) (pc' := 6) rfl (hb hby d3_1) rfl (by decide) (by decide) (by decide) k) ?_
  refine OGo.st (B := s₁.setTop (mkF m 7 #[.val (.int (4 : Int32))] [(.int (4 : Int32))])) (fun _ k => XS.iloadN X0.here hx rfl (hb hby d3_6) rfl k) ?_
  refine OGo.st (B := s₁.setTop (mkF m 8 #[.val (.int (4 : Int32))] [(.int (1 : Int32)), (.int (4 : Int32))])) (fun _ k => XS.iconst X0.here hx rfl (hb hby d3_7) k) ?_
  refine OGo.st (B := s₁.setTop (mkF m 13 #[.val (.int (4 : Int32))] [])) (fun _ k => XS.icmpYes X0.here hx rfl (pc0 := 8) (pc' := 13) rfl (hb hby d3_8) rfl (by decide) (by decide) (by decide) k) ?_
  refine OGo.st (B := s₁.setTop (mkF m 14 #[.val (.int (4 : Int32))] [(.int (4 : Int32))])) (fun _ k => XS.iloadN X0.here hx rfl (hb hby d3_13) rfl k) ?_
  refine OGo.st (B := s₁.setTop (mkF m 15 #[.val (.int (4 : Int32))] [(.int (2 : Int32)), (.int (4 : Int32))])) (fun _ k => XS.iconst X0.here hx rfl (hb hby d3_14) k) ?_
  refine OGo.st (B := s₁.setTop (mkF m 20 #[.val (.int (4 : Int32))] [])) (fun _ k => XS.icmpYes X0.here hx rfl (pc0 := 15) (pc' := 20) rfl (hb hby d3_15) rfl (by decide) (by decide) (by decide) k) ?_
  refine OGo.st (B := s₁.setTop (mkF m 21 #[.val (.int (4 : Int32))] [(.int (4 : Int32))])) (fun _ k => XS.iloadN X0.here hx rfl (hb hby d3_20) rfl k) ?_
  refine OGo.st (B := s₁.setTop (mkF m 22 #[.val (.int (4 : Int32))] [(.int (3 : Int32)), (.int (4 : Int32))])) (fun _ k => XS.iconst X0.here hx rfl (hb hby d3_21) k) ?_
  refine OGo.st (B := s₁.setTop (mkF m 27 #[.val (.int (4 : Int32))] [])) (fun _ k => XS.icmpYes X0.here hx rfl (pc0 := 22) (pc' := 27) rfl (hb hby d3_22) rfl (by decide) (by decide) (by decide) k) ?_
  refine OGo.st (B := s₁.setTop (mkF m 28 #[.val (.int (4 : Int32))] [(.int (4 : Int32))])) (fun _ k => XS.iloadN X0.here hx rfl (hb hby d3_27) rfl k) ?_
  refine OGo.st (B := s₁.setTop (mkF m 29 #[.val (.int (4 : Int32))] [(.int (4 : Int32)), (.int (4 : Int32))])) (fun _ k => XS.iconst X0.here hx rfl (hb hby d3_28) k) ?_
  refine OGo.st (B := s₁.setTop (mkF m 32 #[.val (.int (4 : Int32))] [])) (fun _ k => XS.icmpNo X0.here hx rfl (hb hby d3_29) rfl (by decide) k) ?_
  refine OGo.st (B := s₁.setTop (mkF m 33 #[.val (.int (4 : Int32))] [(.int (0 : Int32))])) (fun _ k => XS.iconst X0.here hx rfl (hb hby d3_32) k) ?_
  exact own_retZ X0 hx hret hlk (hb hby d3_33) ⟨rfl, N0, e0⟩ (by decide) (by decide)
theorem d3_34 : decode method_3_code 34 = .ok (.iload_n 0, 1) := by decide +kernel
theorem d3_35 : decode method_3_code 35 = .ok (.iconst 5, 1) := by decide +kernel
theorem d3_36 : decode method_3_code 36 = .ok (.if_icmp .ne 5, 3) := by decide +kernel
theorem d3_39 : decode method_3_code 39 = .ok (.iconst 0, 1) := by decide +kernel
theorem d3_40 : decode method_3_code 40 = .ok (.ireturn, 1) := by decide +kernel
theorem ef_rm3_5 (m : MethodId) (x0 : Int32) : entryFrame m #[(.int x0)] 1 = mkF m 0 #[.val (.int x0)] [] := by first | (simp [entryFrame, mkF, argsToLocals, Value.category]; done) | rfl
set_option maxRecDepth 65536 in
set_option maxHeartbeats 40000000 in
theorem rm3_5 (l : Launch) (Z : State) (a0 : Array Value) (hw : ∀ d ∈ tables_1, d.before a0 Z = true) (h0 : Heap) (n0 : Nat) :
    OMet l Z (⟨"com/example/graphwright/graphwright/cypher/RoleFollowsWithPinLaw", "expected", "(I)Z"⟩ : MethodName) method_3_code 1 (some .boolean) [] ({ frames := 0, cells := 0, slots := 0, locals := 0 } : Room) #[(.int (5 : Int32))] h0 (OPure (some (.int (0 : Int32))) h0 n0) := by
  refine OMet.of (plainFor_of_name pn_com_example_graphwright_graphwright_cypher_RoleFollowsWithPinLaw) ?_
  intro p e s m below meth c s₁ hx hby hml hnd hown hnm hret hlk hZ X0 e0
  replace hown : s.vm.findClass "com/example/graphwright/graphwright/cypher/RoleFollowsWithPinLaw" = some m.cls := hown
  replace hml : c.maxLocals = 1 := hml
  have N0 := Fr.nil n0
  rw [ef_rm3_5 m (5 : Int32)]
  refine OGo.st (B := s₁.setTop (mkF m 1 #[.val (.int (5 : Int32))] [(.int (5 : Int32))])) (fun _ k => XS.iloadN X0.here hx rfl (hb hby d3_0) rfl k) ?_
  refine OGo.st (B := s₁.setTop (mkF m 6 #[.val (.int (5 : Int32))] [])) (fun _ k => XS.ifYes X0.here hx rfl (pc0 := 1) (pc' := 6) rfl (hb hby d3_1) rfl (by decide) (by decide) (by decide) k) ?_
  refine OGo.st (B := s₁.setTop (mkF m 7 #[.val (.int (5 : Int32))] [(.int (5 : Int32))])) (fun _ k => XS.iloadN X0.here hx rfl (hb hby d3_6) rfl k) ?_
  refine OGo.st (B := s₁.setTop (mkF m 8 #[.val (.int (5 : Int32))] [(.int (1 : Int32)), (.int (5 : Int32))])) (fun _ k => XS.iconst X0.here hx rfl (hb hby d3_7) k) ?_
  refine OGo.st (B := s₁.setTop (mkF m 13 #[.val (.int (5 : Int32))] [])) (fun _ k => XS.icmpYes X0.here hx rfl (pc0 := 8) (pc' := 13) rfl (hb hby d3_8) rfl (by decide) (by decide) (by decide) k) ?_
  refine OGo.st (B := s₁.setTop (mkF m 14 #[.val (.int (5 : Int32))] [(.int (5 : Int32))])) (fun _ k => XS.iloadN X0.here hx rfl (hb hby d3_13) rfl k) ?_
  refine OGo.st (B := s₁.setTop (mkF m 15 #[.val (.int (5 : Int32))] [(.int (2 : Int32)), (.int (5 : Int32))])) (fun _ k => XS.iconst X0.here hx rfl (hb hby d3_14) k) ?_
  refine OGo.st (B := s₁.setTop (mkF m 20 #[.val (.int (5 : Int32))] [])) (fun _ k => XS.icmpYes X0.here hx rfl (pc0 := 15) (pc' := 20) rfl (hb hby d3_15) rfl (by decide) (by decide) (by decide) k) ?_
  refine OGo.st (B := s₁.setTop (mkF m 21 #[.val (.int (5 : Int32))] [(.int (5 : Int32))])) (fun _ k => XS.iloadN X0.here hx rfl (hb hby d3_20) rfl k) ?_
  refine OGo.st (B := s₁.setTop (mkF m 22 #[.val (.int (5 : Int32))] [(.int (3 : Int32)), (.int (5 : Int32))])) (fun _ k => XS.iconst X0.here hx rfl (hb hby d3_21) k) ?_
  refine OGo.st (B := s₁.setTop (mkF m 27 #[.val (.int (5 : Int32))] [])) (fun _ k => XS.icmpYes X0.here hx rfl (pc0 := 22) (pc' := 27) rfl (hb hby d3_22) rfl (by decide) (by decide) (by decide) k) ?_
  refine OGo.st (B := s₁.setTop (mkF m 28 #[.val (.int (5 : Int32))] [(.int (5 : Int32))])) (fun _ k => XS.iloadN X0.here hx rfl (hb hby d3_27) rfl k) ?_
  refine OGo.st (B := s₁.setTop (mkF m 29 #[.val (.int (5 : Int32))] [(.int (4 : Int32)), (.int (5 : Int32))])) (fun _ k => XS.iconst X0.here hx rfl (hb hby d3_28) k) ?_
  refine OGo.st (B := s₁.setTop (mkF m 34 #[.val (.int (5 : Int32))] [])) (fun _ k => XS.icmpYes X0.here hx rfl (pc0 := 29) (pc' := 34) rfl (hb hby d3_29) rfl (by decide) (by decide) (by decide) k) ?_
  refine OGo.st (B := s₁.setTop (mkF m 35 #[.val (.int (5 : Int32))] [(.int (5 : Int32))])) (fun _ k => XS.iloadN X0.here hx rfl (hb hby d3_34) rfl k) ?_
  refine OGo.st (B := s₁.setTop (mkF m 36 #[.val (.int (5 : Int32))] [(.int (5 : Int32)), (.int (5 : Int32))])) (fun _ k => XS.iconst X0.here hx rfl (hb hby d3_35) k) ?_
  refine OGo.st (B := s₁.setTop (mkF m 39 #[.val (.int (5 : Int32))] [])) (fun _ k => XS.icmpNo X0.here hx rfl (hb hby d3_36) rfl (by decide) k) ?_
  refine OGo.st (B := s₁.setTop (mkF m 40 #[.val (.int (5 : Int32))] [(.int (0 : Int32))])) (fun _ k => XS.iconst X0.here hx rfl (hb hby d3_39) k) ?_
  exact own_retZ X0 hx hret hlk (hb hby d3_40) ⟨rfl, N0, e0⟩ (by decide) (by decide)
theorem d3_41 : decode method_3_code 41 = .ok (.iconst 0, 1) := by decide +kernel
theorem d3_42 : decode method_3_code 42 = .ok (.ireturn, 1) := by decide +kernel
theorem ef_rm3_6 (m : MethodId) (x0 : Int32) : entryFrame m #[(.int x0)] 1 = mkF m 0 #[.val (.int x0)] [] := by first | (simp [entryFrame, mkF, argsToLocals, Value.category]; done) | rfl
set_option maxRecDepth 65536 in
set_option maxHeartbeats 40000000 in
theorem rm3_6 (l : Launch) (Z : State) (a0 : Array Value) (hw : ∀ d ∈ tables_1, d.before a0 Z = true) (h0 : Heap) (n0 : Nat) :
    OMet l Z (⟨"com/example/graphwright/graphwright/cypher/RoleFollowsWithPinLaw", "expected", "(I)Z"⟩ : MethodName) method_3_code 1 (some .boolean) [] ({ frames := 0, cells := 0, slots := 0, locals := 0 } : Room) #[(.int (6 : Int32))] h0 (OPure (some (.int (0 : Int32))) h0 n0) := by
  refine OMet.of (plainFor_of_name pn_com_example_graphwright_graphwright_cypher_RoleFollowsWithPinLaw) ?_
  intro p e s m below meth c s₁ hx hby hml hnd hown hnm hret hlk hZ X0 e0
  replace hown : s.vm.findClass "com/example/graphwright/graphwright/cypher/RoleFollowsWithPinLaw" = some m.cls := hown
  replace hml : c.maxLocals = 1 := hml
  have N0 := Fr.nil n0
  rw [ef_rm3_6 m (6 : Int32)]
  refine OGo.st (B := s₁.setTop (mkF m 1 #[.val (.int (6 : Int32))] [(.int (6 : Int32))])) (fun _ k => XS.iloadN X0.here hx rfl (hb hby d3_0) rfl k) ?_
  refine OGo.st (B := s₁.setTop (mkF m 6 #[.val (.int (6 : Int32))] [])) (fun _ k => XS.ifYes X0.here hx rfl (pc0 := 1) (pc' := 6) rfl (hb hby d3_1) rfl (by decide) (by decide) (by decide) k) ?_
  refine OGo.st (B := s₁.setTop (mkF m 7 #[.val (.int (6 : Int32))] [(.int (6 : Int32))])) (fun _ k => XS.iloadN X0.here hx rfl (hb hby d3_6) rfl k) ?_
  refine OGo.st (B := s₁.setTop (mkF m 8 #[.val (.int (6 : Int32))] [(.int (1 : Int32)), (.int (6 : Int32))])) (fun _ k => XS.iconst X0.here hx rfl (hb hby d3_7) k) ?_
  refine OGo.st (B := s₁.setTop (mkF m 13 #[.val (.int (6 : Int32))] [])) (fun _ k => XS.icmpYes X0.here hx rfl (pc0 := 8) (pc' := 13) rfl (hb hby d3_8) rfl (by decide) (by decide) (by decide) k) ?_
  refine OGo.st (B := s₁.setTop (mkF m 14 #[.val (.int (6 : Int32))] [(.int (6 : Int32))])) (fun _ k => XS.iloadN X0.here hx rfl (hb hby d3_13) rfl k) ?_
  refine OGo.st (B := s₁.setTop (mkF m 15 #[.val (.int (6 : Int32))] [(.int (2 : Int32)), (.int (6 : Int32))])) (fun _ k => XS.iconst X0.here hx rfl (hb hby d3_14) k) ?_
  refine OGo.st (B := s₁.setTop (mkF m 20 #[.val (.int (6 : Int32))] [])) (fun _ k => XS.icmpYes X0.here hx rfl (pc0 := 15) (pc' := 20) rfl (hb hby d3_15) rfl (by decide) (by decide) (by decide) k) ?_
  refine OGo.st (B := s₁.setTop (mkF m 21 #[.val (.int (6 : Int32))] [(.int (6 : Int32))])) (fun _ k => XS.iloadN X0.here hx rfl (hb hby d3_20) rfl k) ?_
  refine OGo.st (B := s₁.setTop (mkF m 22 #[.val (.int (6 : Int32))] [(.int (3 : Int32)), (.int (6 : Int32))])) (fun _ k => XS.iconst X0.here hx rfl (hb hby d3_21) k) ?_
  refine OGo.st (B := s₁.setTop (mkF m 27 #[.val (.int (6 : Int32))] [])) (fun _ k => XS.icmpYes X0.here hx rfl (pc0 := 22) (pc' := 27) rfl (hb hby d3_22) rfl (by decide) (by decide) (by decide) k) ?_
  refine OGo.st (B := s₁.setTop (mkF m 28 #[.val (.int (6 : Int32))] [(.int (6 : Int32))])) (fun _ k => XS.iloadN X0.here hx rfl (hb hby d3_27) rfl k) ?_
  refine OGo.st (B := s₁.setTop (mkF m 29 #[.val (.int (6 : Int32))] [(.int (4 : Int32)), (.int (6 : Int32))])) (fun _ k => XS.iconst X0.here hx rfl (hb hby d3_28) k) ?_
  refine OGo.st (B := s₁.setTop (mkF m 34 #[.val (.int (6 : Int32))] [])) (fun _ k => XS.icmpYes X0.here hx rfl (pc0 := 29) (pc' := 34) rfl (hb hby d3_29) rfl (by decide) (by decide) (by decide) k) ?_
  refine OGo.st (B := s₁.setTop (mkF m 35 #[.val (.int (6 : Int32))] [(.int (6 : Int32))])) (fun _ k => XS.iloadN X0.here hx rfl (hb hby d3_34) rfl k) ?_
  refine OGo.st (B := s₁.setTop (mkF m 36 #[.val (.int (6 : Int32))] [(.int (5 : Int32)), (.int (6 : Int32))])) (fun _ k => XS.iconst X0.here hx rfl (hb hby d3_35) k) ?_
  refine OGo.st (B := s₁.setTop (mkF m 41 #[.val (.int (6 : Int32))] [])) (fun _ k => XS.icmpYes X0.here hx rfl (pc0 := 36) (pc' := 41) rfl (hb hby d3_36) rfl (by decide) (by decide) (by decide) k) ?_
  refine OGo.st (B := s₁.setTop (mkF m 42 #[.val (.int (6 : Int32))] [(.int (0 : Int32))])) (fun _ k => XS.iconst X0.here hx rfl (hb hby d3_41) k) ?_
  exact own_retZ X0 hx hret hlk (hb hby d3_42) ⟨rfl, N0, e0⟩ (by decide) (by decide)
theorem pd_0 : parseMethodDescriptor "(I)Lcom/example/graphwright/graphwright/cypher/Clause$Role;" = some ⟨[.int], some (.object "com/example/graphwright/graphwright/cypher/Clause$Role")⟩ := by decide +kernel
theorem pd_1 : parseMethodDescriptor "()Z" = some ⟨[], some .boolean⟩ := by decide +kernel
theorem pd_2 : parseMethodDescriptor "(I)Z" = some ⟨[.int], some .boolean⟩ := by decide +kernel
theorem ef_rm0 (m : MethodId) (x0 : Int32) : entryFrame m #[(.int x0)] maxLocals = mkF m 0 #[.val (.int x0), .unset, .unset] [] := by first | (simp [entryFrame, mkF, argsToLocals, Value.category, maxLocals]; done) | rfl
set_option maxRecDepth 65536 in
set_option maxHeartbeats 40000000 in
theorem rm0 (l : Launch) (Z : State) (a0 : Array Value) (hw : ∀ d ∈ tables_1, d.before a0 Z = true) (p1 : Int32) (w_PROJECTS w_READS w_MATCHES w_CALLS w_MERGES w_MAKES w_CHANGES : Addr) (h0 : Heap) (n0 : Nat) (S_PROJECTS : Sta Z h0 "com/example/graphwright/graphwright/cypher/Clause$Role" "PROJECTS" "Lcom/example/graphwright/graphwright/cypher/Clause$Role;" (.ref w_PROJECTS)) (S_READS : Sta Z h0 "com/example/graphwright/graphwright/cypher/Clause$Role" "READS" "Lcom/example/graphwright/graphwright/cypher/Clause$Role;" (.ref w_READS)) (S_MATCHES : Sta Z h0 "com/example/graphwright/graphwright/cypher/Clause$Role" "MATCHES" "Lcom/example/graphwright/graphwright/cypher/Clause$Role;" (.ref w_MATCHES)) (S_CALLS : Sta Z h0 "com/example/graphwright/graphwright/cypher/Clause$Role" "CALLS" "Lcom/example/graphwright/graphwright/cypher/Clause$Role;" (.ref w_CALLS)) (S_MERGES : Sta Z h0 "com/example/graphwright/graphwright/cypher/Clause$Role" "MERGES" "Lcom/example/graphwright/graphwright/cypher/Clause$Role;" (.ref w_MERGES)) (S_MAKES : Sta Z h0 "com/example/graphwright/graphwright/cypher/Clause$Role" "MAKES" "Lcom/example/graphwright/graphwright/cypher/Clause$Role;" (.ref w_MAKES)) (S_CHANGES : Sta Z h0 "com/example/graphwright/graphwright/cypher/Clause$Role" "CHANGES" "Lcom/example/graphwright/graphwright/cypher/Clause$Role;" (.ref w_CHANGES)) (E_PROJECTS : Exa Z h0 w_PROJECTS "com/example/graphwright/graphwright/cypher/Clause$Role") (E_READS : Exa Z h0 w_READS "com/example/graphwright/graphwright/cypher/Clause$Role") (E_MATCHES : Exa Z h0 w_MATCHES "com/example/graphwright/graphwright/cypher/Clause$Role") (E_CALLS : Exa Z h0 w_CALLS "com/example/graphwright/graphwright/cypher/Clause$Role") (E_MERGES : Exa Z h0 w_MERGES "com/example/graphwright/graphwright/cypher/Clause$Role") (E_MAKES : Exa Z h0 w_MAKES "com/example/graphwright/graphwright/cypher/Clause$Role") (E_CHANGES : Exa Z h0 w_CHANGES "com/example/graphwright/graphwright/cypher/Clause$Role") (n0_1 : w_PROJECTS ≠ w_READS) (n0_2 : w_PROJECTS ≠ w_MATCHES) (n0_3 : w_PROJECTS ≠ w_CALLS) (n0_4 : w_PROJECTS ≠ w_MERGES) (n0_5 : w_PROJECTS ≠ w_MAKES) (n0_6 : w_PROJECTS ≠ w_CHANGES) (n1_0 : w_READS ≠ w_PROJECTS) (n1_2 : w_READS ≠ w_MATCHES) (n1_3 : w_READS ≠ w_CALLS) (n1_4 : w_READS ≠ w_MERGES) (n1_5 : w_READS ≠ w_MAKES) (n1_6 : w_READS ≠ w_CHANGES) (n2_0 : w_MATCHES ≠ w_PROJECTS) (n2_1 : w_MATCHES ≠ w_READS) (n2_3 : w_MATCHES ≠ w_CALLS) (n2_4 : w_MATCHES ≠ w_MERGES) (n2_5 : w_MATCHES ≠ w_MAKES) (n2_6 : w_MATCHES ≠ w_CHANGES) (n3_0 : w_CALLS ≠ w_PROJECTS) (n3_1 : w_CALLS ≠ w_READS) (n3_2 : w_CALLS ≠ w_MATCHES) (n3_4 : w_CALLS ≠ w_MERGES) (n3_5 : w_CALLS ≠ w_MAKES) (n3_6 : w_CALLS ≠ w_CHANGES) (n4_0 : w_MERGES ≠ w_PROJECTS) (n4_1 : w_MERGES ≠ w_READS) (n4_2 : w_MERGES ≠ w_MATCHES) (n4_3 : w_MERGES ≠ w_CALLS) (n4_5 : w_MERGES ≠ w_MAKES) (n4_6 : w_MERGES ≠ w_CHANGES) (n5_0 : w_MAKES ≠ w_PROJECTS) (n5_1 : w_MAKES ≠ w_READS) (n5_2 : w_MAKES ≠ w_MATCHES) (n5_3 : w_MAKES ≠ w_CALLS) (n5_4 : w_MAKES ≠ w_MERGES) (n5_6 : w_MAKES ≠ w_CHANGES) (n6_0 : w_CHANGES ≠ w_PROJECTS) (n6_1 : w_CHANGES ≠ w_READS) (n6_2 : w_CHANGES ≠ w_MATCHES) (n6_3 : w_CHANGES ≠ w_CALLS) (n6_4 : w_CHANGES ≠ w_MERGES) (n6_5 : w_CHANGES ≠ w_MAKES) :
    OMet l Z x code maxLocals ret tables_1 room_1 #[(.int p1)] h0 (fun v _ L => v = some (.int (1 : Int32)) ∧ Fr n0 L) := by
  refine OMet.of (plainFor_of_name pn_com_example_graphwright_graphwright_cypher_RoleFollowsWithPinLaw) ?_
  intro p e s m below meth c s₁ hx hby hml hnd hown hnm hret hlk hZ X0 e0
  replace hown : s.vm.findClass "com/example/graphwright/graphwright/cypher/RoleFollowsWithPinLaw" = some m.cls := hown
  replace hml : c.maxLocals = 3 := hml
  have N0 := Fr.nil n0
  replace hret : meth.sig.returnType = some .boolean := hret
  rw [ef_rm0 m p1]
  refine OGo.st (B := s₁.setTop (mkF m 1 #[.val (.int p1), .unset, .unset] [(.int p1)])) (fun _ k => XS.iloadN X0.here hx rfl (hb hby at_0) rfl k) ?_
  refine OGo.st (B := s₁.setTop (mkF m 3 #[.val (.int p1), .unset, .unset] [(.int (2147483647 : Int32)), (.int p1)])) (X0.ldcInt hx hown (mvT hZ (hw _ (List.mem_of_getElem? (i := 0) rfl))) (g := (mkF m 1 #[.val (.int p1), .unset, .unset] [(.int p1)])) rfl (hb hby at_1)) ?_
  refine OGo.st (B := s₁.setTop (mkF m 4 #[.val (.int p1), .unset, .unset] [(.int (p1 &&& (2147483647 : Int32)))])) (fun _ k => XS.iand X0.here hx rfl (hb hby at_3) rfl k) ?_
  refine OGo.st (B := s₁.setTop (mkF m 6 #[.val (.int p1), .unset, .unset] [(.int (7 : Int32)), (.int (p1 &&& (2147483647 : Int32)))])) (fun _ k => XS.bipush X0.here hx rfl (hb hby at_4) k) ?_
  refine OGo.st (B := s₁.setTop (mkF m 7 #[.val (.int p1), .unset, .unset] [(.int ((p1 &&& (2147483647 : Int32)) % (7 : Int32)))])) (fun _ k => iremM X0 hx rfl (hb hby at_6) rfl (by decide) k) ?_
  refine OGo.st (B := s₁.setTop (mkF m 8 #[.val (.int p1), .val (.int ((p1 &&& (2147483647 : Int32)) % (7 : Int32))), .unset] [])) (fun _ k => XS.istoreN X0.here hx rfl (hb hby at_7) rfl (l' := #[.val (.int p1), .val (.int ((p1 &&& (2147483647 : Int32)) % (7 : Int32))), .unset]) rfl k) ?_
  refine OGo.st (B := s₁.setTop (mkF m 9 #[.val (.int p1), .val (.int ((p1 &&& (2147483647 : Int32)) % (7 : Int32))), .unset] [(.int ((p1 &&& (2147483647 : Int32)) % (7 : Int32)))])) (fun _ k => XS.iloadN X0.here hx rfl (hb hby at_8) rfl k) ?_
  rcases own_rem7 p1 with hk | hk | hk | hk | hk | hk | hk
  · skip
    rw [hk]
    obtain ⟨v1, T1, L1, X1, hQ1, st1⟩ := (rm1_0 l Z a0 hw w_PROJECTS h0 n0 S_PROJECTS).static (W := 0) X0 hx hZ hown (hw _ (List.mem_of_getElem? (i := 1) rfl)) (hw _ (List.mem_of_getElem? (i := 2) rfl)) (hw _ (List.mem_of_getElem? (i := 3) rfl)) (hw _ (List.mem_of_getElem? (i := 4) rfl)) (by decide) (by decide) (by decide) e0 (by decide) (by decide) (g := (mkF m 9 #[.val (.int p1), .val (.int (0 : Int32)), .unset] [(.int (0 : Int32))])) rfl (by rw [hml]; rfl) (argsL := [(.int (0 : Int32))]) (rest := []) rfl (lenOf pd_0 rfl) rfl (by show 2 * 0 + _ ≤ _; exact Nat.le_of_eq rfl) (hb hby at_9)
    obtain ⟨rfl, N1q, e1⟩ := hQ1
    have N1 := Fr.app N0 N1q
    refine OGo.st (B := T1.setTop (mkF m 12 #[.val (.int p1), .val (.int (0 : Int32)), .unset] [(.ref w_PROJECTS)])) st1 ?_
    refine OGo.st (B := T1.setTop (mkF m 13 #[.val (.int p1), .val (.int (0 : Int32)), .val (.ref w_PROJECTS)] [])) (fun _ k => XS.astoreN X1.here hx rfl (hb hby at_12) rfl rfl (l' := #[.val (.int p1), .val (.int (0 : Int32)), .val (.ref w_PROJECTS)]) rfl k) ?_
    refine OGo.st (B := T1.setTop (mkF m 14 #[.val (.int p1), .val (.int (0 : Int32)), .val (.ref w_PROJECTS)] [(.ref w_PROJECTS)])) (fun _ k => XS.aloadN X1.here hx rfl (hb hby at_13) rfl rfl k) ?_
    obtain ⟨v2, T2, L2, X2, hQ2, st2⟩ := (rm2 l Z a0 hw w_PROJECTS w_READS w_MATCHES w_CALLS (0 : Int32) h0 n0 S_READS S_MATCHES S_CALLS (by simp [n0_1, n0_2, n0_3, n0_4, n0_5, n0_6, n1_0, n1_2, n1_3, n1_4, n1_5, n1_6, n2_0, n2_1, n2_3, n2_4, n2_5, n2_6, n3_0, n3_1, n3_2, n3_4, n3_5, n3_6, n4_0, n4_1, n4_2, n4_3, n4_5, n4_6, n5_0, n5_1, n5_2, n5_3, n5_4, n5_6, n6_0, n6_1, n6_2, n6_3, n6_4, n6_5])).virt (W := 0) X1 hx hZ hown (hw _ (List.mem_of_getElem? (i := 8) rfl)) (hw _ (List.mem_of_getElem? (i := 9) rfl)) (nf_sel hZ (hw _ (List.mem_of_getElem? (i := 11) rfl))) (hw _ (List.mem_of_getElem? (i := 11) rfl)) (hw _ (List.mem_of_getElem? (i := 10) rfl)) (hw _ (List.mem_of_getElem? (i := 6) rfl)) (hw _ (List.mem_of_getElem? (i := 12) rfl)) (by decide) (by decide) (by decide) e1 (by decide) (by decide) (g := (mkF m 14 #[.val (.int p1), .val (.int (0 : Int32)), .val (.ref w_PROJECTS)] [(.ref w_PROJECTS)])) rfl (by rw [hml]; rfl) E_PROJECTS (argsL := []) (rest := []) rfl (lenOf pd_1 rfl) rfl (by show 2 * 0 + _ ≤ _; exact Nat.le_of_eq rfl) (hb hby at_14)
    obtain ⟨rfl, N2q, e2⟩ := hQ2
    have N2 := Fr.app N1 N2q
    refine OGo.st (B := T2.setTop (mkF m 17 #[.val (.int p1), .val (.int (0 : Int32)), .val (.ref w_PROJECTS)] [(.int (0 : Int32))])) st2 ?_
    refine OGo.st (B := T2.setTop (mkF m 18 #[.val (.int p1), .val (.int (0 : Int32)), .val (.ref w_PROJECTS)] [(.int (0 : Int32)), (.int (0 : Int32))])) (fun _ k => XS.iloadN X2.here hx rfl (hb hby at_17) rfl k) ?_
    obtain ⟨v3, T3, L3, X3, hQ3, st3⟩ := (rm3_0 l Z a0 hw h0 n0).static (W := 1) X2 hx hZ hown (hw _ (List.mem_of_getElem? (i := 19) rfl)) (hw _ (List.mem_of_getElem? (i := 20) rfl)) (hw _ (List.mem_of_getElem? (i := 3) rfl)) (hw _ (List.mem_of_getElem? (i := 21) rfl)) (by decide) (by decide) (by decide) e2 (by decide) (by decide) (g := (mkF m 18 #[.val (.int p1), .val (.int (0 : Int32)), .val (.ref w_PROJECTS)] [(.int (0 : Int32)), (.int (0 : Int32))])) rfl (by rw [hml]; rfl) (argsL := [(.int (0 : Int32))]) (rest := [(.int (0 : Int32))]) rfl (lenOf pd_2 rfl) rfl (by show 2 * 0 + _ ≤ _; exact Nat.le_of_eq rfl) (hb hby at_18)
    obtain ⟨rfl, N3q, e3⟩ := hQ3
    have N3 := Fr.app N2 N3q
    refine OGo.st (B := T3.setTop (mkF m 21 #[.val (.int p1), .val (.int (0 : Int32)), .val (.ref w_PROJECTS)] [(.int (0 : Int32)), (.int (0 : Int32))])) st3 ?_
    refine OGo.st (B := T3.setTop (mkF m 24 #[.val (.int p1), .val (.int (0 : Int32)), .val (.ref w_PROJECTS)] [])) (fun _ k => XS.icmpNo X3.here hx rfl (hb hby at_21) rfl (by decide) k) ?_
    refine OGo.st (B := T3.setTop (mkF m 25 #[.val (.int p1), .val (.int (0 : Int32)), .val (.ref w_PROJECTS)] [(.int (1 : Int32))])) (fun _ k => XS.iconst X3.here hx rfl (hb hby at_24) k) ?_
    refine OGo.st (B := T3.setTop (mkF m 29 #[.val (.int p1), .val (.int (0 : Int32)), .val (.ref w_PROJECTS)] [(.int (1 : Int32))])) (fun _ k => XS.goto X3.here hx rfl (pc0 := 25) (pc' := 29) rfl (hb hby at_25) (by decide) (by decide) k) ?_
    exact own_retZ X3 hx hret hlk (hb hby at_29) ⟨rfl, N3⟩ (by decide) (by decide)
  · skip
    rw [hk]
    obtain ⟨v4, T4, L4, X4, hQ4, st4⟩ := (rm1_1 l Z a0 hw w_READS h0 n0 S_READS).static (W := 0) X0 hx hZ hown (hw _ (List.mem_of_getElem? (i := 1) rfl)) (hw _ (List.mem_of_getElem? (i := 2) rfl)) (hw _ (List.mem_of_getElem? (i := 3) rfl)) (hw _ (List.mem_of_getElem? (i := 4) rfl)) (by decide) (by decide) (by decide) e0 (by decide) (by decide) (g := (mkF m 9 #[.val (.int p1), .val (.int (1 : Int32)), .unset] [(.int (1 : Int32))])) rfl (by rw [hml]; rfl) (argsL := [(.int (1 : Int32))]) (rest := []) rfl (lenOf pd_0 rfl) rfl (by show 2 * 0 + _ ≤ _; exact Nat.le_of_eq rfl) (hb hby at_9)
    obtain ⟨rfl, N4q, e4⟩ := hQ4
    have N4 := Fr.app N0 N4q
    refine OGo.st (B := T4.setTop (mkF m 12 #[.val (.int p1), .val (.int (1 : Int32)), .unset] [(.ref w_READS)])) st4 ?_
    refine OGo.st (B := T4.setTop (mkF m 13 #[.val (.int p1), .val (.int (1 : Int32)), .val (.ref w_READS)] [])) (fun _ k => XS.astoreN X4.here hx rfl (hb hby at_12) rfl rfl (l' := #[.val (.int p1), .val (.int (1 : Int32)), .val (.ref w_READS)]) rfl k) ?_
    refine OGo.st (B := T4.setTop (mkF m 14 #[.val (.int p1), .val (.int (1 : Int32)), .val (.ref w_READS)] [(.ref w_READS)])) (fun _ k => XS.aloadN X4.here hx rfl (hb hby at_13) rfl rfl k) ?_
    obtain ⟨v5, T5, L5, X5, hQ5, st5⟩ := (rm2 l Z a0 hw w_READS w_READS w_MATCHES w_CALLS (1 : Int32) h0 n0 S_READS S_MATCHES S_CALLS (by simp [n0_1, n0_2, n0_3, n0_4, n0_5, n0_6, n1_0, n1_2, n1_3, n1_4, n1_5, n1_6, n2_0, n2_1, n2_3, n2_4, n2_5, n2_6, n3_0, n3_1, n3_2, n3_4, n3_5, n3_6, n4_0, n4_1, n4_2, n4_3, n4_5, n4_6, n5_0, n5_1, n5_2, n5_3, n5_4, n5_6, n6_0, n6_1, n6_2, n6_3, n6_4, n6_5])).virt (W := 0) X4 hx hZ hown (hw _ (List.mem_of_getElem? (i := 8) rfl)) (hw _ (List.mem_of_getElem? (i := 9) rfl)) (nf_sel hZ (hw _ (List.mem_of_getElem? (i := 11) rfl))) (hw _ (List.mem_of_getElem? (i := 11) rfl)) (hw _ (List.mem_of_getElem? (i := 10) rfl)) (hw _ (List.mem_of_getElem? (i := 6) rfl)) (hw _ (List.mem_of_getElem? (i := 12) rfl)) (by decide) (by decide) (by decide) e4 (by decide) (by decide) (g := (mkF m 14 #[.val (.int p1), .val (.int (1 : Int32)), .val (.ref w_READS)] [(.ref w_READS)])) rfl (by rw [hml]; rfl) E_READS (argsL := []) (rest := []) rfl (lenOf pd_1 rfl) rfl (by show 2 * 0 + _ ≤ _; exact Nat.le_of_eq rfl) (hb hby at_14)
    obtain ⟨rfl, N5q, e5⟩ := hQ5
    have N5 := Fr.app N4 N5q
    refine OGo.st (B := T5.setTop (mkF m 17 #[.val (.int p1), .val (.int (1 : Int32)), .val (.ref w_READS)] [(.int (1 : Int32))])) st5 ?_
    refine OGo.st (B := T5.setTop (mkF m 18 #[.val (.int p1), .val (.int (1 : Int32)), .val (.ref w_READS)] [(.int (1 : Int32)), (.int (1 : Int32))])) (fun _ k => XS.iloadN X5.here hx rfl (hb hby at_17) rfl k) ?_
    obtain ⟨v6, T6, L6, X6, hQ6, st6⟩ := (rm3_1 l Z a0 hw h0 n0).static (W := 1) X5 hx hZ hown (hw _ (List.mem_of_getElem? (i := 19) rfl)) (hw _ (List.mem_of_getElem? (i := 20) rfl)) (hw _ (List.mem_of_getElem? (i := 3) rfl)) (hw _ (List.mem_of_getElem? (i := 21) rfl)) (by decide) (by decide) (by decide) e5 (by decide) (by decide) (g := (mkF m 18 #[.val (.int p1), .val (.int (1 : Int32)), .val (.ref w_READS)] [(.int (1 : Int32)), (.int (1 : Int32))])) rfl (by rw [hml]; rfl) (argsL := [(.int (1 : Int32))]) (rest := [(.int (1 : Int32))]) rfl (lenOf pd_2 rfl) rfl (by show 2 * 0 + _ ≤ _; exact Nat.le_of_eq rfl) (hb hby at_18)
    obtain ⟨rfl, N6q, e6⟩ := hQ6
    have N6 := Fr.app N5 N6q
    refine OGo.st (B := T6.setTop (mkF m 21 #[.val (.int p1), .val (.int (1 : Int32)), .val (.ref w_READS)] [(.int (1 : Int32)), (.int (1 : Int32))])) st6 ?_
    refine OGo.st (B := T6.setTop (mkF m 24 #[.val (.int p1), .val (.int (1 : Int32)), .val (.ref w_READS)] [])) (fun _ k => XS.icmpNo X6.here hx rfl (hb hby at_21) rfl (by decide) k) ?_
    refine OGo.st (B := T6.setTop (mkF m 25 #[.val (.int p1), .val (.int (1 : Int32)), .val (.ref w_READS)] [(.int (1 : Int32))])) (fun _ k => XS.iconst X6.here hx rfl (hb hby at_24) k) ?_
    refine OGo.st (B := T6.setTop (mkF m 29 #[.val (.int p1), .val (.int (1 : Int32)), .val (.ref w_READS)] [(.int (1 : Int32))])) (fun _ k => XS.goto X6.here hx rfl (pc0 := 25) (pc' := 29) rfl (hb hby at_25) (by decide) (by decide) k) ?_
    exact own_retZ X6 hx hret hlk (hb hby at_29) ⟨rfl, N6⟩ (by decide) (by decide)
  · skip
    rw [hk]
    obtain ⟨v7, T7, L7, X7, hQ7, st7⟩ := (rm1_2 l Z a0 hw w_MATCHES h0 n0 S_MATCHES).static (W := 0) X0 hx hZ hown (hw _ (List.mem_of_getElem? (i := 1) rfl)) (hw _ (List.mem_of_getElem? (i := 2) rfl)) (hw _ (List.mem_of_getElem? (i := 3) rfl)) (hw _ (List.mem_of_getElem? (i := 4) rfl)) (by decide) (by decide) (by decide) e0 (by decide) (by decide) (g := (mkF m 9 #[.val (.int p1), .val (.int (2 : Int32)), .unset] [(.int (2 : Int32))])) rfl (by rw [hml]; rfl) (argsL := [(.int (2 : Int32))]) (rest := []) rfl (lenOf pd_0 rfl) rfl (by show 2 * 0 + _ ≤ _; exact Nat.le_of_eq rfl) (hb hby at_9)
    obtain ⟨rfl, N7q, e7⟩ := hQ7
    have N7 := Fr.app N0 N7q
    refine OGo.st (B := T7.setTop (mkF m 12 #[.val (.int p1), .val (.int (2 : Int32)), .unset] [(.ref w_MATCHES)])) st7 ?_
    refine OGo.st (B := T7.setTop (mkF m 13 #[.val (.int p1), .val (.int (2 : Int32)), .val (.ref w_MATCHES)] [])) (fun _ k => XS.astoreN X7.here hx rfl (hb hby at_12) rfl rfl (l' := #[.val (.int p1), .val (.int (2 : Int32)), .val (.ref w_MATCHES)]) rfl k) ?_
    refine OGo.st (B := T7.setTop (mkF m 14 #[.val (.int p1), .val (.int (2 : Int32)), .val (.ref w_MATCHES)] [(.ref w_MATCHES)])) (fun _ k => XS.aloadN X7.here hx rfl (hb hby at_13) rfl rfl k) ?_
    obtain ⟨v8, T8, L8, X8, hQ8, st8⟩ := (rm2 l Z a0 hw w_MATCHES w_READS w_MATCHES w_CALLS (1 : Int32) h0 n0 S_READS S_MATCHES S_CALLS (by simp [n0_1, n0_2, n0_3, n0_4, n0_5, n0_6, n1_0, n1_2, n1_3, n1_4, n1_5, n1_6, n2_0, n2_1, n2_3, n2_4, n2_5, n2_6, n3_0, n3_1, n3_2, n3_4, n3_5, n3_6, n4_0, n4_1, n4_2, n4_3, n4_5, n4_6, n5_0, n5_1, n5_2, n5_3, n5_4, n5_6, n6_0, n6_1, n6_2, n6_3, n6_4, n6_5])).virt (W := 0) X7 hx hZ hown (hw _ (List.mem_of_getElem? (i := 8) rfl)) (hw _ (List.mem_of_getElem? (i := 9) rfl)) (nf_sel hZ (hw _ (List.mem_of_getElem? (i := 11) rfl))) (hw _ (List.mem_of_getElem? (i := 11) rfl)) (hw _ (List.mem_of_getElem? (i := 10) rfl)) (hw _ (List.mem_of_getElem? (i := 6) rfl)) (hw _ (List.mem_of_getElem? (i := 12) rfl)) (by decide) (by decide) (by decide) e7 (by decide) (by decide) (g := (mkF m 14 #[.val (.int p1), .val (.int (2 : Int32)), .val (.ref w_MATCHES)] [(.ref w_MATCHES)])) rfl (by rw [hml]; rfl) E_MATCHES (argsL := []) (rest := []) rfl (lenOf pd_1 rfl) rfl (by show 2 * 0 + _ ≤ _; exact Nat.le_of_eq rfl) (hb hby at_14)
    obtain ⟨rfl, N8q, e8⟩ := hQ8
    have N8 := Fr.app N7 N8q
    refine OGo.st (B := T8.setTop (mkF m 17 #[.val (.int p1), .val (.int (2 : Int32)), .val (.ref w_MATCHES)] [(.int (1 : Int32))])) st8 ?_
    refine OGo.st (B := T8.setTop (mkF m 18 #[.val (.int p1), .val (.int (2 : Int32)), .val (.ref w_MATCHES)] [(.int (2 : Int32)), (.int (1 : Int32))])) (fun _ k => XS.iloadN X8.here hx rfl (hb hby at_17) rfl k) ?_
    obtain ⟨v9, T9, L9, X9, hQ9, st9⟩ := (rm3_2 l Z a0 hw h0 n0).static (W := 1) X8 hx hZ hown (hw _ (List.mem_of_getElem? (i := 19) rfl)) (hw _ (List.mem_of_getElem? (i := 20) rfl)) (hw _ (List.mem_of_getElem? (i := 3) rfl)) (hw _ (List.mem_of_getElem? (i := 21) rfl)) (by decide) (by decide) (by decide) e8 (by decide) (by decide) (g := (mkF m 18 #[.val (.int p1), .val (.int (2 : Int32)), .val (.ref w_MATCHES)] [(.int (2 : Int32)), (.int (1 : Int32))])) rfl (by rw [hml]; rfl) (argsL := [(.int (2 : Int32))]) (rest := [(.int (1 : Int32))]) rfl (lenOf pd_2 rfl) rfl (by show 2 * 0 + _ ≤ _; exact Nat.le_of_eq rfl) (hb hby at_18)
    obtain ⟨rfl, N9q, e9⟩ := hQ9
    have N9 := Fr.app N8 N9q
    refine OGo.st (B := T9.setTop (mkF m 21 #[.val (.int p1), .val (.int (2 : Int32)), .val (.ref w_MATCHES)] [(.int (1 : Int32)), (.int (1 : Int32))])) st9 ?_
    refine OGo.st (B := T9.setTop (mkF m 24 #[.val (.int p1), .val (.int (2 : Int32)), .val (.ref w_MATCHES)] [])) (fun _ k => XS.icmpNo X9.here hx rfl (hb hby at_21) rfl (by decide) k) ?_
    refine OGo.st (B := T9.setTop (mkF m 25 #[.val (.int p1), .val (.int (2 : Int32)), .val (.ref w_MATCHES)] [(.int (1 : Int32))])) (fun _ k => XS.iconst X9.here hx rfl (hb hby at_24) k) ?_
    refine OGo.st (B := T9.setTop (mkF m 29 #[.val (.int p1), .val (.int (2 : Int32)), .val (.ref w_MATCHES)] [(.int (1 : Int32))])) (fun _ k => XS.goto X9.here hx rfl (pc0 := 25) (pc' := 29) rfl (hb hby at_25) (by decide) (by decide) k) ?_
    exact own_retZ X9 hx hret hlk (hb hby at_29) ⟨rfl, N9⟩ (by decide) (by decide)
  · skip
    rw [hk]
    obtain ⟨v10, T10, L10, X10, hQ10, st10⟩ := (rm1_3 l Z a0 hw w_CALLS h0 n0 S_CALLS).static (W := 0) X0 hx hZ hown (hw _ (List.mem_of_getElem? (i := 1) rfl)) (hw _ (List.mem_of_getElem? (i := 2) rfl)) (hw _ (List.mem_of_getElem? (i := 3) rfl)) (hw _ (List.mem_of_getElem? (i := 4) rfl)) (by decide) (by decide) (by decide) e0 (by decide) (by decide) (g := (mkF m 9 #[.val (.int p1), .val (.int (3 : Int32)), .unset] [(.int (3 : Int32))])) rfl (by rw [hml]; rfl) (argsL := [(.int (3 : Int32))]) (rest := []) rfl (lenOf pd_0 rfl) rfl (by show 2 * 0 + _ ≤ _; exact Nat.le_of_eq rfl) (hb hby at_9)
    obtain ⟨rfl, N10q, e10⟩ := hQ10
    have N10 := Fr.app N0 N10q
    refine OGo.st (B := T10.setTop (mkF m 12 #[.val (.int p1), .val (.int (3 : Int32)), .unset] [(.ref w_CALLS)])) st10 ?_
    refine OGo.st (B := T10.setTop (mkF m 13 #[.val (.int p1), .val (.int (3 : Int32)), .val (.ref w_CALLS)] [])) (fun _ k => XS.astoreN X10.here hx rfl (hb hby at_12) rfl rfl (l' := #[.val (.int p1), .val (.int (3 : Int32)), .val (.ref w_CALLS)]) rfl k) ?_
    refine OGo.st (B := T10.setTop (mkF m 14 #[.val (.int p1), .val (.int (3 : Int32)), .val (.ref w_CALLS)] [(.ref w_CALLS)])) (fun _ k => XS.aloadN X10.here hx rfl (hb hby at_13) rfl rfl k) ?_
    obtain ⟨v11, T11, L11, X11, hQ11, st11⟩ := (rm2 l Z a0 hw w_CALLS w_READS w_MATCHES w_CALLS (1 : Int32) h0 n0 S_READS S_MATCHES S_CALLS (by simp [n0_1, n0_2, n0_3, n0_4, n0_5, n0_6, n1_0, n1_2, n1_3, n1_4, n1_5, n1_6, n2_0, n2_1, n2_3, n2_4, n2_5, n2_6, n3_0, n3_1, n3_2, n3_4, n3_5, n3_6, n4_0, n4_1, n4_2, n4_3, n4_5, n4_6, n5_0, n5_1, n5_2, n5_3, n5_4, n5_6, n6_0, n6_1, n6_2, n6_3, n6_4, n6_5])).virt (W := 0) X10 hx hZ hown (hw _ (List.mem_of_getElem? (i := 8) rfl)) (hw _ (List.mem_of_getElem? (i := 9) rfl)) (nf_sel hZ (hw _ (List.mem_of_getElem? (i := 11) rfl))) (hw _ (List.mem_of_getElem? (i := 11) rfl)) (hw _ (List.mem_of_getElem? (i := 10) rfl)) (hw _ (List.mem_of_getElem? (i := 6) rfl)) (hw _ (List.mem_of_getElem? (i := 12) rfl)) (by decide) (by decide) (by decide) e10 (by decide) (by decide) (g := (mkF m 14 #[.val (.int p1), .val (.int (3 : Int32)), .val (.ref w_CALLS)] [(.ref w_CALLS)])) rfl (by rw [hml]; rfl) E_CALLS (argsL := []) (rest := []) rfl (lenOf pd_1 rfl) rfl (by show 2 * 0 + _ ≤ _; exact Nat.le_of_eq rfl) (hb hby at_14)
    obtain ⟨rfl, N11q, e11⟩ := hQ11
    have N11 := Fr.app N10 N11q
    refine OGo.st (B := T11.setTop (mkF m 17 #[.val (.int p1), .val (.int (3 : Int32)), .val (.ref w_CALLS)] [(.int (1 : Int32))])) st11 ?_
    refine OGo.st (B := T11.setTop (mkF m 18 #[.val (.int p1), .val (.int (3 : Int32)), .val (.ref w_CALLS)] [(.int (3 : Int32)), (.int (1 : Int32))])) (fun _ k => XS.iloadN X11.here hx rfl (hb hby at_17) rfl k) ?_
    obtain ⟨v12, T12, L12, X12, hQ12, st12⟩ := (rm3_3 l Z a0 hw h0 n0).static (W := 1) X11 hx hZ hown (hw _ (List.mem_of_getElem? (i := 19) rfl)) (hw _ (List.mem_of_getElem? (i := 20) rfl)) (hw _ (List.mem_of_getElem? (i := 3) rfl)) (hw _ (List.mem_of_getElem? (i := 21) rfl)) (by decide) (by decide) (by decide) e11 (by decide) (by decide) (g := (mkF m 18 #[.val (.int p1), .val (.int (3 : Int32)), .val (.ref w_CALLS)] [(.int (3 : Int32)), (.int (1 : Int32))])) rfl (by rw [hml]; rfl) (argsL := [(.int (3 : Int32))]) (rest := [(.int (1 : Int32))]) rfl (lenOf pd_2 rfl) rfl (by show 2 * 0 + _ ≤ _; exact Nat.le_of_eq rfl) (hb hby at_18)
    obtain ⟨rfl, N12q, e12⟩ := hQ12
    have N12 := Fr.app N11 N12q
    refine OGo.st (B := T12.setTop (mkF m 21 #[.val (.int p1), .val (.int (3 : Int32)), .val (.ref w_CALLS)] [(.int (1 : Int32)), (.int (1 : Int32))])) st12 ?_
    refine OGo.st (B := T12.setTop (mkF m 24 #[.val (.int p1), .val (.int (3 : Int32)), .val (.ref w_CALLS)] [])) (fun _ k => XS.icmpNo X12.here hx rfl (hb hby at_21) rfl (by decide) k) ?_
    refine OGo.st (B := T12.setTop (mkF m 25 #[.val (.int p1), .val (.int (3 : Int32)), .val (.ref w_CALLS)] [(.int (1 : Int32))])) (fun _ k => XS.iconst X12.here hx rfl (hb hby at_24) k) ?_
    refine OGo.st (B := T12.setTop (mkF m 29 #[.val (.int p1), .val (.int (3 : Int32)), .val (.ref w_CALLS)] [(.int (1 : Int32))])) (fun _ k => XS.goto X12.here hx rfl (pc0 := 25) (pc' := 29) rfl (hb hby at_25) (by decide) (by decide) k) ?_
    exact own_retZ X12 hx hret hlk (hb hby at_29) ⟨rfl, N12⟩ (by decide) (by decide)
  · skip
    rw [hk]
    obtain ⟨v13, T13, L13, X13, hQ13, st13⟩ := (rm1_4 l Z a0 hw w_MERGES h0 n0 S_MERGES).static (W := 0) X0 hx hZ hown (hw _ (List.mem_of_getElem? (i := 1) rfl)) (hw _ (List.mem_of_getElem? (i := 2) rfl)) (hw _ (List.mem_of_getElem? (i := 3) rfl)) (hw _ (List.mem_of_getElem? (i := 4) rfl)) (by decide) (by decide) (by decide) e0 (by decide) (by decide) (g := (mkF m 9 #[.val (.int p1), .val (.int (4 : Int32)), .unset] [(.int (4 : Int32))])) rfl (by rw [hml]; rfl) (argsL := [(.int (4 : Int32))]) (rest := []) rfl (lenOf pd_0 rfl) rfl (by show 2 * 0 + _ ≤ _; exact Nat.le_of_eq rfl) (hb hby at_9)
    obtain ⟨rfl, N13q, e13⟩ := hQ13
    have N13 := Fr.app N0 N13q
    refine OGo.st (B := T13.setTop (mkF m 12 #[.val (.int p1), .val (.int (4 : Int32)), .unset] [(.ref w_MERGES)])) st13 ?_
    refine OGo.st (B := T13.setTop (mkF m 13 #[.val (.int p1), .val (.int (4 : Int32)), .val (.ref w_MERGES)] [])) (fun _ k => XS.astoreN X13.here hx rfl (hb hby at_12) rfl rfl (l' := #[.val (.int p1), .val (.int (4 : Int32)), .val (.ref w_MERGES)]) rfl k) ?_
    refine OGo.st (B := T13.setTop (mkF m 14 #[.val (.int p1), .val (.int (4 : Int32)), .val (.ref w_MERGES)] [(.ref w_MERGES)])) (fun _ k => XS.aloadN X13.here hx rfl (hb hby at_13) rfl rfl k) ?_
    obtain ⟨v14, T14, L14, X14, hQ14, st14⟩ := (rm2 l Z a0 hw w_MERGES w_READS w_MATCHES w_CALLS (0 : Int32) h0 n0 S_READS S_MATCHES S_CALLS (by simp [n0_1, n0_2, n0_3, n0_4, n0_5, n0_6, n1_0, n1_2, n1_3, n1_4, n1_5, n1_6, n2_0, n2_1, n2_3, n2_4, n2_5, n2_6, n3_0, n3_1, n3_2, n3_4, n3_5, n3_6, n4_0, n4_1, n4_2, n4_3, n4_5, n4_6, n5_0, n5_1, n5_2, n5_3, n5_4, n5_6, n6_0, n6_1, n6_2, n6_3, n6_4, n6_5])).virt (W := 0) X13 hx hZ hown (hw _ (List.mem_of_getElem? (i := 8) rfl)) (hw _ (List.mem_of_getElem? (i := 9) rfl)) (nf_sel hZ (hw _ (List.mem_of_getElem? (i := 11) rfl))) (hw _ (List.mem_of_getElem? (i := 11) rfl)) (hw _ (List.mem_of_getElem? (i := 10) rfl)) (hw _ (List.mem_of_getElem? (i := 6) rfl)) (hw _ (List.mem_of_getElem? (i := 12) rfl)) (by decide) (by decide) (by decide) e13 (by decide) (by decide) (g := (mkF m 14 #[.val (.int p1), .val (.int (4 : Int32)), .val (.ref w_MERGES)] [(.ref w_MERGES)])) rfl (by rw [hml]; rfl) E_MERGES (argsL := []) (rest := []) rfl (lenOf pd_1 rfl) rfl (by show 2 * 0 + _ ≤ _; exact Nat.le_of_eq rfl) (hb hby at_14)
    obtain ⟨rfl, N14q, e14⟩ := hQ14
    have N14 := Fr.app N13 N14q
    refine OGo.st (B := T14.setTop (mkF m 17 #[.val (.int p1), .val (.int (4 : Int32)), .val (.ref w_MERGES)] [(.int (0 : Int32))])) st14 ?_
    refine OGo.st (B := T14.setTop (mkF m 18 #[.val (.int p1), .val (.int (4 : Int32)), .val (.ref w_MERGES)] [(.int (4 : Int32)), (.int (0 : Int32))])) (fun _ k => XS.iloadN X14.here hx rfl (hb hby at_17) rfl k) ?_
    obtain ⟨v15, T15, L15, X15, hQ15, st15⟩ := (rm3_4 l Z a0 hw h0 n0).static (W := 1) X14 hx hZ hown (hw _ (List.mem_of_getElem? (i := 19) rfl)) (hw _ (List.mem_of_getElem? (i := 20) rfl)) (hw _ (List.mem_of_getElem? (i := 3) rfl)) (hw _ (List.mem_of_getElem? (i := 21) rfl)) (by decide) (by decide) (by decide) e14 (by decide) (by decide) (g := (mkF m 18 #[.val (.int p1), .val (.int (4 : Int32)), .val (.ref w_MERGES)] [(.int (4 : Int32)), (.int (0 : Int32))])) rfl (by rw [hml]; rfl) (argsL := [(.int (4 : Int32))]) (rest := [(.int (0 : Int32))]) rfl (lenOf pd_2 rfl) rfl (by show 2 * 0 + _ ≤ _; exact Nat.le_of_eq rfl) (hb hby at_18)
    obtain ⟨rfl, N15q, e15⟩ := hQ15
    have N15 := Fr.app N14 N15q
    refine OGo.st (B := T15.setTop (mkF m 21 #[.val (.int p1), .val (.int (4 : Int32)), .val (.ref w_MERGES)] [(.int (0 : Int32)), (.int (0 : Int32))])) st15 ?_
    refine OGo.st (B := T15.setTop (mkF m 24 #[.val (.int p1), .val (.int (4 : Int32)), .val (.ref w_MERGES)] [])) (fun _ k => XS.icmpNo X15.here hx rfl (hb hby at_21) rfl (by decide) k) ?_
    refine OGo.st (B := T15.setTop (mkF m 25 #[.val (.int p1), .val (.int (4 : Int32)), .val (.ref w_MERGES)] [(.int (1 : Int32))])) (fun _ k => XS.iconst X15.here hx rfl (hb hby at_24) k) ?_
    refine OGo.st (B := T15.setTop (mkF m 29 #[.val (.int p1), .val (.int (4 : Int32)), .val (.ref w_MERGES)] [(.int (1 : Int32))])) (fun _ k => XS.goto X15.here hx rfl (pc0 := 25) (pc' := 29) rfl (hb hby at_25) (by decide) (by decide) k) ?_
    exact own_retZ X15 hx hret hlk (hb hby at_29) ⟨rfl, N15⟩ (by decide) (by decide)
  · skip
    rw [hk]
    obtain ⟨v16, T16, L16, X16, hQ16, st16⟩ := (rm1_5 l Z a0 hw w_MAKES h0 n0 S_MAKES).static (W := 0) X0 hx hZ hown (hw _ (List.mem_of_getElem? (i := 1) rfl)) (hw _ (List.mem_of_getElem? (i := 2) rfl)) (hw _ (List.mem_of_getElem? (i := 3) rfl)) (hw _ (List.mem_of_getElem? (i := 4) rfl)) (by decide) (by decide) (by decide) e0 (by decide) (by decide) (g := (mkF m 9 #[.val (.int p1), .val (.int (5 : Int32)), .unset] [(.int (5 : Int32))])) rfl (by rw [hml]; rfl) (argsL := [(.int (5 : Int32))]) (rest := []) rfl (lenOf pd_0 rfl) rfl (by show 2 * 0 + _ ≤ _; exact Nat.le_of_eq rfl) (hb hby at_9)
    obtain ⟨rfl, N16q, e16⟩ := hQ16
    have N16 := Fr.app N0 N16q
    refine OGo.st (B := T16.setTop (mkF m 12 #[.val (.int p1), .val (.int (5 : Int32)), .unset] [(.ref w_MAKES)])) st16 ?_
    refine OGo.st (B := T16.setTop (mkF m 13 #[.val (.int p1), .val (.int (5 : Int32)), .val (.ref w_MAKES)] [])) (fun _ k => XS.astoreN X16.here hx rfl (hb hby at_12) rfl rfl (l' := #[.val (.int p1), .val (.int (5 : Int32)), .val (.ref w_MAKES)]) rfl k) ?_
    refine OGo.st (B := T16.setTop (mkF m 14 #[.val (.int p1), .val (.int (5 : Int32)), .val (.ref w_MAKES)] [(.ref w_MAKES)])) (fun _ k => XS.aloadN X16.here hx rfl (hb hby at_13) rfl rfl k) ?_
    obtain ⟨v17, T17, L17, X17, hQ17, st17⟩ := (rm2 l Z a0 hw w_MAKES w_READS w_MATCHES w_CALLS (0 : Int32) h0 n0 S_READS S_MATCHES S_CALLS (by simp [n0_1, n0_2, n0_3, n0_4, n0_5, n0_6, n1_0, n1_2, n1_3, n1_4, n1_5, n1_6, n2_0, n2_1, n2_3, n2_4, n2_5, n2_6, n3_0, n3_1, n3_2, n3_4, n3_5, n3_6, n4_0, n4_1, n4_2, n4_3, n4_5, n4_6, n5_0, n5_1, n5_2, n5_3, n5_4, n5_6, n6_0, n6_1, n6_2, n6_3, n6_4, n6_5])).virt (W := 0) X16 hx hZ hown (hw _ (List.mem_of_getElem? (i := 8) rfl)) (hw _ (List.mem_of_getElem? (i := 9) rfl)) (nf_sel hZ (hw _ (List.mem_of_getElem? (i := 11) rfl))) (hw _ (List.mem_of_getElem? (i := 11) rfl)) (hw _ (List.mem_of_getElem? (i := 10) rfl)) (hw _ (List.mem_of_getElem? (i := 6) rfl)) (hw _ (List.mem_of_getElem? (i := 12) rfl)) (by decide) (by decide) (by decide) e16 (by decide) (by decide) (g := (mkF m 14 #[.val (.int p1), .val (.int (5 : Int32)), .val (.ref w_MAKES)] [(.ref w_MAKES)])) rfl (by rw [hml]; rfl) E_MAKES (argsL := []) (rest := []) rfl (lenOf pd_1 rfl) rfl (by show 2 * 0 + _ ≤ _; exact Nat.le_of_eq rfl) (hb hby at_14)
    obtain ⟨rfl, N17q, e17⟩ := hQ17
    have N17 := Fr.app N16 N17q
    refine OGo.st (B := T17.setTop (mkF m 17 #[.val (.int p1), .val (.int (5 : Int32)), .val (.ref w_MAKES)] [(.int (0 : Int32))])) st17 ?_
    refine OGo.st (B := T17.setTop (mkF m 18 #[.val (.int p1), .val (.int (5 : Int32)), .val (.ref w_MAKES)] [(.int (5 : Int32)), (.int (0 : Int32))])) (fun _ k => XS.iloadN X17.here hx rfl (hb hby at_17) rfl k) ?_
    obtain ⟨v18, T18, L18, X18, hQ18, st18⟩ := (rm3_5 l Z a0 hw h0 n0).static (W := 1) X17 hx hZ hown (hw _ (List.mem_of_getElem? (i := 19) rfl)) (hw _ (List.mem_of_getElem? (i := 20) rfl)) (hw _ (List.mem_of_getElem? (i := 3) rfl)) (hw _ (List.mem_of_getElem? (i := 21) rfl)) (by decide) (by decide) (by decide) e17 (by decide) (by decide) (g := (mkF m 18 #[.val (.int p1), .val (.int (5 : Int32)), .val (.ref w_MAKES)] [(.int (5 : Int32)), (.int (0 : Int32))])) rfl (by rw [hml]; rfl) (argsL := [(.int (5 : Int32))]) (rest := [(.int (0 : Int32))]) rfl (lenOf pd_2 rfl) rfl (by show 2 * 0 + _ ≤ _; exact Nat.le_of_eq rfl) (hb hby at_18)
    obtain ⟨rfl, N18q, e18⟩ := hQ18
    have N18 := Fr.app N17 N18q
    refine OGo.st (B := T18.setTop (mkF m 21 #[.val (.int p1), .val (.int (5 : Int32)), .val (.ref w_MAKES)] [(.int (0 : Int32)), (.int (0 : Int32))])) st18 ?_
    refine OGo.st (B := T18.setTop (mkF m 24 #[.val (.int p1), .val (.int (5 : Int32)), .val (.ref w_MAKES)] [])) (fun _ k => XS.icmpNo X18.here hx rfl (hb hby at_21) rfl (by decide) k) ?_
    refine OGo.st (B := T18.setTop (mkF m 25 #[.val (.int p1), .val (.int (5 : Int32)), .val (.ref w_MAKES)] [(.int (1 : Int32))])) (fun _ k => XS.iconst X18.here hx rfl (hb hby at_24) k) ?_
    refine OGo.st (B := T18.setTop (mkF m 29 #[.val (.int p1), .val (.int (5 : Int32)), .val (.ref w_MAKES)] [(.int (1 : Int32))])) (fun _ k => XS.goto X18.here hx rfl (pc0 := 25) (pc' := 29) rfl (hb hby at_25) (by decide) (by decide) k) ?_
    exact own_retZ X18 hx hret hlk (hb hby at_29) ⟨rfl, N18⟩ (by decide) (by decide)
  · skip
    rw [hk]
    obtain ⟨v19, T19, L19, X19, hQ19, st19⟩ := (rm1_6 l Z a0 hw w_CHANGES h0 n0 S_CHANGES).static (W := 0) X0 hx hZ hown (hw _ (List.mem_of_getElem? (i := 1) rfl)) (hw _ (List.mem_of_getElem? (i := 2) rfl)) (hw _ (List.mem_of_getElem? (i := 3) rfl)) (hw _ (List.mem_of_getElem? (i := 4) rfl)) (by decide) (by decide) (by decide) e0 (by decide) (by decide) (g := (mkF m 9 #[.val (.int p1), .val (.int (6 : Int32)), .unset] [(.int (6 : Int32))])) rfl (by rw [hml]; rfl) (argsL := [(.int (6 : Int32))]) (rest := []) rfl (lenOf pd_0 rfl) rfl (by show 2 * 0 + _ ≤ _; exact Nat.le_of_eq rfl) (hb hby at_9)
    obtain ⟨rfl, N19q, e19⟩ := hQ19
    have N19 := Fr.app N0 N19q
    refine OGo.st (B := T19.setTop (mkF m 12 #[.val (.int p1), .val (.int (6 : Int32)), .unset] [(.ref w_CHANGES)])) st19 ?_
    refine OGo.st (B := T19.setTop (mkF m 13 #[.val (.int p1), .val (.int (6 : Int32)), .val (.ref w_CHANGES)] [])) (fun _ k => XS.astoreN X19.here hx rfl (hb hby at_12) rfl rfl (l' := #[.val (.int p1), .val (.int (6 : Int32)), .val (.ref w_CHANGES)]) rfl k) ?_
    refine OGo.st (B := T19.setTop (mkF m 14 #[.val (.int p1), .val (.int (6 : Int32)), .val (.ref w_CHANGES)] [(.ref w_CHANGES)])) (fun _ k => XS.aloadN X19.here hx rfl (hb hby at_13) rfl rfl k) ?_
    obtain ⟨v20, T20, L20, X20, hQ20, st20⟩ := (rm2 l Z a0 hw w_CHANGES w_READS w_MATCHES w_CALLS (0 : Int32) h0 n0 S_READS S_MATCHES S_CALLS (by simp [n0_1, n0_2, n0_3, n0_4, n0_5, n0_6, n1_0, n1_2, n1_3, n1_4, n1_5, n1_6, n2_0, n2_1, n2_3, n2_4, n2_5, n2_6, n3_0, n3_1, n3_2, n3_4, n3_5, n3_6, n4_0, n4_1, n4_2, n4_3, n4_5, n4_6, n5_0, n5_1, n5_2, n5_3, n5_4, n5_6, n6_0, n6_1, n6_2, n6_3, n6_4, n6_5])).virt (W := 0) X19 hx hZ hown (hw _ (List.mem_of_getElem? (i := 8) rfl)) (hw _ (List.mem_of_getElem? (i := 9) rfl)) (nf_sel hZ (hw _ (List.mem_of_getElem? (i := 11) rfl))) (hw _ (List.mem_of_getElem? (i := 11) rfl)) (hw _ (List.mem_of_getElem? (i := 10) rfl)) (hw _ (List.mem_of_getElem? (i := 6) rfl)) (hw _ (List.mem_of_getElem? (i := 12) rfl)) (by decide) (by decide) (by decide) e19 (by decide) (by decide) (g := (mkF m 14 #[.val (.int p1), .val (.int (6 : Int32)), .val (.ref w_CHANGES)] [(.ref w_CHANGES)])) rfl (by rw [hml]; rfl) E_CHANGES (argsL := []) (rest := []) rfl (lenOf pd_1 rfl) rfl (by show 2 * 0 + _ ≤ _; exact Nat.le_of_eq rfl) (hb hby at_14)
    obtain ⟨rfl, N20q, e20⟩ := hQ20
    have N20 := Fr.app N19 N20q
    refine OGo.st (B := T20.setTop (mkF m 17 #[.val (.int p1), .val (.int (6 : Int32)), .val (.ref w_CHANGES)] [(.int (0 : Int32))])) st20 ?_
    refine OGo.st (B := T20.setTop (mkF m 18 #[.val (.int p1), .val (.int (6 : Int32)), .val (.ref w_CHANGES)] [(.int (6 : Int32)), (.int (0 : Int32))])) (fun _ k => XS.iloadN X20.here hx rfl (hb hby at_17) rfl k) ?_
    obtain ⟨v21, T21, L21, X21, hQ21, st21⟩ := (rm3_6 l Z a0 hw h0 n0).static (W := 1) X20 hx hZ hown (hw _ (List.mem_of_getElem? (i := 19) rfl)) (hw _ (List.mem_of_getElem? (i := 20) rfl)) (hw _ (List.mem_of_getElem? (i := 3) rfl)) (hw _ (List.mem_of_getElem? (i := 21) rfl)) (by decide) (by decide) (by decide) e20 (by decide) (by decide) (g := (mkF m 18 #[.val (.int p1), .val (.int (6 : Int32)), .val (.ref w_CHANGES)] [(.int (6 : Int32)), (.int (0 : Int32))])) rfl (by rw [hml]; rfl) (argsL := [(.int (6 : Int32))]) (rest := [(.int (0 : Int32))]) rfl (lenOf pd_2 rfl) rfl (by show 2 * 0 + _ ≤ _; exact Nat.le_of_eq rfl) (hb hby at_18)
    obtain ⟨rfl, N21q, e21⟩ := hQ21
    have N21 := Fr.app N20 N21q
    refine OGo.st (B := T21.setTop (mkF m 21 #[.val (.int p1), .val (.int (6 : Int32)), .val (.ref w_CHANGES)] [(.int (0 : Int32)), (.int (0 : Int32))])) st21 ?_
    refine OGo.st (B := T21.setTop (mkF m 24 #[.val (.int p1), .val (.int (6 : Int32)), .val (.ref w_CHANGES)] [])) (fun _ k => XS.icmpNo X21.here hx rfl (hb hby at_21) rfl (by decide) k) ?_
    refine OGo.st (B := T21.setTop (mkF m 25 #[.val (.int p1), .val (.int (6 : Int32)), .val (.ref w_CHANGES)] [(.int (1 : Int32))])) (fun _ k => XS.iconst X21.here hx rfl (hb hby at_24) k) ?_
    refine OGo.st (B := T21.setTop (mkF m 29 #[.val (.int p1), .val (.int (6 : Int32)), .val (.ref w_CHANGES)] [(.int (1 : Int32))])) (fun _ k => XS.goto X21.here hx rfl (pc0 := 25) (pc' := 29) rfl (hb hby at_25) (by decide) (by decide) k) ?_
    exact own_retZ X21 hx hret hlk (hb hby at_29) ⟨rfl, N21⟩ (by decide) (by decide)
set_option maxRecDepth 65536 in
set_option maxHeartbeats 40000000 in
theorem comes_1 {Post : Tables → Env → Array Value → State → Outcome → State → Prop} (hpost : ∀ tb e args s v u, (limb_1_1.after args s (.returned v) u = true ∧ limb_1_2.after args s (.returned v) u = true ∧ True) → FrameEnd s (.returned v) u (Jvm.fieldLocs frame_1_writes args s ++ Jvm.arrayLocs frame_1_arrays args s ++ Jvm.staticLocs frame_1_statics s) 0 0 → Post tb e args s (.returned v) u) :
    ArmFor flags0 classFile x code maxLocals ret World_1 tables_1 room_1 Calls_1 rest_1 Pre_1 Post := by
  intro l hfl _ _ p e ha hc hk s m args below hf hA hF happ hP
  obtain ⟨hcalls, hrest, hpre⟩ := hP
  obtain ⟨-, -, -, hnamed, -, -, -, hat⟩ := (Spec.applies_iff hf).mp happ
  obtain ⟨hg, hn⟩ := and_e (Cond.before_iff.mp (show (Jvm.Cond.and given_1 narrow_1).before args s = true from hpre))
  obtain ⟨q1, q2⟩ := and_e hg
  obtain ⟨w0, rfl⟩ : ∃ w0 : Value, args = #[w0] := by
    have hs : args.size = 1 := by simpa [Cond.value, given_1] using q1
    obtain ⟨L⟩ := args
    match L, hs with
    | [w0], _ => exact ⟨w0, rfl⟩
  have hw := fun d (hd : d ∈ tables_1) => atoms_spec (ws := Jvm.Cond.code x code maxLocals ret :: tables_1) hat d (List.mem_cons_of_mem _ hd)
  obtain ⟨i0, ei0⟩ := is_v q2
  obtain rfl : w0 = (.int i0) := Option.some.inj ei0
  obtain ⟨q3, q4⟩ := and_e hn
  obtain ⟨q5, q6⟩ := and_e q4
  obtain ⟨q7, q8⟩ := and_e q6
  obtain ⟨q9, q10⟩ := and_e q8
  obtain ⟨q11, q12⟩ := and_e q10
  obtain ⟨q13, q14⟩ := and_e q12
  obtain ⟨q15, q16⟩ := and_e q14
  obtain ⟨q17, q18⟩ := and_e q16
  obtain ⟨q19, q20⟩ := and_e q18
  obtain ⟨q21, q22⟩ := and_e q20
  obtain ⟨q23, q24⟩ := and_e q22
  obtain ⟨q25, q26⟩ := and_e q24
  obtain ⟨q27, q28⟩ := and_e q26
  obtain ⟨u_PROJECTS, ev_PROJECTS, S_PROJECTS, E_PROJECTS⟩ := own_sta (t := ("com/example/graphwright/graphwright/cypher/Clause$Role", "PROJECTS", "Lcom/example/graphwright/graphwright/cypher/Clause$Role;")) q3 (hw _ (List.mem_of_getElem? (i := 6) rfl)) (hw _ (List.mem_of_getElem? (i := 7) rfl))
  replace S_PROJECTS : Sta s s.heap "com/example/graphwright/graphwright/cypher/Clause$Role" "PROJECTS" "Lcom/example/graphwright/graphwright/cypher/Clause$Role;" (.ref u_PROJECTS) := S_PROJECTS
  obtain ⟨u_READS, ev_READS, S_READS, E_READS⟩ := own_sta (t := ("com/example/graphwright/graphwright/cypher/Clause$Role", "READS", "Lcom/example/graphwright/graphwright/cypher/Clause$Role;")) q5 (hw _ (List.mem_of_getElem? (i := 6) rfl)) (hw _ (List.mem_of_getElem? (i := 14) rfl))
  replace S_READS : Sta s s.heap "com/example/graphwright/graphwright/cypher/Clause$Role" "READS" "Lcom/example/graphwright/graphwright/cypher/Clause$Role;" (.ref u_READS) := S_READS
  obtain ⟨u_MATCHES, ev_MATCHES, S_MATCHES, E_MATCHES⟩ := own_sta (t := ("com/example/graphwright/graphwright/cypher/Clause$Role", "MATCHES", "Lcom/example/graphwright/graphwright/cypher/Clause$Role;")) q11 (hw _ (List.mem_of_getElem? (i := 6) rfl)) (hw _ (List.mem_of_getElem? (i := 16) rfl))
  replace S_MATCHES : Sta s s.heap "com/example/graphwright/graphwright/cypher/Clause$Role" "MATCHES" "Lcom/example/graphwright/graphwright/cypher/Clause$Role;" (.ref u_MATCHES) := S_MATCHES
  obtain ⟨u_CALLS, ev_CALLS, S_CALLS, E_CALLS⟩ := own_sta (t := ("com/example/graphwright/graphwright/cypher/Clause$Role", "CALLS", "Lcom/example/graphwright/graphwright/cypher/Clause$Role;")) q15 (hw _ (List.mem_of_getElem? (i := 6) rfl)) (hw _ (List.mem_of_getElem? (i := 18) rfl))
  replace S_CALLS : Sta s s.heap "com/example/graphwright/graphwright/cypher/Clause$Role" "CALLS" "Lcom/example/graphwright/graphwright/cypher/Clause$Role;" (.ref u_CALLS) := S_CALLS
  obtain ⟨u_MAKES, ev_MAKES, S_MAKES, E_MAKES⟩ := own_sta (t := ("com/example/graphwright/graphwright/cypher/Clause$Role", "MAKES", "Lcom/example/graphwright/graphwright/cypher/Clause$Role;")) q19 (hw _ (List.mem_of_getElem? (i := 6) rfl)) (hw _ (List.mem_of_getElem? (i := 24) rfl))
  replace S_MAKES : Sta s s.heap "com/example/graphwright/graphwright/cypher/Clause$Role" "MAKES" "Lcom/example/graphwright/graphwright/cypher/Clause$Role;" (.ref u_MAKES) := S_MAKES
  obtain ⟨u_CHANGES, ev_CHANGES, S_CHANGES, E_CHANGES⟩ := own_sta (t := ("com/example/graphwright/graphwright/cypher/Clause$Role", "CHANGES", "Lcom/example/graphwright/graphwright/cypher/Clause$Role;")) q23 (hw _ (List.mem_of_getElem? (i := 6) rfl)) (hw _ (List.mem_of_getElem? (i := 26) rfl))
  replace S_CHANGES : Sta s s.heap "com/example/graphwright/graphwright/cypher/Clause$Role" "CHANGES" "Lcom/example/graphwright/graphwright/cypher/Clause$Role;" (.ref u_CHANGES) := S_CHANGES
  obtain ⟨u_MERGES, ev_MERGES, S_MERGES, E_MERGES⟩ := own_sta (t := ("com/example/graphwright/graphwright/cypher/Clause$Role", "MERGES", "Lcom/example/graphwright/graphwright/cypher/Clause$Role;")) q27 (hw _ (List.mem_of_getElem? (i := 6) rfl)) (hw _ (List.mem_of_getElem? (i := 28) rfl))
  replace S_MERGES : Sta s s.heap "com/example/graphwright/graphwright/cypher/Clause$Role" "MERGES" "Lcom/example/graphwright/graphwright/cypher/Clause$Role;" (.ref u_MERGES) := S_MERGES
  have O_PROJECTS := own_ord ev_PROJECTS q7
  have O_READS := own_ord ev_READS q9
  have O_MATCHES := own_ord ev_MATCHES q13
  have O_CALLS := own_ord ev_CALLS q17
  have O_MAKES := own_ord ev_MAKES q21
  have O_CHANGES := own_ord ev_CHANGES q25
  have O_MERGES := own_ord ev_MERGES q28
  have n0_1 : u_PROJECTS ≠ u_READS := Fld.ne O_PROJECTS O_READS (by decide)
  have n0_2 : u_PROJECTS ≠ u_MATCHES := Fld.ne O_PROJECTS O_MATCHES (by decide)
  have n0_3 : u_PROJECTS ≠ u_CALLS := Fld.ne O_PROJECTS O_CALLS (by decide)
  have n0_4 : u_PROJECTS ≠ u_MERGES := Fld.ne O_PROJECTS O_MERGES (by decide)
  have n0_5 : u_PROJECTS ≠ u_MAKES := Fld.ne O_PROJECTS O_MAKES (by decide)
  have n0_6 : u_PROJECTS ≠ u_CHANGES := Fld.ne O_PROJECTS O_CHANGES (by decide)
  have n1_0 : u_READS ≠ u_PROJECTS := Fld.ne O_READS O_PROJECTS (by decide)
  have n1_2 : u_READS ≠ u_MATCHES := Fld.ne O_READS O_MATCHES (by decide)
  have n1_3 : u_READS ≠ u_CALLS := Fld.ne O_READS O_CALLS (by decide)
  have n1_4 : u_READS ≠ u_MERGES := Fld.ne O_READS O_MERGES (by decide)
  have n1_5 : u_READS ≠ u_MAKES := Fld.ne O_READS O_MAKES (by decide)
  have n1_6 : u_READS ≠ u_CHANGES := Fld.ne O_READS O_CHANGES (by decide)
  have n2_0 : u_MATCHES ≠ u_PROJECTS := Fld.ne O_MATCHES O_PROJECTS (by decide)
  have n2_1 : u_MATCHES ≠ u_READS := Fld.ne O_MATCHES O_READS (by decide)
  have n2_3 : u_MATCHES ≠ u_CALLS := Fld.ne O_MATCHES O_CALLS (by decide)
  have n2_4 : u_MATCHES ≠ u_MERGES := Fld.ne O_MATCHES O_MERGES (by decide)
  have n2_5 : u_MATCHES ≠ u_MAKES := Fld.ne O_MATCHES O_MAKES (by decide)
  have n2_6 : u_MATCHES ≠ u_CHANGES := Fld.ne O_MATCHES O_CHANGES (by decide)
  have n3_0 : u_CALLS ≠ u_PROJECTS := Fld.ne O_CALLS O_PROJECTS (by decide)
  have n3_1 : u_CALLS ≠ u_READS := Fld.ne O_CALLS O_READS (by decide)
  have n3_2 : u_CALLS ≠ u_MATCHES := Fld.ne O_CALLS O_MATCHES (by decide)
  have n3_4 : u_CALLS ≠ u_MERGES := Fld.ne O_CALLS O_MERGES (by decide)
  have n3_5 : u_CALLS ≠ u_MAKES := Fld.ne O_CALLS O_MAKES (by decide)
  have n3_6 : u_CALLS ≠ u_CHANGES := Fld.ne O_CALLS O_CHANGES (by decide)
  have n4_0 : u_MERGES ≠ u_PROJECTS := Fld.ne O_MERGES O_PROJECTS (by decide)
  have n4_1 : u_MERGES ≠ u_READS := Fld.ne O_MERGES O_READS (by decide)
  have n4_2 : u_MERGES ≠ u_MATCHES := Fld.ne O_MERGES O_MATCHES (by decide)
  have n4_3 : u_MERGES ≠ u_CALLS := Fld.ne O_MERGES O_CALLS (by decide)
  have n4_5 : u_MERGES ≠ u_MAKES := Fld.ne O_MERGES O_MAKES (by decide)
  have n4_6 : u_MERGES ≠ u_CHANGES := Fld.ne O_MERGES O_CHANGES (by decide)
  have n5_0 : u_MAKES ≠ u_PROJECTS := Fld.ne O_MAKES O_PROJECTS (by decide)
  have n5_1 : u_MAKES ≠ u_READS := Fld.ne O_MAKES O_READS (by decide)
  have n5_2 : u_MAKES ≠ u_MATCHES := Fld.ne O_MAKES O_MATCHES (by decide)
  have n5_3 : u_MAKES ≠ u_CALLS := Fld.ne O_MAKES O_CALLS (by decide)
  have n5_4 : u_MAKES ≠ u_MERGES := Fld.ne O_MAKES O_MERGES (by decide)
  have n5_6 : u_MAKES ≠ u_CHANGES := Fld.ne O_MAKES O_CHANGES (by decide)
  have n6_0 : u_CHANGES ≠ u_PROJECTS := Fld.ne O_CHANGES O_PROJECTS (by decide)
  have n6_1 : u_CHANGES ≠ u_READS := Fld.ne O_CHANGES O_READS (by decide)
  have n6_2 : u_CHANGES ≠ u_MATCHES := Fld.ne O_CHANGES O_MATCHES (by decide)
  have n6_3 : u_CHANGES ≠ u_CALLS := Fld.ne O_CHANGES O_CALLS (by decide)
  have n6_4 : u_CHANGES ≠ u_MERGES := Fld.ne O_CHANGES O_MERGES (by decide)
  have n6_5 : u_CHANGES ≠ u_MAKES := Fld.ne O_CHANGES O_MAKES (by decide)
  obtain ⟨n, o, h1, h2, h3, _, L, rfl, ⟨rfl, N⟩, hq⟩ := rm0 l s _ hw i0 u_PROJECTS u_READS u_MATCHES u_CALLS u_MERGES u_MAKES u_CHANGES s.heap s.heap.size S_PROJECTS S_READS S_MATCHES S_CALLS S_MERGES S_MAKES S_CHANGES E_PROJECTS E_READS E_MATCHES E_CALLS E_MERGES E_MAKES E_CHANGES n0_1 n0_2 n0_3 n0_4 n0_5 n0_6 n1_0 n1_2 n1_3 n1_4 n1_5 n1_6 n2_0 n2_1 n2_3 n2_4 n2_5 n2_6 n3_0 n3_1 n3_2 n3_4 n3_5 n3_6 n4_0 n4_1 n4_2 n4_3 n4_5 n4_6 n5_0 n5_1 n5_2 n5_3 n5_4 n5_6 n6_0 n6_1 n6_2 n6_3 n6_4 n6_5 p e ha hc hk s m _ below hf ((Spec.applies_iff_loose hf).mp happ).1 ⟨rfl, State.Warmed39.refl s, rfl⟩ trivial
  refine ⟨n, _, h1, h2, h3, hpost _ _ _ _ _ _ ⟨Cond.after_iff.mpr rfl, Cond.after_iff.mpr (eq_i res_at (Term.int_eval (1)) rfl), trivial⟩ ⟨hq.1, hq.2.1, (hq.2.2.sift fun y hy => Or.inr (N y hy)).mono (by decide) (by decide)⟩⟩
theorem main_1_1 : Claimed_1_1 := comes_1 fun _ _ _ _ _ _ h hF => ⟨h.1, hF⟩
theorem main_1_2 : Claimed_1_2 := comes_1 fun _ _ _ _ _ _ h hF => ⟨h.2.1, hF⟩
end Jvm.Pilot.@@N@@
namespace Jvm.Pilot.@@N@@
open Jvm Jvm.ClassFile Sem Op Lib Jvm.Free Jvm.Stand Jvm.Pilot.@@N@@.Jvm.D
/-! MADE BY PROGRAM (witnessworld.py) out of the Statement's table words and the real class files: 12 classes; the members and pool entries that the words name. The judged class is class 1, her method 3. -/
namespace start1
open Jvm.ClassFile
def u (s : String) : CpInfo := .utf8 (stringToUtf16 s)
/-- a pool by its gaps: so many unusable entries, then the entry; so many at the end -/
def gap : Nat → List CpInfo → List CpInfo
  | 0, r => r
  | n + 1, r => .unusable :: gap n r
def poolList (es : List (Nat × CpInfo)) (last : Nat) : List CpInfo := es.foldr (fun e r => gap e.1 (e.2 :: r)) (gap last [])
def pool (es : List (Nat × CpInfo)) (last : Nat) : Array CpInfo := ⟨poolList es last⟩
def fileOf (pool : Array CpInfo) (this : Nat) (attrs : Array Attribute := #[]) (ms : Array MethodInfo := #[]) (fl : Nat := 33) (sup : Nat := 0) (ifs : Array Nat := #[]) (fds : Array FieldInfo := #[]) : ClassFile where
  minorVersion := 0
  majorVersion := 65
  constantPool := pool
  accessFlags := fl
  thisClass := this
  superClass := sup
  interfaces := ifs
  fields := fds
  methods := ms
  attributes := attrs
def plain (name : String) (sup : Option ClassId) : Class where
  name := name
  kind := .ordinary
  loader := none
  accessFlags := 33
  super := sup
  interfaces := #[]
  cf := none
  fields := #[]
  methods := #[]
  instanceTypes := #[]
  staticTypes := #[]
  resolved := #[]
  callSites := []
  init := .initialized
  statics := none
  mirror := none

def pool0 : Array CpInfo := pool [(5, u "<init>"), (0, u "()V"), (1, .class_ 10), (1, u "java/lang/Object")] 113

def k0m0 : Method := { name := "<init>", desc := "()V", sig := { parameters := [], returnType := none }, accessFlags := 1, code := none }
/-- java/lang/Object -/
def k0 : Class := { plain "java/lang/Object" none with
  accessFlags := 33
  interfaces := #[]
  cf := some (fileOf pool0 8 #[] #[{ accessFlags := 1, nameIndex := 5, descriptorIndex := 6, attributes := #[] }] 33 0 #[] #[])
  fields := #[]
  methods := #[k0m0]
  instanceTypes := #[]
  staticTypes := #[]
  resolved := Array.replicate 124 none
  statics := none }

def pool1 : Array CpInfo := pool [(2, .class_ 4), (1, u "java/lang/Object"), (0, u "<init>"), (0, u "()V"), (0, .fieldref 8 9), (0, .class_ 10), (0, .nameAndType 11 12), (0, u "com/example/graphwright/graphwright/cypher/Clause$Role"), (0, u "PROJECTS"), (0, u "Lcom/example/graphwright/graphwright/cypher/Clause$Role;"), (0, .fieldref 8 14), (0, .nameAndType 15 12), (0, u "READS"), (0, .fieldref 8 17), (0, .nameAndType 18 12), (0, u "MATCHES"), (0, .fieldref 8 20), (0, .nameAndType 21 12), (0, u "CALLS"), (0, .fieldref 8 23), (0, .nameAndType 24 12), (0, u "MERGES"), (0, .fieldref 8 26), (0, .nameAndType 27 12), (0, u "MAKES"), (0, .fieldref 8 29), (0, .nameAndType 30 12), (0, u "CHANGES"), (0, .integer 2147483647), (0, .methodref 33 34), (0, .class_ 35), (0, .nameAndType 36 37), (0, u "com/example/graphwright/graphwright/cypher/RoleFollowsWithPinLaw"), (0, u "pick"), (0, u "(I)Lcom/example/graphwright/graphwright/cypher/Clause$Role;"), (0, .methodref 8 39), (0, .nameAndType 40 41), (0, u "followsWith"), (0, u "()Z"), (0, .methodref 33 43), (0, .nameAndType 44 45), (0, u "expected"), (0, u "(I)Z"), (3, u "law")] 6

def k1m0 : Method := { name := "<init>", desc := "()V", sig := { parameters := [], returnType := none }, accessFlags := 2, code := none }
def k1c1 : Code := { maxStack := 2, maxLocals := 1, code := method_2_code, exceptionTable := #[], attributes := #[] }
def k1m1 : Method := { name := "pick", desc := "(I)Lcom/example/graphwright/graphwright/cypher/Clause$Role;", sig := { parameters := [.int], returnType := some (.object "com/example/graphwright/graphwright/cypher/Clause$Role") }, accessFlags := 10, code := some k1c1 }
def k1c2 : Code := { maxStack := 2, maxLocals := 1, code := method_3_code, exceptionTable := #[], attributes := #[] }
def k1m2 : Method := { name := "expected", desc := "(I)Z", sig := { parameters := [.int], returnType := some .boolean }, accessFlags := 10, code := some k1c2 }
def k1c3 : Code := { maxStack := 2, maxLocals := 3, code := code, exceptionTable := #[], attributes := #[] }
def k1m3 : Method := { name := "law", desc := "(I)Z", sig := { parameters := [.int], returnType := some .boolean }, accessFlags := 9, code := some k1c3 }
/-- com/example/graphwright/graphwright/cypher/RoleFollowsWithPinLaw -/
def k1 : Class := { plain "com/example/graphwright/graphwright/cypher/RoleFollowsWithPinLaw" (some 0) with
  accessFlags := 49
  interfaces := #[]
  cf := some (fileOf pool1 33 #[] #[{ accessFlags := 2, nameIndex := 5, descriptorIndex := 6, attributes := #[] }, { accessFlags := 10, nameIndex := 36, descriptorIndex := 37, attributes := #[] }, { accessFlags := 10, nameIndex := 44, descriptorIndex := 45, attributes := #[] }, { accessFlags := 9, nameIndex := 49, descriptorIndex := 45, attributes := #[] }] 49 2 #[] #[])
  fields := #[]
  methods := #[k1m0, k1m1, k1m2, k1m3]
  instanceTypes := #[]
  staticTypes := #[]
  resolved := Array.replicate 56 none
  statics := none }

def pool2 : Array CpInfo := pool [(1, .class_ 2), (0, u "java/lang/constant/Constable"), (0, .class_ 4), (0, u "java/lang/Object")] 6

/-- java/lang/constant/Constable -/
def k2 : Class := { plain "java/lang/constant/Constable" (some 0) with
  accessFlags := 1537
  interfaces := #[]
  cf := some (fileOf pool2 1 #[] #[] 1537 3 #[] #[])
  fields := #[]
  methods := #[]
  instanceTypes := #[]
  staticTypes := #[]
  resolved := Array.replicate 11 none
  statics := none }

def pool3 : Array CpInfo := pool [(1, .class_ 2), (0, u "java/lang/Comparable"), (0, .class_ 4), (0, u "java/lang/Object")] 7

/-- java/lang/Comparable -/
def k3 : Class := { plain "java/lang/Comparable" (some 0) with
  accessFlags := 1537
  interfaces := #[]
  cf := some (fileOf pool3 1 #[] #[] 1537 3 #[] #[])
  fields := #[]
  methods := #[]
  instanceTypes := #[]
  staticTypes := #[]
  resolved := Array.replicate 12 none
  statics := none }

def pool4 : Array CpInfo := pool [(1, .class_ 2), (0, u "java/io/Serializable"), (0, .class_ 4), (0, u "java/lang/Object")] 2

/-- java/io/Serializable -/
def k4 : Class := { plain "java/io/Serializable" (some 0) with
  accessFlags := 1537
  interfaces := #[]
  cf := some (fileOf pool4 1 #[] #[] 1537 3 #[] #[])
  fields := #[]
  methods := #[]
  instanceTypes := #[]
  staticTypes := #[]
  resolved := Array.replicate 7 none
  statics := none }

def pool5 : Array CpInfo := pool [(2, .class_ 4), (1, u "java/lang/Enum"), (0, u "name"), (0, u "Ljava/lang/String;"), (2, u "ordinal"), (0, u "I"), (1, .class_ 14), (1, u "java/lang/Object"), (4, u "hash"), (86, .class_ 108), (1, u "java/lang/Enum$EnumDesc"), (2, .class_ 112), (0, u "java/lang/constant/Constable"), (0, .class_ 114), (0, u "java/lang/Comparable"), (0, .class_ 116), (0, u "java/io/Serializable")] 87

/-- java/lang/Enum -/
def k5 : Class := { plain "java/lang/Enum" (some 0) with
  accessFlags := 1057
  interfaces := #[2, 3, 4]
  cf := some (fileOf pool5 2 #[.nestMembers #[106]] #[] 1057 12 #[111, 113, 115] #[{ accessFlags := 18, nameIndex := 5, descriptorIndex := 6, attributes := #[] }, { accessFlags := 18, nameIndex := 9, descriptorIndex := 10, attributes := #[] }, { accessFlags := 2, nameIndex := 19, descriptorIndex := 10, attributes := #[] }])
  fields := #[{ name := "name", type := (.object "java/lang/String"), accessFlags := 18, slot := 0, constantValue := 0 }, { name := "ordinal", type := .int, accessFlags := 18, slot := 1, constantValue := 0 }, { name := "hash", type := .int, accessFlags := 2, slot := 2, constantValue := 0 }]
  methods := #[]
  instanceTypes := #[(.object "java/lang/String"), .int, .int]
  staticTypes := #[]
  resolved := Array.replicate 204 none
  statics := none }

def pool6 : Array CpInfo := pool [(1, .class_ 2), (0, u "com/example/graphwright/graphwright/cypher/Clause$Role"), (2, u "PROJECTS"), (0, u "Lcom/example/graphwright/graphwright/cypher/Clause$Role;"), (0, .fieldref 1 8), (0, .nameAndType 9 6), (0, u "READS"), (0, .fieldref 1 11), (0, .nameAndType 12 6), (0, u "MATCHES"), (0, .fieldref 1 14), (0, .nameAndType 15 6), (0, u "CALLS"), (2, u "MERGES"), (2, u "MAKES"), (2, u "CHANGES"), (2, u "$VALUES"), (0, u "[Lcom/example/graphwright/graphwright/cypher/Clause$Role;"), (6, .class_ 37), (1, u "java/lang/Enum"), (25, u "followsWith"), (0, u "()Z"), (9, .class_ 75), (0, u "com/example/graphwright/graphwright/cypher/Clause")] 2

def k6c0 : Code := { maxStack := 2, maxLocals := 1, code := prog_59_method_4_code, exceptionTable := #[], attributes := #[] }
def k6m0 : Method := { name := "followsWith", desc := "()Z", sig := { parameters := [], returnType := some .boolean }, accessFlags := 0, code := some k6c0 }
/-- com/example/graphwright/graphwright/cypher/Clause$Role -/
def k6 : Class := { plain "com/example/graphwright/graphwright/cypher/Clause$Role" (some 5) with
  accessFlags := 16432
  interfaces := #[]
  cf := some (fileOf pool6 1 #[.nestHost 74] #[{ accessFlags := 0, nameIndex := 63, descriptorIndex := 64, attributes := #[] }] 16432 35 #[] #[{ accessFlags := 16409, nameIndex := 5, descriptorIndex := 6, attributes := #[] }, { accessFlags := 16409, nameIndex := 9, descriptorIndex := 6, attributes := #[] }, { accessFlags := 16409, nameIndex := 12, descriptorIndex := 6, attributes := #[] }, { accessFlags := 16409, nameIndex := 15, descriptorIndex := 6, attributes := #[] }, { accessFlags := 16409, nameIndex := 18, descriptorIndex := 6, attributes := #[] }, { accessFlags := 16409, nameIndex := 21, descriptorIndex := 6, attributes := #[] }, { accessFlags := 16409, nameIndex := 24, descriptorIndex := 6, attributes := #[] }, { accessFlags := 4122, nameIndex := 27, descriptorIndex := 28, attributes := #[] }])
  fields := #[{ name := "PROJECTS", type := (.object "com/example/graphwright/graphwright/cypher/Clause$Role"), accessFlags := 16409, slot := 0, constantValue := 0 }, { name := "READS", type := (.object "com/example/graphwright/graphwright/cypher/Clause$Role"), accessFlags := 16409, slot := 1, constantValue := 0 }, { name := "MATCHES", type := (.object "com/example/graphwright/graphwright/cypher/Clause$Role"), accessFlags := 16409, slot := 2, constantValue := 0 }, { name := "CALLS", type := (.object "com/example/graphwright/graphwright/cypher/Clause$Role"), accessFlags := 16409, slot := 3, constantValue := 0 }, { name := "MERGES", type := (.object "com/example/graphwright/graphwright/cypher/Clause$Role"), accessFlags := 16409, slot := 4, constantValue := 0 }, { name := "MAKES", type := (.object "com/example/graphwright/graphwright/cypher/Clause$Role"), accessFlags := 16409, slot := 5, constantValue := 0 }, { name := "CHANGES", type := (.object "com/example/graphwright/graphwright/cypher/Clause$Role"), accessFlags := 16409, slot := 6, constantValue := 0 }, { name := "$VALUES", type := (.array (.object "com/example/graphwright/graphwright/cypher/Clause$Role")), accessFlags := 4122, slot := 7, constantValue := 0 }]
  methods := #[k6m0]
  instanceTypes := #[(.object "java/lang/String"), .int, .int]
  staticTypes := #[(.object "com/example/graphwright/graphwright/cypher/Clause$Role"), (.object "com/example/graphwright/graphwright/cypher/Clause$Role"), (.object "com/example/graphwright/graphwright/cypher/Clause$Role"), (.object "com/example/graphwright/graphwright/cypher/Clause$Role"), (.object "com/example/graphwright/graphwright/cypher/Clause$Role"), (.object "com/example/graphwright/graphwright/cypher/Clause$Role"), (.object "com/example/graphwright/graphwright/cypher/Clause$Role"), (.array (.object "com/example/graphwright/graphwright/cypher/Clause$Role"))]
  resolved := Array.replicate 78 none
  statics := some 0 }

def pool7 : Array CpInfo := pool [(1, u "java/lang/Cloneable"), (0, .class_ 1), (0, u "java/lang/Object"), (0, .class_ 3)] 3

/-- java/lang/Cloneable -/
def k7 : Class := { plain "java/lang/Cloneable" (some 0) with
  accessFlags := 1537
  interfaces := #[]
  cf := some (fileOf pool7 2 #[] #[] 1537 4 #[] #[])
  fields := #[]
  methods := #[]
  instanceTypes := #[]
  staticTypes := #[]
  resolved := Array.replicate 8 none
  statics := none }

/-- the primitive byte -/
def k8 : Class := { plain "byte" none with kind := .primitive 'B', accessFlags := 0x411 }
/-- [B -/
def k9 : Class := { plain "[B" (some 0) with kind := .array 8 .byte, interfaces := #[7, 4], accessFlags := 1041 }

/-- the primitive int -/
def k10 : Class := { plain "int" none with kind := .primitive 'I', accessFlags := 0x411 }
/-- [I -/
def k11 : Class := { plain "[I" (some 0) with kind := .array 10 .int, interfaces := #[7, 4], accessFlags := 1041 }

def heap : Heap := #[{ cls := 6, slots := #[.ref 1, .ref 2, .ref 3, .ref 4, .ref 5, .ref 6, .ref 7, .null], vm := .statics 6 },
  { cls := 6, slots := #[.null, .int 0, .int 0], vm := .none },
  { cls := 6, slots := #[.null, .int 1, .int 0], vm := .none },
  { cls := 6, slots := #[.null, .int 2, .int 0], vm := .none },
  { cls := 6, slots := #[.null, .int 3, .int 0], vm := .none },
  { cls := 6, slots := #[.null, .int 4, .int 0], vm := .none },
  { cls := 6, slots := #[.null, .int 5, .int 0], vm := .none },
  { cls := 6, slots := #[.null, .int 6, .int 0], vm := .none }]
def classes : Array Class := #[k0, k1, k2, k3, k4, k5, k6, k7, k8, k9, k10, k11]
def interned : List (Array UInt16 × Addr) := []
def slotsUsed : Nat := 29
def theMethod : MethodId := ⟨1, 3⟩
def args0 : Array Value := #[.int 3]
def aboutOver (below : List Frame) : State where
  vm := { classes := classes, interned := interned.toArray }
  heap := heap
  slotsUsed := slotsUsed
  threads := #[{ frames := .invoking theMethod args0 :: below }]
def below0 : List Frame := [.native { method := ⟨0, 0⟩, args := #[] }]
def about1 : State := aboutOver below0
def p0 : Program := .bare "" "" ""
def e0 : Env := launch0.env 0 0 0
theorem w_frames : about1.frames = Frame.invoking theMethod args0 :: below0 := rfl
set_option maxRecDepth 65536 in
theorem w_args : argsFit about1.vm theMethod args0 = true := by decide +kernel
set_option maxRecDepth 65536 in
theorem w_heap : heapFits about1 = true := by decide +kernel
set_option maxRecDepth 65536 in
theorem w_runnable : about1.curStatus? = some .runnable := by decide +kernel
set_option maxRecDepth 65536 in
theorem w_alone : about1.alone = true := by decide +kernel
set_option maxRecDepth 65536 in
theorem w_named : about1.methodNamed? x = some theMethod := by decide +kernel
set_option maxRecDepth 65536 in
theorem w_hears : about1.hears theMethod below0 = true := by decide +kernel
set_option maxRecDepth 65536 in
theorem w_ripe : about1.ripe theMethod args0 below0 = true := by decide +kernel
theorem w_running : about1.status = .running := rfl
set_option maxRecDepth 65536 in
theorem w_room : about1.hasRoom e0.platform room_1 = true :=
  launch0.hasRoom_least _ room_1 (by decide +kernel) (by decide +kernel) (by decide +kernel) (by decide +kernel) (by decide +kernel) (by decide +kernel)
theorem allAtoms_all (ts : List Jvm.Cond) (a : Array Jvm.Value) (st : Jvm.State) : (allAtoms ts).before a st = ts.all (fun c => c.before a st) := by
  induction ts with
  | nil => rfl
  | cons c t ih =>
    show (Jvm.Cond.and c (allAtoms t)).before a st = _
    rw [Jvm.Cond.before_and, ih, List.all_cons]
def words1 : List Jvm.Cond := Jvm.Cond.code x code maxLocals ret :: tables_1
/-- a 'code' word, met by the world's own term for the bytes: nothing is compared byte by byte -/
theorem code_word {y : MethodName} {bytes : ByteArray} {mx : Nat} {rt : Option FieldType} {a : Array Value} {s : State} {m : MethodId} {meth : Method} {c : Code} (h1 : s.methodNamed? y = some m) (h2 : s.vm.method? m = some meth) (h3 : meth.code = some c) (h4 : c.code = bytes)
    (h5 : (c.maxLocals == mx && c.exceptionTable.isEmpty && decide (c.maxStack ≤ mostOperands) && decide (meth.sig.returnType = rt) && !meth.locks && decide (parseMethodDescriptor y.desc = some meth.sig)) = true) : (Jvm.Cond.code y bytes mx rt).before a s = true := by
  simp only [Bool.and_eq_true, beq_iff_eq, Bool.not_eq_true', decide_eq_true_eq] at h5
  obtain ⟨⟨⟨⟨⟨g1, g2⟩, g3⟩, g4⟩, g5⟩, g6⟩ := h5
  simp [Cond.before, Cond.holds, Cond.value, h1, h2, h3, h4, g1, g2, g3, g4, g5, g6]
def isCode : Jvm.Cond → Bool
  | .code _ _ _ _ => true
  | _ => false
theorem all_split {L : List Jvm.Cond} {P : Jvm.Cond → Bool} (h1 : L.all (fun c => isCode c || P c) = true) (h2 : ∀ c ∈ L.filter isCode, P c = true) : L.all P = true := by
  refine List.all_eq_true.mpr fun c hc => ?_
  have h := List.all_eq_true.mp h1 c hc
  rcases Bool.eq_false_or_eq_true (isCode c) with hi | hi
  · exact h2 c (List.mem_filter.mpr ⟨hc, hi⟩)
  · simpa [hi] using h
set_option maxRecDepth 65536 in
theorem w_c0 : (Jvm.Cond.code x code maxLocals ret).before args0 about1 = true := code_word (m := ⟨1, 3⟩) (meth := k1m3) (c := k1c3) (by decide +kernel) rfl rfl rfl (by decide +kernel)
set_option maxRecDepth 65536 in
theorem w_c1 : (Jvm.Cond.code ({ cls := "com/example/graphwright/graphwright/cypher/RoleFollowsWithPinLaw", name := "pick", desc := "(I)Lcom/example/graphwright/graphwright/cypher/Clause$Role;" } : Jvm.MethodName) method_2_code (1 : Nat) (Option.some (Jvm.ClassFile.FieldType.object "com/example/graphwright/graphwright/cypher/Clause$Role"))).before args0 about1 = true := code_word (m := ⟨1, 1⟩) (meth := k1m1) (c := k1c1) (by decide +kernel) rfl rfl rfl (by decide +kernel)
set_option maxRecDepth 65536 in
theorem w_c2 : (Jvm.Cond.code ({ cls := "com/example/graphwright/graphwright/cypher/Clause$Role", name := "followsWith", desc := "()Z" } : Jvm.MethodName) prog_59_method_4_code (1 : Nat) (Option.some Jvm.ClassFile.FieldType.boolean)).before args0 about1 = true := code_word (m := ⟨6, 0⟩) (meth := k6m0) (c := k6c0) (by decide +kernel) rfl rfl rfl (by decide +kernel)
set_option maxRecDepth 65536 in
theorem w_c3 : (Jvm.Cond.code ({ cls := "com/example/graphwright/graphwright/cypher/RoleFollowsWithPinLaw", name := "expected", desc := "(I)Z" } : Jvm.MethodName) method_3_code (1 : Nat) (Option.some Jvm.ClassFile.FieldType.boolean)).before args0 about1 = true := code_word (m := ⟨1, 2⟩) (meth := k1m2) (c := k1c2) (by decide +kernel) rfl rfl rfl (by decide +kernel)
def codes1 : List Jvm.Cond := [Jvm.Cond.code x code maxLocals ret, Jvm.Cond.code ({ cls := "com/example/graphwright/graphwright/cypher/RoleFollowsWithPinLaw", name := "pick", desc := "(I)Lcom/example/graphwright/graphwright/cypher/Clause$Role;" } : Jvm.MethodName) method_2_code (1 : Nat) (Option.some (Jvm.ClassFile.FieldType.object "com/example/graphwright/graphwright/cypher/Clause$Role")), Jvm.Cond.code ({ cls := "com/example/graphwright/graphwright/cypher/Clause$Role", name := "followsWith", desc := "()Z" } : Jvm.MethodName) prog_59_method_4_code (1 : Nat) (Option.some Jvm.ClassFile.FieldType.boolean), Jvm.Cond.code ({ cls := "com/example/graphwright/graphwright/cypher/RoleFollowsWithPinLaw", name := "expected", desc := "(I)Z" } : Jvm.MethodName) method_3_code (1 : Nat) (Option.some Jvm.ClassFile.FieldType.boolean)]
set_option maxRecDepth 65536 in
theorem codes_eq : words1.filter isCode = codes1 := rfl
theorem w_codes : ∀ c ∈ words1.filter isCode, c.before args0 about1 = true := by
  rw [codes_eq]
  intro c hc
  simp only [codes1, List.mem_cons, List.not_mem_nil, or_false] at hc
  rcases hc with rfl | rfl | rfl | rfl
  · exact w_c0
  · exact w_c1
  · exact w_c2
  · exact w_c3
set_option maxRecDepth 65536 in
theorem w_t1 : (words1.take 24).all (fun c => isCode c || c.before args0 about1) = true := by decide +kernel
set_option maxRecDepth 65536 in
theorem w_t2 : (words1.drop 24).all (fun c => isCode c || c.before args0 about1) = true := by decide +kernel
theorem w_tables : (allAtoms (Jvm.Cond.code x code maxLocals ret :: tables_1)).before args0 about1 = true := by
  rw [allAtoms_all]
  show words1.all (fun c => c.before args0 about1) = true
  refine all_split ?_ w_codes
  rw [← List.take_append_drop 24 words1, List.all_append, w_t1, w_t2]
  rfl
set_option maxRecDepth 65536 in
theorem w_case : (Jvm.Cond.and given_1 narrow_1).before args0 about1 = true := by decide +kernel
theorem w_applies : (headSpec (Jvm.Cond.code x code maxLocals ret :: tables_1) room_1).applies x e0.platform about1 = true :=
  (Spec.applies_iff w_frames).mpr ⟨w_running, w_runnable, w_alone, w_named, w_hears, w_ripe, w_room, w_tables⟩
theorem atStart : AtStart classFile x code maxLocals ret World_1 tables_1 room_1 Calls_1 rest_1 Pre_1 launch0 p0 e0 about1 theMethod args0 below0 :=
  ⟨lists_1, trivial, launch0.admits_env _ _ _, launch0.least_env, fairChoices_fair.cas, fairChoices_fair.clock, w_frames, w_args, w_heap, w_applies, trivial, trivial, w_case⟩
end start1
theorem witness_1 : WitnessClaimed_1 := ⟨start1.p0, start1.e0, start1.about1, start1.theMethod, start1.args0, start1.below0, start1.atStart⟩
end Jvm.Pilot.@@N@@
