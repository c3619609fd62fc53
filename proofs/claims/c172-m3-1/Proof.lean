import JvmDerived
import JvmDerived.Pilot.@@N@@Statement
import JvmDerived.Pilot.@@N@@Code
set_option linter.unusedVariables false
set_option linter.unusedSimpArgs false
namespace Jvm.Pilot.@@N@@
open Jvm Jvm.ClassFile Sem Op Lib Jvm.Free Jvm.Stand Jvm.LawKit Jvm.RoadKit Bundle Jvm.Pilot.@@N@@.Jvm.D
/-! own layer: a walk in continuation style over the library's laws of lawnew's family -/
section OwnBase
/-- from the state t the invocation over 'below' comes to its end, and F holds there -/
def own_Ends (tb : Tables) (e : Env) (below : List Frame) (F : Outcome → State → Prop) (t : State) : Prop :=
  ∃ s₂ o, Steps tb e below t s₂ ∧ s₂.status = .running ∧ Ended s₂ below o ∧ F o s₂
theorem own_go {tb : Tables} {e : Env} {below : List Frame} {F : Outcome → State → Prop} {t t' : State} (k : ∀ target, Steps tb e below t' target → Steps tb e below t target) (h : own_Ends tb e below F t') : own_Ends tb e below F t := by
  obtain ⟨s₂, o, h1, h2⟩ := h
  exact ⟨s₂, o, k _ h1, h2⟩
/-- what a contract says of the end -/
def own_F (s : State) (Q : Option Value → Heap → List Loc → Prop) (C S : Nat) (o : Outcome) (U : State) : Prop := ∃ v L, o = .returned v ∧ Q v U.heap L ∧ FrameEnd s o U L C S
abbrev own_Ctr (l : Launch) (Z : State) (y : MethodName) (bytes : ByteArray) (ml : Nat) (rt : Option FieldType) (ws : List Jvm.Cond) (rm : Room) (as : Array Value) (h0 : Heap) (Q : Option Value → Heap → List Loc → Prop) : Prop :=
  MetFree l y (head1 (Jvm.Cond.code y bytes ml rt :: ws) rm) (fun a U => a = as ∧ Z.Warmed39 U.vm ∧ U.heap = h0) (fun _ _ _ _ _ => True) (fun _ U o U' => ∃ v L, o = .returned v ∧ Q v U'.heap L ∧ FrameEnd U o U' L rm.cells rm.slots)
theorem own_enter {l : Launch} {Z : State} {y : MethodName} {bytes : ByteArray} {ml : Nat} {rt : Option FieldType} {ws : List Jvm.Cond} {rm : Room} {as : Array Value} {h0 : Heap} {Q : Option Value → Heap → List Loc → Prop} (hp : plainFor y = true)
    (body : ∀ (p : Program) (e : Env) (s : State) (m : MethodId) (below : List Frame) (meth : Method) (c : Code) (s₁ : State), BodyLoose p l y (head1 (Jvm.Cond.code y bytes ml rt :: ws) rm) bytes ml rt e s m as below meth c s₁ → Z.Warmed39 s.vm → c.maxLocals = ml → Stand p l e rm s m as below meth c s₁ [] 0 0 → s₁.heap = h0 →
      own_Ends p.tables e below (own_F s Q rm.cells rm.slots) (s₁.setTop (entryFrame m as ml))) : own_Ctr l Z y bytes ml rt ws rm as h0 Q := by
  refine MetFree.of_bodySF hp hisR ?_
  intro p e s m args below meth c s₁ Bd hml0 hP hK
  obtain ⟨rfl, hZ, hh⟩ := hP
  have e0 : s₁.heap = h0 := by rw [← hh, Bd.state]; rfl
  exact body p e s m below meth c s₁ Bd hZ hml0 (Stand.of_body Bd) e0
variable {p : Program} {l : Launch} {e : Env} {R : Room} {s : State} {m : MethodId} {args : Array Value} {below : List Frame} {meth : Method} {c : Code} {T : State} {locs : List Loc} {cells slots : Nat} {Z : State} {a0 : Array Value} {h : Heap} {Q : Option Value → Heap → List Loc → Prop} {C S : Nat}
theorem own_ret (X : Stand p l e R s m args below meth c T locs cells slots) {v : Option Value} {g : JFrame} (hv : meth.sig.returnType = none → v = none) (hlocks : meth.locks = false)
    (st : ∀ fs, (∀ (f : JFrame) (acts : List Action), f.method = m → f.locked = none → f.entered = [] → (doReturn e (T.setTop f) acts v).1 = T.setFrames fs) → Steps p.tables e below (T.setTop g) (T.setFrames fs)) (hc : cells ≤ C) (hs : slots ≤ S) (q : Q v T.heap locs) :
    own_Ends p.tables e below (own_F s Q C S) (T.setTop g) := by
  obtain ⟨fs, hr, hrun, hended, hW, hsame⟩ := X.leave (v := v) hv hlocks
  exact ⟨_, _, st fs hr, hrun, hended, v, locs, rfl, q, ⟨_, rfl⟩, hW, hsame.mono hc hs⟩
theorem own_retV (X : Stand p l e R s m args below meth c T locs cells slots) (hx : p.tables.exec = Jvm.exec) (hret : meth.sig.returnType = none) (hlocks : meth.locks = false) {pc : Nat} {Ls : Array Slot} (hd : decode c.code pc = .ok (.return_, 1)) (hc : cells ≤ C) (hs : slots ≤ S) (q : Q none T.heap locs) :
    own_Ends p.tables e below (own_F s Q C S) (T.setTop (mkF m pc Ls [])) :=
  own_ret X (fun _ => rfl) hlocks (fun fs hr => X.returnOut hx hret hd hr) hc hs q
theorem own_retZ (X : Stand p l e R s m args below meth c T locs cells slots) (hx : p.tables.exec = Jvm.exec) (hret : meth.sig.returnType = some .boolean) (hlocks : meth.locks = false) {pc : Nat} {Ls : Array Slot} {z : Int32} {rest : List Value} (hz : nar .boolean z = z) (hd : decode c.code pc = .ok (.ireturn, 1)) (hc : cells ≤ C) (hs : slots ≤ S) (q : Q (some (.int z)) T.heap locs) :
    own_Ends p.tables e below (own_F s Q C S) (T.setTop (mkF m pc Ls (.int z :: rest))) :=
  own_ret X (v := some (.int z)) (fun q => by rw [hret] at q; cases q) hlocks (fun fs hr => retN X hx (t := .boolean) hret (by simp) hd (by rw [hz]; exact hr)) hc hs q
theorem own_retI (X : Stand p l e R s m args below meth c T locs cells slots) (hx : p.tables.exec = Jvm.exec) (hret : meth.sig.returnType = some .int) (hlocks : meth.locks = false) {pc : Nat} {Ls : Array Slot} {z : Int32} {rest : List Value} (hd : decode c.code pc = .ok (.ireturn, 1)) (hc : cells ≤ C) (hs : slots ≤ S) (q : Q (some (.int z)) T.heap locs) :
    own_Ends p.tables e below (own_F s Q C S) (T.setTop (mkF m pc Ls (.int z :: rest))) :=
  own_ret X (v := some (.int z)) (fun q => by rw [hret] at q; cases q) hlocks (fun fs hr => retOut X hx hret rfl (Or.inl ⟨rfl, Or.inl rfl, _, rfl⟩) hd hr) hc hs q
theorem own_retJ (X : Stand p l e R s m args below meth c T locs cells slots) (hx : p.tables.exec = Jvm.exec) (hret : meth.sig.returnType = some .long) (hlocks : meth.locks = false) {pc : Nat} {Ls : Array Slot} {z : Int64} {rest : List Value} (hd : decode c.code pc = .ok (.lreturn, 1)) (hc : cells ≤ C) (hs : slots ≤ S) (q : Q (some (.long z)) T.heap locs) :
    own_Ends p.tables e below (own_F s Q C S) (T.setTop (mkF m pc Ls (.long z :: rest))) :=
  own_ret X (v := some (.long z)) (fun q => by rw [hret] at q; cases q) hlocks (fun fs hr => retOut X hx hret rfl (Or.inr (Or.inl ⟨rfl, rfl, _, rfl⟩)) hd hr) hc hs q
theorem own_retD (X : Stand p l e R s m args below meth c T locs cells slots) (hx : p.tables.exec = Jvm.exec) (hret : meth.sig.returnType = some .double) (hlocks : meth.locks = false) {pc : Nat} {Ls : Array Slot} {z : UInt64} {rest : List Value} (hd : decode c.code pc = .ok (.dreturn, 1)) (hc : cells ≤ C) (hs : slots ≤ S) (q : Q (some (.double z)) T.heap locs) :
    own_Ends p.tables e below (own_F s Q C S) (T.setTop (mkF m pc Ls (.double z :: rest))) :=
  own_ret X (v := some (.double z)) (fun q => by rw [hret] at q; cases q) hlocks (fun fs hr => retOut X hx hret rfl (Or.inr (Or.inr (Or.inl ⟨rfl, rfl, _, rfl⟩))) hd hr) hc hs q
theorem own_retA (X : Stand p l e R s m args below meth c T locs cells slots) (hx : p.tables.exec = Jvm.exec) {t : FieldType} (hret : meth.sig.returnType = some t) (hlocks : meth.locks = false) {pc : Nat} {Ls : Array Slot} {w : Value} {rest : List Value} (hd : decode c.code pc = .ok (.areturn, 1)) (ht : t.isReference = true) (hw : w.isRef = true) (hc : cells ≤ C) (hs : slots ≤ S) (q : Q (some w) T.heap locs) :
    own_Ends p.tables e below (own_F s Q C S) (T.setTop (mkF m pc Ls (w :: rest))) :=
  own_ret X (v := some w) (fun q => by rw [hret] at q; cases q) hlocks (fun fs hr => retOut X hx hret (by cases t <;> first | (cases ht; done) | (cases w <;> first | (cases hw; done) | rfl)) (Or.inr (Or.inr (Or.inr (Or.inr ⟨rfl, ht, hw⟩)))) hd hr) hc hs q
theorem own_special (X : Stand p l e R s m args below meth c T locs cells slots) (hx : p.tables.exec = Jvm.exec) (hZ : Z.Warmed39 s.vm) {own : String} {index : Nat} {y : MethodName} (hy1 : y.name = "<init>") (hown : s.vm.findClass own = some m.cls)
    (w1 : (Jvm.Cond.methodLink own index y).before a0 Z = true) (w2 : (Jvm.Cond.instanceMethod y).before a0 Z = true) {bytes : ByteArray} {maxL : Nat} (w3 : (Jvm.Cond.code y bytes maxL none).before a0 Z = true) (w4 : (Jvm.Cond.initialized y.cls).before a0 Z = true)
    (hy : y.cls ≠ "java/lang/invoke/MethodHandle" ∧ y.cls ≠ "java/lang/invoke/VarHandle") {rm : Room} {a : Addr} {argsL rest : List Value}
    (K : own_Ctr l Z y bytes maxL none [] rm (.ref a :: argsL).toArray h Q) (eT : T.heap = h) {g : JFrame} (hg : g.method = m) (hsize : g.locals.size = c.maxLocals)
    (hlen : ∀ sig, parseMethodDescriptor y.desc = some sig → argsL.length = sig.parameters.length) (hst : g.stack = argsL.reverse ++ .ref a :: rest) {W : Nat} (hW : 2 * g.monitorRoom + (rest.map fun v => v.category).sum ≤ W)
    (hd : decode c.code g.pc = .ok (.invokespecial index, 3)) (hf : rm.frames + 1 ≤ R.frames) (hlo : W + (maxL + 11) + rm.locals ≤ R.locals) (hc : cells + rm.cells ≤ R.cells) (hs : slots + rm.slots ≤ R.slots) :
    ∃ T' L v, Stand p l e R s m args below meth c T' (locs ++ L) (cells + rm.cells) (slots + rm.slots) ∧ Q v T'.heap L ∧ ∀ target, Steps p.tables e below (T'.setTop { g with pc := g.pc + 3, stack := v.toList ++ rest }) target → Steps p.tables e below (T.setTop g) target := by
  obtain ⟨v, _, ⟨T', L', k', n'⟩, -, X', ⟨L, hQ, l1, y1, z1⟩, st⟩ := X.specialBack hx (y := y) hy1 hown (mvT hZ w1) (mvT hZ w2) (mvT hZ w3) hy (backOf (W := W) K hZ w3 w4 hf hlo) (g := g) hg hsize (Steps.refl _) (a := a) (argsL := argsL) (rest := rest) hlen hst hW hd (fun _ _ => ⟨rfl, eT, hc, hs⟩)
  dsimp only [Pt.U, Pt.locs, Pt.cells, Pt.slots] at X' l1 y1 z1 st hQ
  subst l1 y1 z1
  exact ⟨T', L, v, X', hQ, fun t k => st.trans k⟩
theorem own_static (X : Stand p l e R s m args below meth c T locs cells slots) (hx : p.tables.exec = Jvm.exec) (hZ : Z.Warmed39 s.vm) {own : String} {index : Nat} {y : MethodName} (hown : s.vm.findClass own = some m.cls)
    (w1 : (Jvm.Cond.methodLink own index y).before a0 Z = true) (w2 : (Jvm.Cond.static y).before a0 Z = true) (w4 : (Jvm.Cond.initialized y.cls).before a0 Z = true) {bytes : ByteArray} {maxL : Nat} {rt : Option FieldType} (w3 : (Jvm.Cond.code y bytes maxL rt).before a0 Z = true)
    (hy : y.cls ≠ "java/lang/invoke/MethodHandle" ∧ y.cls ≠ "java/lang/invoke/VarHandle") {rm : Room} {argsL rest : List Value}
    (K : own_Ctr l Z y bytes maxL rt [] rm argsL.toArray h Q) (eT : T.heap = h) {g : JFrame} (hg : g.method = m) (hsize : g.locals.size = c.maxLocals)
    (hlen : ∀ sig, parseMethodDescriptor y.desc = some sig → argsL.length = sig.parameters.length) (hst : g.stack = argsL.reverse ++ rest) {W : Nat} (hW : 2 * g.monitorRoom + (rest.map fun v => v.category).sum ≤ W)
    (hd : decode c.code g.pc = .ok (.invokestatic index, 3)) (hf : rm.frames + 1 ≤ R.frames) (hlo : W + (maxL + 11) + rm.locals ≤ R.locals) (hc : cells + rm.cells ≤ R.cells) (hs : slots + rm.slots ≤ R.slots) :
    ∃ T' L v, Stand p l e R s m args below meth c T' (locs ++ L) (cells + rm.cells) (slots + rm.slots) ∧ Q v T'.heap L ∧ ∀ target, Steps p.tables e below (T'.setTop { g with pc := g.pc + 3, stack := v.toList ++ rest }) target → Steps p.tables e below (T.setTop g) target := by
  obtain ⟨v, _, ⟨T', L', k', n'⟩, -, X', ⟨L, hQ, l1, y1, z1⟩, st⟩ := Jvm.LawKit.callS X hx (y := y) hown (mvT hZ w1) (mvT hZ w2) (mvT hZ w4) (mvT hZ w3) hy (backOf (W := W) K hZ w3 w4 hf hlo) (g := g) hg hsize (argsL := argsL) (rest := rest) hlen hst hW hd (fun _ _ => ⟨rfl, eT, hc, hs⟩)
  dsimp only [Pt.U, Pt.locs, Pt.cells, Pt.slots] at X' l1 y1 z1 st hQ
  subst l1 y1 z1
  exact ⟨T', L, v, X', hQ, st⟩
theorem own_virtual (X : Stand p l e R s m args below meth c T locs cells slots) (hx : p.tables.exec = Jvm.exec) (hZ : Z.Warmed39 s.vm) {own : String} {index : Nat} {y : MethodName} (hown : s.vm.findClass own = some m.cls)
    (w1 : (Jvm.Cond.methodLink own index y).before a0 Z = true) (w2 : (Jvm.Cond.declares y).before a0 Z = true) (w5 : (Jvm.Cond.selects y.cls y y).before a0 Z = true) (w6 : (Jvm.Cond.instanceMethod y).before a0 Z = true) {bytes : ByteArray} {maxL : Nat} {rt : Option FieldType} (w3 : (Jvm.Cond.code y bytes maxL rt).before a0 Z = true) (w4 : (Jvm.Cond.initialized y.cls).before a0 Z = true)
    (hy : y.cls ≠ "java/lang/invoke/MethodHandle" ∧ y.cls ≠ "java/lang/invoke/VarHandle") {rm : Room} {a : Addr} {argsL rest : List Value} (E : Exa Z h a y.cls)
    (K : own_Ctr l Z y bytes maxL rt [] rm (.ref a :: argsL).toArray h Q) (eT : T.heap = h) {g : JFrame} (hg : g.method = m) (hsize : g.locals.size = c.maxLocals)
    (hlen : ∀ sig, parseMethodDescriptor y.desc = some sig → argsL.length = sig.parameters.length) (hst : g.stack = argsL.reverse ++ .ref a :: rest) {W : Nat} (hW : 2 * g.monitorRoom + (rest.map fun v => v.category).sum ≤ W)
    (hd : decode c.code g.pc = .ok (.invokevirtual index, 3)) (hf : rm.frames + 1 ≤ R.frames) (hlo : W + (maxL + 11) + rm.locals ≤ R.locals) (hc : cells + rm.cells ≤ R.cells) (hs : slots + rm.slots ≤ R.slots) :
    ∃ T' L v, Stand p l e R s m args below meth c T' (locs ++ L) (cells + rm.cells) (slots + rm.slots) ∧ Q v T'.heap L ∧ ∀ target, Steps p.tables e below (T'.setTop { g with pc := g.pc + 3, stack := v.toList ++ rest }) target → Steps p.tables e below (T.setTop g) target := by
  obtain ⟨cq, kq, qa, qb, qc⟩ := isOf hZ eT E
  obtain ⟨v, _, ⟨T', L', k', n'⟩, -, X', ⟨L, hQ, l1, y1, z1⟩, st⟩ := X.virtualBack hx (y := y) (z := y) hown (mvT hZ w1) (mvT hZ w2) (notFace_of_selects (args := #[]) (mvT hZ w5)) (mvT hZ w5) (mvT hZ w6) hy (backOf (W := W) K hZ w3 w4 hf hlo) qa qc (g := g) hg hsize (Steps.refl _) (argsL := argsL) (rest := rest) hlen hst hW hd (fun _ _ => ⟨rfl, eT, hc, hs⟩)
  dsimp only [Pt.U, Pt.locs, Pt.cells, Pt.slots] at X' l1 y1 z1 st hQ
  subst l1 y1 z1
  exact ⟨T', L, v, X', hQ, fun t k => st.trans k⟩
/-- a field is still there behind a write, whatever it holds -/
theorem own_any {h h' : Heap} {a b : Addr} {sl : Nat} {v w : Value} {C0 n d : String} (W : Wr h h' a sl v) (F : Fld Z h b C0 n d w) : ∃ w', Fld Z h' b C0 n d w' := by
  obtain ⟨cell, cf, k, i, f, h1, h2, h3, h4, h5, h6, h7⟩ := F
  obtain ⟨c', e1, e2, e3, e4, -⟩ := wr_at W h1
  have hl := (Array.getElem?_eq_some_iff.mp h7).1
  exact ⟨_, c', cf, k, i, f, e1, h2, h3, by rw [e3]; exact h4, by rw [e3]; exact h5, by rw [e2]; exact h6, Array.getElem?_eq_getElem (by rw [e4]; exact hl)⟩
end OwnBase
section OwnMore
variable {p : Program} {l : Launch} {e : Env} {R : Room} {s : State} {vm0 : Vm} {m : MethodId} {args : Array Value} {below : List Frame} {meth : Method} {c : Code} {T : State} {locs : List Loc} {cells slots : Nat} {Z : State} {a0 : Array Value} {h : Heap} {Q : Option Value → Heap → List Loc → Prop}
/-- a private method called by invokevirtual; that its class is no interface comes of another method's word -/
theorem own_private (X : Stand p l e R s m args below meth c T locs cells slots) (hx : p.tables.exec = Jvm.exec) (hZ : Z.Warmed39 s.vm) {own C0 : String} {index : Nat} {y x0 z0 : MethodName} (hown : s.vm.findClass own = some m.cls)
    (w1 : (Jvm.Cond.methodLink own index y).before a0 Z = true) (w2 : (Jvm.Cond.instanceMethod y).before a0 Z = true) (w5 : (Jvm.Cond.selects C0 x0 z0).before a0 Z = true) (hz0 : z0.cls = y.cls) (w6 : (Jvm.Cond.privateMethod y).before a0 Z = true) {bytes : ByteArray} {maxL : Nat} {rt : Option FieldType} (w3 : (Jvm.Cond.code y bytes maxL rt).before a0 Z = true) (w4 : (Jvm.Cond.initialized y.cls).before a0 Z = true)
    (hy : y.cls ≠ "java/lang/invoke/MethodHandle" ∧ y.cls ≠ "java/lang/invoke/VarHandle") {rm : Room} {a : Addr} {argsL rest : List Value} {C1 : String} (E : Exa Z h a C1)
    (K : own_Ctr l Z y bytes maxL rt [] rm (.ref a :: argsL).toArray h Q) (eT : T.heap = h) {g : JFrame} (hg : g.method = m) (hsize : g.locals.size = c.maxLocals)
    (hlen : ∀ sig, parseMethodDescriptor y.desc = some sig → argsL.length = sig.parameters.length) (hst : g.stack = argsL.reverse ++ .ref a :: rest) {W : Nat} (hW : 2 * g.monitorRoom + (rest.map fun v => v.category).sum ≤ W)
    (hd : decode c.code g.pc = .ok (.invokevirtual index, 3)) (hf : rm.frames + 1 ≤ R.frames) (hlo : W + (maxL + 11) + rm.locals ≤ R.locals) (hc : cells + rm.cells ≤ R.cells) (hs : slots + rm.slots ≤ R.slots) :
    ∃ T' L v, Stand p l e R s m args below meth c T' (locs ++ L) (cells + rm.cells) (slots + rm.slots) ∧ Q v T'.heap L ∧ ∀ target, Steps p.tables e below (T'.setTop { g with pc := g.pc + 3, stack := v.toList ++ rest }) target → Steps p.tables e below (T.setTop g) target := by
  have v2 : (Jvm.Cond.instanceMethod y).before args s = true := mvT hZ w2
  have v3 : (Jvm.Cond.code y bytes maxL rt).before args s = true := mvT hZ w3
  have v5 : (Jvm.Cond.selects C0 x0 z0).before args s = true := mvT hZ w5
  obtain ⟨mk, methM, hnamed, hmethM, hstM, habM⟩ := Cond.instanceMethod_spec v2
  obtain ⟨methM', cM, hmethM', -, -, -, -, -, -, hsigM⟩ := Cond.code_spec hnamed v3
  cases hmethM.symm.trans hmethM'
  obtain ⟨c2, r2, m2, -, -, q3, -, kP, hkP, hkPi⟩ := Cond.selects_spec v5
  have e1 := findClass_of_methodNamed q3
  have e2 := findClass_of_methodNamed hnamed
  rw [hz0] at e1
  rw [Option.some.inj (e1.symm.trans e2)] at hkP
  have hpr : s.PrivateAt y := Cond.privateMethod_at (mvP hZ w6 (args := args))
  obtain ⟨cell, hcell, hobj⟩ := E.cell
  have hselP : selectMethod e.platform s.vm cell.cls mk = .method mk := selectMethod_private hmethM (hpr mk methM hnamed hmethM)
  obtain ⟨vm₁, X₁, hstep₁⟩ := X.invokevirtual hx hown (mvT hZ w1) hnamed hmethM hstM hkP hkPi hy (a := a) (cell := cell) (by rw [eT]; exact hcell) hobj hselP hmethM habM hkP hkPi (g := g) hg (argsL := argsL) (rest := rest) (hlen _ hsigM) hst hd
  obtain ⟨v, ⟨T', L', k', n'⟩, X', ⟨L, hQ, l1, y1, z1⟩, hsteps⟩ := backOf (args := args) (W := W) (len := 3) K hZ w3 w4 hf hlo m meth c (T.setVm vm₁, locs, cells, slots) { g with stack := rest } (.invokevirtual index) mk (.ref a :: argsL).toArray X₁ hg hsize hd hW (X₁.named hnamed) ⟨rfl, eT, hc, hs⟩
  dsimp only [Pt.U, Pt.locs, Pt.cells, Pt.slots] at X' l1 y1 z1 hsteps hQ
  subst l1 y1 z1
  exact ⟨T', L, v, X', hQ, fun t k => (hstep₁ _ fun acts => by rw [doInvoke_state]; exact Steps.refl _).trans (hsteps.trans k)⟩
end OwnMore
/-! own layer: arrays by a function of the place -/
section OwnArr
def own_Ar (Z : State) (h : Heap) (a : Addr) (ty : FieldType) (n : Nat) (f : Nat → Value) : Prop := ∃ c : Cell, Arr Z h a c ty ∧ c.slots.size = n ∧ ∀ j, j < n → c.slots[j]? = some (f j)
def own_upd (f : Nat → Value) (i : Nat) (v : Value) : Nat → Value := fun j => if j = i then v else f j
variable {p : Program} {l : Launch} {e : Env} {R : Room} {s : State} {m : MethodId} {args : Array Value} {below : List Frame} {meth : Method} {c : Code} {T : State} {locs : List Loc} {cells slots : Nat} {Z : State} {a0 : Array Value} {h h' : Heap} {a b : Addr} {ty : FieldType} {n i sl : Nat} {f g0 : Nat → Value} {v : Value} {ws : List Addr}
theorem own_Ar_ext (E : Ext h h') (A : own_Ar Z h a ty n f) : own_Ar Z h' a ty n f := by obtain ⟨c, A, r⟩ := A; exact ⟨c, A.ext E, r⟩
theorem own_Ar_keep (K : Keep h h' ws) (q : a ∉ ws) (A : own_Ar Z h a ty n f) : own_Ar Z h' a ty n f := by obtain ⟨c, A, r⟩ := A; exact ⟨c, ⟨K.2.1 a c A.1 q, A.2⟩, r⟩
theorem own_Ar_other (W : Wr h h' b sl v) (q : a ≠ b) (A : own_Ar Z h a ty n f) : own_Ar Z h' a ty n f := by obtain ⟨c, A, r⟩ := A; exact ⟨c, A.other W q, r⟩
theorem own_Ar_congr (A : own_Ar Z h a ty n f) (q : ∀ j, j < n → f j = g0 j) : own_Ar Z h a ty n g0 := by
  obtain ⟨c, A, r1, r2⟩ := A
  exact ⟨c, A, r1, fun j hj => by rw [r2 j hj, q j hj]⟩
theorem own_Ar_lt (A : own_Ar Z h a ty n f) : a < h.size := by obtain ⟨c, A, -⟩ := A; exact A.lt
theorem own_Ar_same (W : Wr h h' a i v) (hi : i < n) (A : own_Ar Z h a ty n f) : own_Ar Z h' a ty n (own_upd f i v) := by
  obtain ⟨c, A, r1, r2⟩ := A
  refine ⟨_, A.same W, by rw [sz_set]; exact r1, fun j hj => ?_⟩
  show (c.slots.setIfInBounds i v)[j]? = some (own_upd f i v j)
  unfold own_upd
  by_cases q : j = i
  · subst q
    rw [if_pos rfl, Array.getElem?_setIfInBounds_self_of_lt (by omega)]
  · rw [if_neg q, Array.getElem?_setIfInBounds_ne (Ne.symm q)]
    exact r2 j hj
theorem own_clamp {i : Nat} (h : i < 2 ^ 31) : (Int32.ofNat i).toNatClampNeg = i := by
  have q : (Int32.ofNat i).toInt = i := Int32.toInt_ofNat_of_lt h
  simp only [Int32.toNatClampNeg, q]
  omega
theorem own_Ar_new {cA : ClassId} (hn : n < 2 ^ 31) (A : Arr Z h a (newA cA ty (Int32.ofNat n)) ty) : own_Ar Z h a ty n (fun _ => defaultValue ty) := by
  refine ⟨_, A, by rw [sz_new, own_clamp hn], fun j hj => ?_⟩
  have q : ¬ ((Int32.ofNat j) < 0 ∨ (Int32.ofNat n).toNatClampNeg ≤ (Int32.ofNat j).toNatClampNeg) := by rw [own_clamp hn]; exact idx_in hj hn
  have := get_new (cA := cA) (ty := ty) (n := Int32.ofNat n) (k := Int32.ofNat j) q
  rw [own_clamp (by omega)] at this
  exact this
theorem own_alen (X : Stand p l e R s m args below meth c T locs cells slots) (hx : p.tables.exec = Jvm.exec) (hZ : Z.Warmed39 s.vm) (eT : T.heap = h) (A : own_Ar Z h a ty n f) {g : JFrame} (hg : g.method = m) {rest : List Value} (hs : g.stack = .ref a :: rest) (hd : decode c.code g.pc = .ok (.arraylength, 1)) :
    ∀ target, Steps p.tables e below (T.setTop { g with pc := g.pc + 1, stack := .int (Int32.ofNat n) :: rest }) target → Steps p.tables e below (T.setTop g) target := by
  obtain ⟨c0, A, r1, -⟩ := A
  subst r1
  exact fun target k => X.arraylength hx (by rw [eT]; exact A.1) (State.isArrayOf_alike hZ.alike A.2.1) hg hs hd target k
theorem own_ldZ (X : Stand p l e R s m args below meth c T locs cells slots) (hx : p.tables.exec = Jvm.exec) (hZ : Z.Warmed39 s.vm) (eT : T.heap = h) (A : own_Ar Z h a .boolean n f) (hn : n < 2 ^ 31) (hi : i < n) (hv : f i = v) {g : JFrame} (hg : g.method = m) {rest : List Value} (hs : g.stack = .int (Int32.ofNat i) :: .ref a :: rest) (hd : decode c.code g.pc = .ok (.baload, 1)) :
    ∀ target, Steps p.tables e below (T.setTop { g with pc := g.pc + 1, stack := v :: rest }) target → Steps p.tables e below (T.setTop g) target := by
  obtain ⟨c0, A, r1, r2⟩ := A
  exact X.baloadBooleans hx (j := Int32.ofNat i) (by rw [eT]; exact A.1) (State.isArrayOf_alike hZ.alike A.2.1) A.2.2 (by rw [r1]; exact idx_in hi hn) (by rw [own_clamp (by omega), ← hv]; exact r2 i hi) hg hs hd
theorem own_ldI (X : Stand p l e R s m args below meth c T locs cells slots) (hx : p.tables.exec = Jvm.exec) (hZ : Z.Warmed39 s.vm) (eT : T.heap = h) (A : own_Ar Z h a .int n f) (hn : n < 2 ^ 31) (hi : i < n) (hv : f i = v) {g : JFrame} (hg : g.method = m) {rest : List Value} (hs : g.stack = .int (Int32.ofNat i) :: .ref a :: rest) (hd : decode c.code g.pc = .ok (.iaload, 1)) :
    ∀ target, Steps p.tables e below (T.setTop { g with pc := g.pc + 1, stack := v :: rest }) target → Steps p.tables e below (T.setTop g) target := by
  obtain ⟨c0, A, r1, r2⟩ := A
  exact X.iaload hx (j := Int32.ofNat i) (by rw [eT]; exact A.1) (State.isArrayOf_alike hZ.alike A.2.1) A.2.2 (by rw [r1]; exact idx_in hi hn) (by rw [own_clamp (by omega), ← hv]; exact r2 i hi) hg hs hd
theorem own_ldJ (X : Stand p l e R s m args below meth c T locs cells slots) (hx : p.tables.exec = Jvm.exec) (hZ : Z.Warmed39 s.vm) (eT : T.heap = h) (A : own_Ar Z h a .long n f) (hn : n < 2 ^ 31) (hi : i < n) (hv : f i = v) {g : JFrame} (hg : g.method = m) {rest : List Value} (hs : g.stack = .int (Int32.ofNat i) :: .ref a :: rest) (hd : decode c.code g.pc = .ok (.laload, 1)) :
    ∀ target, Steps p.tables e below (T.setTop { g with pc := g.pc + 1, stack := v :: rest }) target → Steps p.tables e below (T.setTop g) target := by
  obtain ⟨c0, A, r1, r2⟩ := A
  exact X.laload hx (j := Int32.ofNat i) (by rw [eT]; exact A.1) (State.isArrayOf_alike hZ.alike A.2.1) A.2.2 (by rw [r1]; exact idx_in hi hn) (by rw [own_clamp (by omega), ← hv]; exact r2 i hi) hg hs hd
theorem own_ldD (X : Stand p l e R s m args below meth c T locs cells slots) (hx : p.tables.exec = Jvm.exec) (hZ : Z.Warmed39 s.vm) (eT : T.heap = h) (A : own_Ar Z h a .double n f) (hn : n < 2 ^ 31) (hi : i < n) (hv : f i = v) {g : JFrame} (hg : g.method = m) {rest : List Value} (hs : g.stack = .int (Int32.ofNat i) :: .ref a :: rest) (hd : decode c.code g.pc = .ok (.daload, 1)) :
    ∀ target, Steps p.tables e below (T.setTop { g with pc := g.pc + 1, stack := v :: rest }) target → Steps p.tables e below (T.setTop g) target := by
  obtain ⟨c0, A, r1, r2⟩ := A
  exact X.daload hx (j := Int32.ofNat i) (by rw [eT]; exact A.1) (State.isArrayOf_alike hZ.alike A.2.1) A.2.2 (by rw [r1]; exact idx_in hi hn) (by rw [own_clamp (by omega), ← hv]; exact r2 i hi) hg hs hd
theorem own_stZ (X : Stand p l e R s m args below meth c T locs cells slots) (hx : p.tables.exec = Jvm.exec) (hZ : Z.Warmed39 s.vm) (eT : T.heap = h) (A : own_Ar Z h a .boolean n f) (hn : n < 2 ^ 31) (hi : i < n) {x : Int32} (hxx : nar .boolean x = x) {g : JFrame} (hg : g.method = m) {rest : List Value} (hs : g.stack = .int x :: .int (Int32.ofNat i) :: .ref a :: rest) (hd : decode c.code g.pc = .ok (.bastore, 1)) :
    ∃ T' h', Stand p l e R s m args below meth c T' (locs ++ [⟨a, i⟩]) cells slots ∧ T'.heap = h' ∧ Wr h h' a i (.int x) ∧ own_Ar Z h' a .boolean n (own_upd f i (.int x)) ∧ ∀ target, Steps p.tables e below (T'.setTop { g with pc := g.pc + 1, stack := rest }) target → Steps p.tables e below (T.setTop g) target := by
  have A' := A
  obtain ⟨c0, A, r1, r2⟩ := A
  obtain ⟨T', h', X', e', W, st⟩ := stZ X hx hZ eT A (j := Int32.ofNat i) (x := x) (by rw [r1]; exact idx_in hi hn) hg hs hd
  rw [own_clamp (by omega)] at X' W
  rw [hxx] at W
  exact ⟨T', h', X', e', W, own_Ar_same W hi A', st⟩
theorem own_stI (X : Stand p l e R s m args below meth c T locs cells slots) (hx : p.tables.exec = Jvm.exec) (hZ : Z.Warmed39 s.vm) (eT : T.heap = h) (A : own_Ar Z h a .int n f) (hn : n < 2 ^ 31) (hi : i < n) {x : Int32} {g : JFrame} (hg : g.method = m) {rest : List Value} (hs : g.stack = .int x :: .int (Int32.ofNat i) :: .ref a :: rest) (hd : decode c.code g.pc = .ok (.iastore, 1)) :
    ∃ T' h', Stand p l e R s m args below meth c T' (locs ++ [⟨a, i⟩]) cells slots ∧ T'.heap = h' ∧ Wr h h' a i (.int x) ∧ own_Ar Z h' a .int n (own_upd f i (.int x)) ∧ ∀ target, Steps p.tables e below (T'.setTop { g with pc := g.pc + 1, stack := rest }) target → Steps p.tables e below (T.setTop g) target := by
  have A' := A
  obtain ⟨c0, A, r1, r2⟩ := A
  obtain ⟨T', h', X', e', W, st⟩ := stI X hx hZ eT A (j := Int32.ofNat i) (x := x) (by rw [r1]; exact idx_in hi hn) hg hs hd
  rw [own_clamp (by omega)] at X' W
  exact ⟨T', h', X', e', W, own_Ar_same W hi A', st⟩
theorem own_stJ (X : Stand p l e R s m args below meth c T locs cells slots) (hx : p.tables.exec = Jvm.exec) (hZ : Z.Warmed39 s.vm) (eT : T.heap = h) (A : own_Ar Z h a .long n f) (hn : n < 2 ^ 31) (hi : i < n) {x : Int64} {g : JFrame} (hg : g.method = m) {rest : List Value} (hs : g.stack = .long x :: .int (Int32.ofNat i) :: .ref a :: rest) (hd : decode c.code g.pc = .ok (.lastore, 1)) :
    ∃ T' h', Stand p l e R s m args below meth c T' (locs ++ [⟨a, i⟩]) cells slots ∧ T'.heap = h' ∧ Wr h h' a i (.long x) ∧ own_Ar Z h' a .long n (own_upd f i (.long x)) ∧ ∀ target, Steps p.tables e below (T'.setTop { g with pc := g.pc + 1, stack := rest }) target → Steps p.tables e below (T.setTop g) target := by
  have A' := A
  obtain ⟨c0, A, r1, r2⟩ := A
  obtain ⟨T', h', X', e', W, st⟩ := stJ X hx hZ eT A (j := Int32.ofNat i) (x := x) (by rw [r1]; exact idx_in hi hn) hg hs hd
  rw [own_clamp (by omega)] at X' W
  exact ⟨T', h', X', e', W, own_Ar_same W hi A', st⟩
theorem own_stD (X : Stand p l e R s m args below meth c T locs cells slots) (hx : p.tables.exec = Jvm.exec) (hZ : Z.Warmed39 s.vm) (eT : T.heap = h) (A : own_Ar Z h a .double n f) (hn : n < 2 ^ 31) (hi : i < n) {x : UInt64} {g : JFrame} (hg : g.method = m) {rest : List Value} (hs : g.stack = .double x :: .int (Int32.ofNat i) :: .ref a :: rest) (hd : decode c.code g.pc = .ok (.dastore, 1)) :
    ∃ T' h', Stand p l e R s m args below meth c T' (locs ++ [⟨a, i⟩]) cells slots ∧ T'.heap = h' ∧ Wr h h' a i (.double x) ∧ own_Ar Z h' a .double n (own_upd f i (.double x)) ∧ ∀ target, Steps p.tables e below (T'.setTop { g with pc := g.pc + 1, stack := rest }) target → Steps p.tables e below (T.setTop g) target := by
  have A' := A
  obtain ⟨c0, A, r1, r2⟩ := A
  obtain ⟨T', h', X', e', W, st⟩ := stD X hx hZ eT A (j := Int32.ofNat i) (x := x) (by rw [r1]; exact idx_in hi hn) hg hs hd
  rw [own_clamp (by omega)] at X' W
  exact ⟨T', h', X', e', W, own_Ar_same W hi A', st⟩
end OwnArr
/-! own layer: small numbers, a copy between arrays, the table's arithmetic -/
section OwnTab
theorem own_i32 {i : Nat} (h : i < 2147483648) : (Int32.ofNat i).toInt = i := Int32.toInt_ofNat_of_lt h
theorem own_ilt {a b : Nat} (ha : a < 2147483648) (hb : b < 2147483648) : Int32.ofNat a < Int32.ofNat b ↔ a < b := by
  rw [Int32.lt_iff_toInt_lt, own_i32 ha, own_i32 hb]; omega
theorem own_nlt {a b : Nat} (ha : a < 2147483648) (hb : b < 2147483648) (h : b ≤ a) : ¬ Int32.ofNat a < Int32.ofNat b := fun q => by
  have := (own_ilt ha hb).mp q
  omega
theorem own_ine {a b : Nat} (ha : a < 2147483648) (hb : b < 2147483648) (h : a ≠ b) : Int32.ofNat a ≠ Int32.ofNat b := fun q => h (by
  have := congrArg Int32.toInt q
  rw [own_i32 ha, own_i32 hb] at this
  omega)
theorem own_pos {a : Nat} (ha : a < 2147483648) : ¬ Int32.ofNat a < 0 := own_nlt (b := 0) ha (by omega) (by omega)
theorem own_succ (n : Nat) : Int32.ofNat n + 1 = Int32.ofNat (n + 1) := (Int32.ofNat_add n 1).symm
theorem own_add (a b : Nat) : Int32.ofNat a + Int32.ofNat b = Int32.ofNat (a + b) := (Int32.ofNat_add a b).symm
theorem own_add3 (n : Nat) : Int32.ofNat n + 3 = Int32.ofNat (n + 3) := (Int32.ofNat_add n 3).symm
theorem own_add4 (n : Nat) : (4 : Int32) + Int32.ofNat n = Int32.ofNat (4 + n) := (Int32.ofNat_add 4 n).symm
theorem own_pred {n : Nat} (h : 1 ≤ n) : Int32.ofNat n - 1 = Int32.ofNat (n - 1) := by
  obtain ⟨m, rfl⟩ : ∃ m, n = m + 1 := ⟨n - 1, by omega⟩
  rw [← own_succ, Nat.add_sub_cancel]
  exact Int32.add_sub_cancel _ _
theorem own_self (n : Nat) : Int32.ofNat n - Int32.ofNat n = Int32.ofNat 0 := Int32.sub_self _
theorem own_nin1 {a x : Nat} (h : a ≠ x) : a ∉ ([x] : List Nat) := fun q => h (List.mem_singleton.mp q)
theorem own_nin3 {a x y z : Nat} (h : a ≠ x ∧ a ≠ y ∧ a ≠ z) : a ∉ ([x, y, z] : List Nat) := fun q => by
  simp only [List.mem_cons, List.not_mem_nil, or_false] at q
  omega
theorem own_nin7 {a x1 x2 x3 x4 x5 x6 x7 : Nat} (h : a ≠ x1 ∧ a ≠ x2 ∧ a ≠ x3 ∧ a ≠ x4 ∧ a ≠ x5 ∧ a ≠ x6 ∧ a ≠ x7) : a ∉ ([x1, x2, x3, x4, x5, x6, x7] : List Nat) := fun q => by
  simp only [List.mem_cons, List.not_mem_nil, or_false] at q
  omega
theorem own_sub {ws ws' : List Nat} {n : Nat} (h : ws' ⊆ ws) : ∀ x ∈ ws', x ∈ ws ∨ n ≤ x := fun x q => Or.inl (h q)
theorem own_far {x : Nat} {ws : List Nat} {n : Nat} (h : n ≤ x) : ∀ y ∈ ([x] : List Nat), y ∈ ws ∨ n ≤ y := fun y q => Or.inr (by cases List.mem_singleton.mp q; exact h)
theorem own_far3 {x y z : Nat} {ws : List Nat} {n : Nat} (h : n ≤ x ∧ n ≤ y ∧ n ≤ z) : ∀ u ∈ ([x, y, z] : List Nat), u ∈ ws ∨ n ≤ u := fun u q => Or.inr (by
  simp only [List.mem_cons, List.not_mem_nil, or_false] at q
  omega)
theorem own_exlt {Z : State} {h : Heap} {a : Nat} {C0 : String} (E : Exa Z h a C0) : a < h.size := by
  obtain ⟨c, k, h1, -⟩ := E
  exact (Array.getElem?_eq_some_iff.mp h1).1
theorem own_arlt {Z : State} {h : Heap} {a n : Nat} {ty : FieldType} {f : Nat → Value} (A : own_Ar Z h a ty n f) : a < Array.size h := own_Ar_lt A
theorem own_Ar_oth {Z : State} {h h' : Heap} {a b n sl : Nat} {v : Value} {ty : FieldType} {f : Nat → Value} (W : Wr h h' b sl v) (q : a ≠ b) (A : own_Ar Z h a ty n f) : own_Ar Z h' a ty n f := own_Ar_other W q A
theorem own_Fr_copy {n0 b q k : Nat} (g : n0 ≤ b) : Fr n0 (copyLocs b q k) := fun y hy => by rw [copyLocs_base hy]; exact g
def own_pl (sl : Slot) : Prop := sl = .unset ∨ ∃ x : Int32, sl = .val (.int x)
variable {p : Program} {l : Launch} {e : Env} {R : Room} {s : State} {m : MethodId} {args : Array Value} {below : List Frame} {meth : Method} {c : Code} {T : State} {locs : List Loc} {cells slots : Nat} {Z : State} {a0 : Array Value} {h h' : Heap} {a b : Addr} {ty : FieldType} {n : Nat} {f : Nat → Value}
theorem own_copy (X : Stand p l e R s m args below meth c T locs cells slots) (hx : p.tables.exec = Jvm.exec) (hZ : Z.Warmed39 s.vm) {own : String} {index : Nat} (hown : s.vm.findClass own = some m.cls)
    (w1 : (Jvm.Cond.methodLink own index acN).before a0 Z = true) (w2 : (Jvm.Cond.native acN).before a0 Z = true) (w3 : (Jvm.Cond.static acN).before a0 Z = true) (w4 : (Jvm.Cond.initialized "java/lang/System").before a0 Z = true)
    (eT : T.heap = h) (k : Nat) {nd o q : Nat} {fd : Nat → Value} (hty : refKind ty = false) (As : own_Ar Z h a ty n f) (Ad : own_Ar Z h b ty nd fd) (h1 : o + k ≤ n) (h2 : q + k ≤ nd) (hn : n < 2 ^ 31) (hnd : nd < 2 ^ 31)
    (hv : ∀ j, j < k → fits ty (f (o + j)) = true ∧ ∀ r, f (o + j) ≠ .ref r) {g : JFrame} (hg : g.method = m) (hsize : g.locals.size = c.maxLocals) {rest : List Value} (hs : g.stack = .int (Int32.ofNat k) :: .int (Int32.ofNat q) :: .ref b :: .int (Int32.ofNat o) :: .ref a :: rest) (hd : decode c.code g.pc = .ok (.invokestatic index, 3))
    (hfr : 1 ≤ R.frames) {W : Nat} (hW : 2 * g.monitorRoom + (rest.map fun v => v.category).sum ≤ W) (hlo : W + 18 ≤ R.locals) :
    ∃ T' h', Stand p l e R s m args below meth c T' (locs ++ copyLocs b q k) cells slots ∧ T'.heap = h' ∧ Keep h h' [b] ∧ own_Ar Z h' b ty nd (fun j => if q ≤ j ∧ j < q + k then f (o + (j - q)) else fd j) ∧ ∀ target, Steps p.tables e below (T'.setTop { g with pc := g.pc + 3, stack := rest }) target → Steps p.tables e below (T.setTop g) target := by
  obtain ⟨cs, A, r1, r2⟩ := As
  obtain ⟨cd, B, u1, u2⟩ := Ad
  obtain ⟨s1, ks, s2, sc, s3⟩ := State.isArrayOf_alike hZ.alike A.2.1
  obtain ⟨d1, kd, d2, dc, d3⟩ := State.isArrayOf_alike hZ.alike B.2.1
  have gD : ∀ j, j < k → cs.slots.getD (o + j) .null = f (o + j) := fun j hj => by
    rw [Array.getD_eq_getD_getElem?, r2 (o + j) (by omega)]; rfl
  have iO : (Int32.ofNat o).toInt = o := own_i32 (by omega)
  have iQ : (Int32.ofNat q).toInt = q := own_i32 (by omega)
  have iK : (Int32.ofNat k).toInt = k := own_i32 (by omega)
  have ck : (Int32.ofNat k).toNatClampNeg = k := own_clamp (by omega)
  have cq : (Int32.ofNat q).toNatClampNeg = q := own_clamp (by omega)
  have co : (Int32.ofNat o).toNatClampNeg = o := own_clamp (by omega)
  obtain ⟨vm1, -, X', st⟩ := X.arraycopyK hx hown (mvT hZ w1) (mvT hZ w2) (mvT hZ w3) (mvT hZ w4) (src := a) (dst := b) (srcPos := Int32.ofNat o) (destPos := Int32.ofNat q) (n := Int32.ofNat k) (cs := cs) (cd := cd) (by rw [eT]; exact A.1) (by rw [eT]; exact B.1) s1 d1 A.2.2 B.2.2 s2 d2 s3 d3 (by simp [hty]) (own_pos (by omega)) (own_pos (by omega)) (own_pos (by omega)) (by rw [iO, iK, r1]; omega) (by rw [iQ, iK, u1]; omega)
    (fun vm₁ _ i hi => by
      rw [ck] at hi
      rw [co, gD i hi]
      refine ⟨(hv i hi).1, ?_⟩
      have hr := (hv i hi).2
      cases hq : f (o + i) with
      | ref r => exact absurd hq (hr r)
      | _ => trivial) (g := g) hg hsize (rest := rest) hs hd hfr (by rw [Jvm.Free.nativeFrameWords_plain 5 (by decide)]; omega)
  rw [cq, ck] at X'
  have lb : b < h.size := (Array.getElem?_eq_some_iff.mp B.1).1
  obtain ⟨f1, f2, f3⟩ := Jvm.Free.SB.copied_facts cs cd (Int32.ofNat o) (Int32.ofNat q) (Int32.ofNat k)
  subst eT
  refine ⟨_, _, X', rfl, ⟨?_, ?_, ?_⟩, ?_, st⟩
  · show T.heap.size ≤ (T.heap.setIfInBounds b _).size
    simp
  · intro x c0 hx0 hn0
    show (T.heap.setIfInBounds b _)[x]? = some c0
    have : b ≠ x := fun z => hn0 (by simp [z])
    rw [Array.getElem?_setIfInBounds_ne this]; exact hx0
  · intro x c0 hx0
    show ∃ c', (T.heap.setIfInBounds b _)[x]? = some c' ∧ _
    by_cases z : b = x
    · subst z
      cases hx0.symm.trans B.1
      exact ⟨_, Array.getElem?_setIfInBounds_self_of_lt lb, f1, f2, f3⟩
    · exact ⟨c0, by rw [Array.getElem?_setIfInBounds_ne z]; exact hx0, rfl, rfl, rfl⟩
  · obtain ⟨z1, kz, z2, zc, z3⟩ := B.2.1
    refine ⟨copied cs cd (Int32.ofNat o) (Int32.ofNat q) (Int32.ofNat k), ⟨Array.getElem?_setIfInBounds_self_of_lt lb, ⟨fun k0 => by rw [f2]; exact z1 k0, kz, by rw [f1]; exact z2, zc, z3⟩, by rw [f2]; exact B.2.2⟩, by rw [f3]; exact u1, fun j hj => ?_⟩
    rw [Jvm.Free.Str.copied_at2 (by omega) (by omega) (by omega) (by omega)]
    by_cases w : q ≤ j ∧ j < q + k
    · rw [if_pos w, gD (j - q) (by omega)]
      show _ = some (if q ≤ j ∧ j < q + k then f (o + (j - q)) else fd j)
      rw [if_pos w]
    · rw [if_neg w]
      show _ = some (if q ≤ j ∧ j < q + k then f (o + (j - q)) else fd j)
      rw [if_neg w]; exact u2 j hj
def own_ua (at0 : Nat → Int32) (k : Nat) (x : Int32) : Nat → Int32 := fun j => if j = k then x else at0 j
theorem own_upd_at {ga : Nat → Value} {at0 : Nat → Int32} {k : Nat} (x : Int32) (hq : ∀ j, j < k → ga j = .int (at0 j)) : ∀ j, j < k + 1 → own_upd ga k (.int x) j = .int (own_ua at0 k x j) := fun j hj => by
  unfold own_upd own_ua
  by_cases q : j = k
  · rw [if_pos q, if_pos q]
  · rw [if_neg q, if_neg q]; exact hq j (by omega)
theorem own_upd_c {gc : Nat → Value} {v : Value} {k : Nat} (hq : ∀ j, j < k → gc j = v) : ∀ j, j < k + 1 → own_upd gc k v j = v := fun j hj => by
  unfold own_upd
  by_cases q : j = k
  · rw [if_pos q]
  · rw [if_neg q]; exact hq j (by omega)
def own_lit (x : Int32) : Int64 := ((x.toInt64 <<< ((32 : Int32) &&& 0x3f).toInt64) ||| ((-1 : Int32).toInt64 &&& (4294967295 : Int64)))
def own_f3 (k : Nat) (sq : Int32) : Int64 := if sq = 0 then (2 : Int64) * (Int32.ofNat k).toInt64 else (2 : Int64) * (Int32.ofNat k).toInt64 + 1
def own_one : Int64 := (4607182418800017408 : UInt64).toInt64
def own_Fm (k : Nat) (at0 : Nat → Int32) (sq : Int32) : Nat → Int64 := fun j => if j = 0 then own_one else if j = 1 then own_one else if j = 2 then 1 else if j = 3 then own_f3 k sq else own_lit (at0 (j - 4))
def own_acc (F : Nat → Int64) : Nat → Int64
  | 0 => ((31 : Int64) * F 0) + F 3
  | n + 1 => ((31 : Int64) * own_acc F n) + F (4 + n)
def own_m1 (x c : Int64) : Int64 := (x ^^^ ((x.toUInt64 >>> ((33 : Int32) &&& 0x3f).toInt64.toUInt64).toInt64)) * c
def own_mix (x : Int64) : Int32 := (own_m1 (own_m1 x (-49064778989728563)) (-4265267296055464877) ^^^ (((own_m1 (own_m1 x (-49064778989728563)) (-4265267296055464877)).toUInt64 >>> ((33 : Int32) &&& 0x3f).toInt64.toUInt64).toInt64)).toInt32
def own_hv (k : Nat) (at0 : Nat → Int32) (sq : Int32) : Int32 := own_mix (own_acc (own_Fm k at0 sq) k)
def own_ent (hv : Int32) (us : Nat) : Int64 := ((hv.toInt64 <<< ((32 : Int32) &&& 0x3f).toInt64) ||| (Int32.ofNat us + 1).toInt64)
def own_hi (v : Int64) : Int32 := ((v.toUInt64 >>> ((32 : Int32) &&& 0x3f).toInt64.toUInt64).toInt64).toInt32
def own_cnt (v : Int64) : Int32 := ((v.toUInt64 >>> ((1 : Int32) &&& 0x3f).toInt64.toUInt64).toInt64).toInt32
theorem own_f3_cnt {k : Nat} {sq : Int32} (hk : k ≤ 3) (hq : sq = 0 ∨ sq = 1) : own_cnt (own_f3 k sq) = Int32.ofNat k := by
  rcases hq with rfl | rfl <;> rcases (by omega : k = 0 ∨ k = 1 ∨ k = 2 ∨ k = 3) with rfl | rfl | rfl | rfl <;> decide +kernel
theorem own_f3_bit {k : Nat} {sq : Int32} (hk : k ≤ 3) (hq : sq = 0 ∨ sq = 1) : (if own_f3 k sq &&& (1 : Int64) = 0 then (0 : Int32) else 1) = sq := by
  rcases hq with rfl | rfl <;> rcases (by omega : k = 0 ∨ k = 1 ∨ k = 2 ∨ k = 3) with rfl | rfl | rfl | rfl <;> decide +kernel
theorem own_form {fF : Nat → Value} {k : Nat} {at0 : Nat → Int32} {sq : Int32} {v : Int64} (hl : ∀ j, j < k → fF (4 + j) = .long (own_lit (at0 j))) (hv : v = own_f3 k sq) :
    ∀ j, j < 4 + k → own_upd (own_upd (own_upd (own_upd fF 0 (.long own_one)) 1 (.long own_one)) 2 (.long 1)) 3 (.long v) j = .long (own_Fm k at0 sq j) := fun j hj => by
  subst hv
  unfold own_upd own_Fm
  by_cases q0 : j = 0
  · subst q0; rfl
  by_cases q1 : j = 1
  · subst q1; rfl
  by_cases q2 : j = 2
  · subst q2; rfl
  by_cases q3 : j = 3
  · subst q3; rfl
  rw [if_neg q3, if_neg q2, if_neg q1, if_neg q0, if_neg q0, if_neg q1, if_neg q2, if_neg q3]
  have := hl (j - 4) (by omega)
  rw [show 4 + (j - 4) = j by omega] at this
  exact this
theorem own_updupd {f0 : Nat → Value} {i : Nat} {u v : Value} : ∀ j, own_upd (own_upd f0 i u) i v j = own_upd f0 i v j := fun j => by
  unfold own_upd
  by_cases q : j = i
  · rw [if_pos q, if_pos q]
  · rw [if_neg q, if_neg q, if_neg q]
/-- what the three adds ask of the slots -/
def own_Fit (k : Nat) (at0 : Nat → Int32) (sq nq : Int32) (i1 i2 i3 : Nat) : Prop :=
  (i1 < 32 ∧ i2 < 32 ∧ i3 < 32 ∧ i2 ≠ i1 ∧ i3 ≠ i1 ∧ i3 ≠ i2) ∧ own_hv k at0 sq &&& 31 = Int32.ofNat i1 ∧ own_hv k at0 nq &&& 31 = Int32.ofNat i2 ∧
  (own_hv (k + 1) (own_ua at0 k 2) nq &&& 31 = Int32.ofNat i3 ∨ (own_hv (k + 1) (own_ua at0 k 2) nq &&& 31 = Int32.ofNat i2 ∧ own_ent (own_hv k at0 nq) (0 + (4 + k)) ≠ 0 ∧ own_hi (own_ent (own_hv k at0 nq) (0 + (4 + k))) ≠ own_hv (k + 1) (own_ua at0 k 2) nq ∧ (Int32.ofNat i2 + 1) &&& 31 = Int32.ofNat i3))
end OwnTab
def own_TV (Z : State) (h : Heap) (a : Nat) (v0 v1 v2 v3 v4 v5 v6 v7 v8 v9 : Value) : Prop := Exa Z h a "com/example/brisk_rules/briskrules/GroundRuleTable" ∧ Fld Z h a "com/example/brisk_rules/briskrules/GroundRuleTable" "records" "[J" v0 ∧ Fld Z h a "com/example/brisk_rules/briskrules/GroundRuleTable" "offsets" "[I" v1 ∧ Fld Z h a "com/example/brisk_rules/briskrules/GroundRuleTable" "slots" "[J" v2 ∧ Fld Z h a "com/example/brisk_rules/briskrules/GroundRuleTable" "form" "[J" v3 ∧ Fld Z h a "com/example/brisk_rules/briskrules/GroundRuleTable" "formAtoms" "[I" v4 ∧ Fld Z h a "com/example/brisk_rules/briskrules/GroundRuleTable" "formCoefficients" "[I" v5 ∧ Fld Z h a "com/example/brisk_rules/briskrules/GroundRuleTable" "limit" "J" v6 ∧ Fld Z h a "com/example/brisk_rules/briskrules/GroundRuleTable" "size" "I" v7 ∧ Fld Z h a "com/example/brisk_rules/briskrules/GroundRuleTable" "used" "I" v8 ∧ Fld Z h a "com/example/brisk_rules/briskrules/GroundRuleTable" "groundRules" "J" v9
theorem own_TV_keep {Z : State} {h h' : Heap} {a : Nat} {v0 v1 v2 v3 v4 v5 v6 v7 v8 v9 : Value} {ws : List Addr} (F : own_TV Z h a v0 v1 v2 v3 v4 v5 v6 v7 v8 v9) (K : Keep h h' ws) (q : a ∉ ws) : own_TV Z h' a v0 v1 v2 v3 v4 v5 v6 v7 v8 v9 := by
  obtain ⟨e0, f0, f1, f2, f3, f4, f5, f6, f7, f8, f9⟩ := F
  exact ⟨e0.keep K, f0.keep K q, f1.keep K q, f2.keep K q, f3.keep K q, f4.keep K q, f5.keep K q, f6.keep K q, f7.keep K q, f8.keep K q, f9.keep K q⟩
theorem own_TV_ext {Z : State} {h h' : Heap} {a : Nat} {v0 v1 v2 v3 v4 v5 v6 v7 v8 v9 : Value} (F : own_TV Z h a v0 v1 v2 v3 v4 v5 v6 v7 v8 v9) (E : Ext h h') : own_TV Z h' a v0 v1 v2 v3 v4 v5 v6 v7 v8 v9 := by
  obtain ⟨e0, f0, f1, f2, f3, f4, f5, f6, f7, f8, f9⟩ := F
  exact ⟨e0.ext E, f0.ext E, f1.ext E, f2.ext E, f3.ext E, f4.ext E, f5.ext E, f6.ext E, f7.ext E, f8.ext E, f9.ext E⟩
def own_BV (Z : State) (h : Heap) (a : Nat) (v0 v1 v2 v3 v4 v5 : Value) : Prop := Exa Z h a "com/example/brisk_rules/briskrules/GroundRule$Builder" ∧ Fld Z h a "com/example/brisk_rules/briskrules/GroundRule$Builder" "weight" "D" v0 ∧ Fld Z h a "com/example/brisk_rules/briskrules/GroundRule$Builder" "squared" "Z" v1 ∧ Fld Z h a "com/example/brisk_rules/briskrules/GroundRule$Builder" "constant" "D" v2 ∧ Fld Z h a "com/example/brisk_rules/briskrules/GroundRule$Builder" "atoms" "[I" v3 ∧ Fld Z h a "com/example/brisk_rules/briskrules/GroundRule$Builder" "coefficients" "[D" v4 ∧ Fld Z h a "com/example/brisk_rules/briskrules/GroundRule$Builder" "size" "I" v5
theorem own_BV_keep {Z : State} {h h' : Heap} {a : Nat} {v0 v1 v2 v3 v4 v5 : Value} {ws : List Addr} (F : own_BV Z h a v0 v1 v2 v3 v4 v5) (K : Keep h h' ws) (q : a ∉ ws) : own_BV Z h' a v0 v1 v2 v3 v4 v5 := by
  obtain ⟨e0, f0, f1, f2, f3, f4, f5⟩ := F
  exact ⟨e0.keep K, f0.keep K q, f1.keep K q, f2.keep K q, f3.keep K q, f4.keep K q, f5.keep K q⟩
theorem own_BV_ext {Z : State} {h h' : Heap} {a : Nat} {v0 v1 v2 v3 v4 v5 : Value} (F : own_BV Z h a v0 v1 v2 v3 v4 v5) (E : Ext h h') : own_BV Z h' a v0 v1 v2 v3 v4 v5 := by
  obtain ⟨e0, f0, f1, f2, f3, f4, f5⟩ := F
  exact ⟨e0.ext E, f0.ext E, f1.ext E, f2.ext E, f3.ext E, f4.ext E, f5.ext E⟩
theorem d1_0 : decode prog_11_method_1_code 0 = .ok (.aload_n 0, 1) := by decide +kernel
theorem d1_1 : decode prog_11_method_1_code 1 = .ok (.invokespecial 1, 3) := by decide +kernel
theorem d1_4 : decode prog_11_method_1_code 4 = .ok (.aload_n 0, 1) := by decide +kernel
theorem d1_5 : decode prog_11_method_1_code 5 = .ok (.bipush 64, 2) := by decide +kernel
theorem d1_7 : decode prog_11_method_1_code 7 = .ok (.newarray .long, 2) := by decide +kernel
theorem d1_9 : decode prog_11_method_1_code 9 = .ok (.putfield 7, 3) := by decide +kernel
theorem d1_12 : decode prog_11_method_1_code 12 = .ok (.aload_n 0, 1) := by decide +kernel
theorem d1_13 : decode prog_11_method_1_code 13 = .ok (.bipush 16, 2) := by decide +kernel
theorem d1_15 : decode prog_11_method_1_code 15 = .ok (.newarray .int, 2) := by decide +kernel
theorem d1_17 : decode prog_11_method_1_code 17 = .ok (.putfield 13, 3) := by decide +kernel
theorem d1_20 : decode prog_11_method_1_code 20 = .ok (.aload_n 0, 1) := by decide +kernel
theorem d1_21 : decode prog_11_method_1_code 21 = .ok (.bipush 32, 2) := by decide +kernel
theorem d1_23 : decode prog_11_method_1_code 23 = .ok (.newarray .long, 2) := by decide +kernel
theorem d1_25 : decode prog_11_method_1_code 25 = .ok (.putfield 17, 3) := by decide +kernel
theorem d1_28 : decode prog_11_method_1_code 28 = .ok (.aload_n 0, 1) := by decide +kernel
theorem d1_29 : decode prog_11_method_1_code 29 = .ok (.bipush 8, 2) := by decide +kernel
theorem d1_31 : decode prog_11_method_1_code 31 = .ok (.newarray .long, 2) := by decide +kernel
theorem d1_33 : decode prog_11_method_1_code 33 = .ok (.putfield 20, 3) := by decide +kernel
theorem d1_36 : decode prog_11_method_1_code 36 = .ok (.aload_n 0, 1) := by decide +kernel
theorem d1_37 : decode prog_11_method_1_code 37 = .ok (.iconst 4, 1) := by decide +kernel
theorem d1_38 : decode prog_11_method_1_code 38 = .ok (.newarray .int, 2) := by decide +kernel
theorem d1_40 : decode prog_11_method_1_code 40 = .ok (.putfield 23, 3) := by decide +kernel
theorem d1_43 : decode prog_11_method_1_code 43 = .ok (.aload_n 0, 1) := by decide +kernel
theorem d1_44 : decode prog_11_method_1_code 44 = .ok (.iconst 4, 1) := by decide +kernel
theorem d1_45 : decode prog_11_method_1_code 45 = .ok (.newarray .int, 2) := by decide +kernel
theorem d1_47 : decode prog_11_method_1_code 47 = .ok (.putfield 26, 3) := by decide +kernel
theorem d1_50 : decode prog_11_method_1_code 50 = .ok (.aload_n 0, 1) := by decide +kernel
theorem d1_51 : decode prog_11_method_1_code 51 = .ok (.lload_n 1, 1) := by decide +kernel
theorem d1_52 : decode prog_11_method_1_code 52 = .ok (.putfield 29, 3) := by decide +kernel
theorem d1_55 : decode prog_11_method_1_code 55 = .ok (.return_, 1) := by decide +kernel
theorem pn_d1 : plainName "com/example/brisk_rules/briskrules/GroundRuleTable" = true := by first | (simp [plainName, overriddenIn]; done) | decide +kernel
theorem pd_d1 : parseMethodDescriptor "(J)V" = some ⟨[.long], none⟩ := by decide +kernel
theorem d3_0 : decode prog_10_method_1_code 0 = .ok (.aload_n 0, 1) := by decide +kernel
theorem d3_1 : decode prog_10_method_1_code 1 = .ok (.invokespecial 1, 3) := by decide +kernel
theorem d3_4 : decode prog_10_method_1_code 4 = .ok (.aload_n 0, 1) := by decide +kernel
theorem d3_5 : decode prog_10_method_1_code 5 = .ok (.dconst 1, 1) := by decide +kernel
theorem d3_6 : decode prog_10_method_1_code 6 = .ok (.putfield 7, 3) := by decide +kernel
theorem d3_9 : decode prog_10_method_1_code 9 = .ok (.aload_n 0, 1) := by decide +kernel
theorem d3_10 : decode prog_10_method_1_code 10 = .ok (.iconst 4, 1) := by decide +kernel
theorem d3_11 : decode prog_10_method_1_code 11 = .ok (.newarray .int, 2) := by decide +kernel
theorem d3_13 : decode prog_10_method_1_code 13 = .ok (.putfield 13, 3) := by decide +kernel
theorem d3_16 : decode prog_10_method_1_code 16 = .ok (.aload_n 0, 1) := by decide +kernel
theorem d3_17 : decode prog_10_method_1_code 17 = .ok (.iconst 4, 1) := by decide +kernel
theorem d3_18 : decode prog_10_method_1_code 18 = .ok (.newarray .double, 2) := by decide +kernel
theorem d3_20 : decode prog_10_method_1_code 20 = .ok (.putfield 17, 3) := by decide +kernel
theorem d3_23 : decode prog_10_method_1_code 23 = .ok (.dload_n 1, 1) := by decide +kernel
theorem d3_24 : decode prog_10_method_1_code 24 = .ok (.dconst 0, 1) := by decide +kernel
theorem d3_25 : decode prog_10_method_1_code 25 = .ok (.dcmp .l, 1) := by decide +kernel
theorem d3_26 : decode prog_10_method_1_code 26 = .ok (.ifCond .lt 11, 3) := by decide +kernel
theorem d3_29 : decode prog_10_method_1_code 29 = .ok (.dload_n 1, 1) := by decide +kernel
theorem d3_30 : decode prog_10_method_1_code 30 = .ok (.ldc2_w 23, 3) := by decide +kernel
theorem d3_33 : decode prog_10_method_1_code 33 = .ok (.dcmp .g, 1) := by decide +kernel
theorem d3_34 : decode prog_10_method_1_code 34 = .ok (.ifCond .lt 17, 3) := by decide +kernel
theorem d3_37 : decode prog_10_method_1_code 37 = .ok (.new 25, 3) := by decide +kernel
theorem d3_40 : decode prog_10_method_1_code 40 = .ok (.dup, 1) := by decide +kernel
theorem d3_41 : decode prog_10_method_1_code 41 = .ok (.dload_n 1, 1) := by decide +kernel
theorem d3_42 : decode prog_10_method_1_code 42 = .ok (.invokedynamic 27, 5) := by decide +kernel
theorem d3_47 : decode prog_10_method_1_code 47 = .ok (.invokespecial 31, 3) := by decide +kernel
theorem d3_50 : decode prog_10_method_1_code 50 = .ok (.athrow, 1) := by decide +kernel
theorem d3_51 : decode prog_10_method_1_code 51 = .ok (.aload_n 0, 1) := by decide +kernel
theorem d3_52 : decode prog_10_method_1_code 52 = .ok (.dload_n 1, 1) := by decide +kernel
theorem d3_53 : decode prog_10_method_1_code 53 = .ok (.putfield 34, 3) := by decide +kernel
theorem d3_56 : decode prog_10_method_1_code 56 = .ok (.aload_n 0, 1) := by decide +kernel
theorem d3_57 : decode prog_10_method_1_code 57 = .ok (.iload_n 3, 1) := by decide +kernel
theorem d3_58 : decode prog_10_method_1_code 58 = .ok (.putfield 37, 3) := by decide +kernel
theorem d3_61 : decode prog_10_method_1_code 61 = .ok (.return_, 1) := by decide +kernel
theorem pn_d3 : plainName "com/example/brisk_rules/briskrules/GroundRule$Builder" = true := by first | (simp [plainName, overriddenIn]; done) | decide +kernel
theorem pd_d3 : parseMethodDescriptor "(DZ)V" = some ⟨[.double, .boolean], none⟩ := by decide +kernel
theorem d4_0 : decode prog_10_method_3_code 0 = .ok (.iload_n 1, 1) := by decide +kernel
theorem d4_1 : decode prog_10_method_3_code 1 = .ok (.ifCond .ge 17, 3) := by decide +kernel
theorem d4_4 : decode prog_10_method_3_code 4 = .ok (.new 25, 3) := by decide +kernel
theorem d4_7 : decode prog_10_method_3_code 7 = .ok (.dup, 1) := by decide +kernel
theorem d4_8 : decode prog_10_method_3_code 8 = .ok (.iload_n 1, 1) := by decide +kernel
theorem d4_9 : decode prog_10_method_3_code 9 = .ok (.invokedynamic 45, 5) := by decide +kernel
theorem d4_14 : decode prog_10_method_3_code 14 = .ok (.invokespecial 31, 3) := by decide +kernel
theorem d4_17 : decode prog_10_method_3_code 17 = .ok (.athrow, 1) := by decide +kernel
theorem d4_18 : decode prog_10_method_3_code 18 = .ok (.aload_n 0, 1) := by decide +kernel
theorem d4_19 : decode prog_10_method_3_code 19 = .ok (.getfield 48, 3) := by decide +kernel
theorem d4_22 : decode prog_10_method_3_code 22 = .ok (.aload_n 0, 1) := by decide +kernel
theorem d4_23 : decode prog_10_method_3_code 23 = .ok (.getfield 13, 3) := by decide +kernel
theorem d4_26 : decode prog_10_method_3_code 26 = .ok (.arraylength, 1) := by decide +kernel
theorem d4_27 : decode prog_10_method_3_code 27 = .ok (.if_icmp .ne 37, 3) := by decide +kernel
theorem d4_30 : decode prog_10_method_3_code 30 = .ok (.aload_n 0, 1) := by decide +kernel
theorem d4_31 : decode prog_10_method_3_code 31 = .ok (.aload_n 0, 1) := by decide +kernel
theorem d4_32 : decode prog_10_method_3_code 32 = .ok (.getfield 13, 3) := by decide +kernel
theorem d4_35 : decode prog_10_method_3_code 35 = .ok (.iconst 2, 1) := by decide +kernel
theorem d4_36 : decode prog_10_method_3_code 36 = .ok (.aload_n 0, 1) := by decide +kernel
theorem d4_37 : decode prog_10_method_3_code 37 = .ok (.getfield 48, 3) := by decide +kernel
theorem d4_40 : decode prog_10_method_3_code 40 = .ok (.imul, 1) := by decide +kernel
theorem d4_41 : decode prog_10_method_3_code 41 = .ok (.invokestatic 52, 3) := by decide +kernel
theorem d4_44 : decode prog_10_method_3_code 44 = .ok (.putfield 13, 3) := by decide +kernel
theorem d4_47 : decode prog_10_method_3_code 47 = .ok (.aload_n 0, 1) := by decide +kernel
theorem d4_48 : decode prog_10_method_3_code 48 = .ok (.aload_n 0, 1) := by decide +kernel
theorem d4_49 : decode prog_10_method_3_code 49 = .ok (.getfield 17, 3) := by decide +kernel
theorem d4_52 : decode prog_10_method_3_code 52 = .ok (.iconst 2, 1) := by decide +kernel
theorem d4_53 : decode prog_10_method_3_code 53 = .ok (.aload_n 0, 1) := by decide +kernel
theorem d4_54 : decode prog_10_method_3_code 54 = .ok (.getfield 48, 3) := by decide +kernel
theorem d4_57 : decode prog_10_method_3_code 57 = .ok (.imul, 1) := by decide +kernel
theorem d4_58 : decode prog_10_method_3_code 58 = .ok (.invokestatic 58, 3) := by decide +kernel
theorem d4_61 : decode prog_10_method_3_code 61 = .ok (.putfield 17, 3) := by decide +kernel
theorem d4_64 : decode prog_10_method_3_code 64 = .ok (.aload_n 0, 1) := by decide +kernel
theorem d4_65 : decode prog_10_method_3_code 65 = .ok (.getfield 13, 3) := by decide +kernel
theorem d4_68 : decode prog_10_method_3_code 68 = .ok (.aload_n 0, 1) := by decide +kernel
theorem d4_69 : decode prog_10_method_3_code 69 = .ok (.getfield 48, 3) := by decide +kernel
theorem d4_72 : decode prog_10_method_3_code 72 = .ok (.iload_n 1, 1) := by decide +kernel
theorem d4_73 : decode prog_10_method_3_code 73 = .ok (.iastore, 1) := by decide +kernel
theorem d4_74 : decode prog_10_method_3_code 74 = .ok (.iload_n 2, 1) := by decide +kernel
theorem d4_75 : decode prog_10_method_3_code 75 = .ok (.ifCond .eq 26, 3) := by decide +kernel
theorem d4_78 : decode prog_10_method_3_code 78 = .ok (.aload_n 0, 1) := by decide +kernel
theorem d4_79 : decode prog_10_method_3_code 79 = .ok (.dup, 1) := by decide +kernel
theorem d4_80 : decode prog_10_method_3_code 80 = .ok (.getfield 7, 3) := by decide +kernel
theorem d4_83 : decode prog_10_method_3_code 83 = .ok (.dconst 1, 1) := by decide +kernel
theorem d4_84 : decode prog_10_method_3_code 84 = .ok (.dsub, 1) := by decide +kernel
theorem d4_85 : decode prog_10_method_3_code 85 = .ok (.putfield 7, 3) := by decide +kernel
theorem d4_88 : decode prog_10_method_3_code 88 = .ok (.aload_n 0, 1) := by decide +kernel
theorem d4_89 : decode prog_10_method_3_code 89 = .ok (.getfield 17, 3) := by decide +kernel
theorem d4_92 : decode prog_10_method_3_code 92 = .ok (.aload_n 0, 1) := by decide +kernel
theorem d4_93 : decode prog_10_method_3_code 93 = .ok (.getfield 48, 3) := by decide +kernel
theorem d4_96 : decode prog_10_method_3_code 96 = .ok (.dconst 1, 1) := by decide +kernel
theorem d4_97 : decode prog_10_method_3_code 97 = .ok (.dastore, 1) := by decide +kernel
theorem d4_98 : decode prog_10_method_3_code 98 = .ok (.goto 15, 3) := by decide +kernel
theorem d4_101 : decode prog_10_method_3_code 101 = .ok (.aload_n 0, 1) := by decide +kernel
theorem d4_102 : decode prog_10_method_3_code 102 = .ok (.getfield 17, 3) := by decide +kernel
theorem d4_105 : decode prog_10_method_3_code 105 = .ok (.aload_n 0, 1) := by decide +kernel
theorem d4_106 : decode prog_10_method_3_code 106 = .ok (.getfield 48, 3) := by decide +kernel
theorem d4_109 : decode prog_10_method_3_code 109 = .ok (.ldc2_w 61, 3) := by decide +kernel
theorem d4_112 : decode prog_10_method_3_code 112 = .ok (.dastore, 1) := by decide +kernel
theorem d4_113 : decode prog_10_method_3_code 113 = .ok (.aload_n 0, 1) := by decide +kernel
theorem d4_114 : decode prog_10_method_3_code 114 = .ok (.dup, 1) := by decide +kernel
theorem d4_115 : decode prog_10_method_3_code 115 = .ok (.getfield 48, 3) := by decide +kernel
theorem d4_118 : decode prog_10_method_3_code 118 = .ok (.iconst 1, 1) := by decide +kernel
theorem d4_119 : decode prog_10_method_3_code 119 = .ok (.iadd, 1) := by decide +kernel
theorem d4_120 : decode prog_10_method_3_code 120 = .ok (.putfield 48, 3) := by decide +kernel
theorem d4_123 : decode prog_10_method_3_code 123 = .ok (.aload_n 0, 1) := by decide +kernel
theorem d4_124 : decode prog_10_method_3_code 124 = .ok (.areturn, 1) := by decide +kernel
theorem pn_d4 : plainName "com/example/brisk_rules/briskrules/GroundRule$Builder" = true := by first | (simp [plainName, overriddenIn]; done) | decide +kernel
theorem pd_d4 : parseMethodDescriptor "(IZ)Lcom/example/brisk_rules/briskrules/GroundRule$Builder;" = some ⟨[.int, .boolean], some (.object "com/example/brisk_rules/briskrules/GroundRule$Builder")⟩ := by decide +kernel
theorem d5_0 : decode prog_11_method_3_code 0 = .ok (.aload_n 1, 1) := by decide +kernel
theorem d5_1 : decode prog_11_method_3_code 1 = .ok (.invokevirtual 40, 3) := by decide +kernel
theorem d5_4 : decode prog_11_method_3_code 4 = .ok (.dconst 0, 1) := by decide +kernel
theorem d5_5 : decode prog_11_method_3_code 5 = .ok (.dcmp .l, 1) := by decide +kernel
theorem d5_6 : decode prog_11_method_3_code 6 = .ok (.ifCond .ne 4, 3) := by decide +kernel
theorem d5_9 : decode prog_11_method_3_code 9 = .ok (.return_, 1) := by decide +kernel
theorem d5_10 : decode prog_11_method_3_code 10 = .ok (.aload_n 0, 1) := by decide +kernel
theorem d5_11 : decode prog_11_method_3_code 11 = .ok (.aload_n 1, 1) := by decide +kernel
theorem d5_12 : decode prog_11_method_3_code 12 = .ok (.invokevirtual 46, 3) := by decide +kernel
theorem d5_15 : decode prog_11_method_3_code 15 = .ok (.istore_n 2, 1) := by decide +kernel
theorem d5_16 : decode prog_11_method_3_code 16 = .ok (.aload_n 1, 1) := by decide +kernel
theorem d5_17 : decode prog_11_method_3_code 17 = .ok (.invokevirtual 50, 3) := by decide +kernel
theorem d5_20 : decode prog_11_method_3_code 20 = .ok (.dconst 0, 1) := by decide +kernel
theorem d5_21 : decode prog_11_method_3_code 21 = .ok (.dadd, 1) := by decide +kernel
theorem d5_22 : decode prog_11_method_3_code 22 = .ok (.dstore_n 3, 1) := by decide +kernel
theorem d5_23 : decode prog_11_method_3_code 23 = .ok (.aload_n 0, 1) := by decide +kernel
theorem d5_24 : decode prog_11_method_3_code 24 = .ok (.dload_n 3, 1) := by decide +kernel
theorem d5_25 : decode prog_11_method_3_code 25 = .ok (.iload_n 2, 1) := by decide +kernel
theorem d5_26 : decode prog_11_method_3_code 26 = .ok (.invokevirtual 53, 3) := by decide +kernel
theorem d5_29 : decode prog_11_method_3_code 29 = .ok (.ifCond .ne 4, 3) := by decide +kernel
theorem d5_32 : decode prog_11_method_3_code 32 = .ok (.return_, 1) := by decide +kernel
theorem d5_33 : decode prog_11_method_3_code 33 = .ok (.aload_n 0, 1) := by decide +kernel
theorem d5_34 : decode prog_11_method_3_code 34 = .ok (.getfield 20, 3) := by decide +kernel
theorem d5_37 : decode prog_11_method_3_code 37 = .ok (.iconst 0, 1) := by decide +kernel
theorem d5_38 : decode prog_11_method_3_code 38 = .ok (.dload_n 3, 1) := by decide +kernel
theorem d5_39 : decode prog_11_method_3_code 39 = .ok (.invokestatic 57, 3) := by decide +kernel
theorem d5_42 : decode prog_11_method_3_code 42 = .ok (.lastore, 1) := by decide +kernel
theorem d5_43 : decode prog_11_method_3_code 43 = .ok (.aload_n 0, 1) := by decide +kernel
theorem d5_44 : decode prog_11_method_3_code 44 = .ok (.getfield 20, 3) := by decide +kernel
theorem d5_47 : decode prog_11_method_3_code 47 = .ok (.iconst 1, 1) := by decide +kernel
theorem d5_48 : decode prog_11_method_3_code 48 = .ok (.aload_n 1, 1) := by decide +kernel
theorem d5_49 : decode prog_11_method_3_code 49 = .ok (.invokevirtual 40, 3) := by decide +kernel
theorem d5_52 : decode prog_11_method_3_code 52 = .ok (.invokestatic 57, 3) := by decide +kernel
theorem d5_55 : decode prog_11_method_3_code 55 = .ok (.lastore, 1) := by decide +kernel
theorem d5_56 : decode prog_11_method_3_code 56 = .ok (.aload_n 0, 1) := by decide +kernel
theorem d5_57 : decode prog_11_method_3_code 57 = .ok (.getfield 20, 3) := by decide +kernel
theorem d5_60 : decode prog_11_method_3_code 60 = .ok (.iconst 2, 1) := by decide +kernel
theorem d5_61 : decode prog_11_method_3_code 61 = .ok (.lconst 1, 1) := by decide +kernel
theorem d5_62 : decode prog_11_method_3_code 62 = .ok (.lastore, 1) := by decide +kernel
theorem d5_63 : decode prog_11_method_3_code 63 = .ok (.aload_n 0, 1) := by decide +kernel
theorem d5_64 : decode prog_11_method_3_code 64 = .ok (.getfield 20, 3) := by decide +kernel
theorem d5_67 : decode prog_11_method_3_code 67 = .ok (.iconst 3, 1) := by decide +kernel
theorem d5_68 : decode prog_11_method_3_code 68 = .ok (.ldc2_w 63, 3) := by decide +kernel
theorem d5_71 : decode prog_11_method_3_code 71 = .ok (.iload_n 2, 1) := by decide +kernel
theorem d5_72 : decode prog_11_method_3_code 72 = .ok (.i2l, 1) := by decide +kernel
theorem d5_73 : decode prog_11_method_3_code 73 = .ok (.lmul, 1) := by decide +kernel
theorem d5_74 : decode prog_11_method_3_code 74 = .ok (.lastore, 1) := by decide +kernel
theorem d5_75 : decode prog_11_method_3_code 75 = .ok (.aload_n 1, 1) := by decide +kernel
theorem d5_76 : decode prog_11_method_3_code 76 = .ok (.invokevirtual 65, 3) := by decide +kernel
theorem d5_79 : decode prog_11_method_3_code 79 = .ok (.ifCond .eq 13, 3) := by decide +kernel
theorem d5_82 : decode prog_11_method_3_code 82 = .ok (.aload_n 0, 1) := by decide +kernel
theorem d5_83 : decode prog_11_method_3_code 83 = .ok (.getfield 20, 3) := by decide +kernel
theorem d5_86 : decode prog_11_method_3_code 86 = .ok (.iconst 3, 1) := by decide +kernel
theorem d5_87 : decode prog_11_method_3_code 87 = .ok (.dup2, 1) := by decide +kernel
theorem d5_88 : decode prog_11_method_3_code 88 = .ok (.laload, 1) := by decide +kernel
theorem d5_89 : decode prog_11_method_3_code 89 = .ok (.lconst 1, 1) := by decide +kernel
theorem d5_90 : decode prog_11_method_3_code 90 = .ok (.ladd, 1) := by decide +kernel
theorem d5_91 : decode prog_11_method_3_code 91 = .ok (.lastore, 1) := by decide +kernel
theorem d5_92 : decode prog_11_method_3_code 92 = .ok (.aload_n 0, 1) := by decide +kernel
theorem d5_93 : decode prog_11_method_3_code 93 = .ok (.invokevirtual 69, 3) := by decide +kernel
theorem d5_96 : decode prog_11_method_3_code 96 = .ok (.istore 5, 2) := by decide +kernel
theorem d5_98 : decode prog_11_method_3_code 98 = .ok (.iload 5, 2) := by decide +kernel
theorem d5_100 : decode prog_11_method_3_code 100 = .ok (.aload_n 0, 1) := by decide +kernel
theorem d5_101 : decode prog_11_method_3_code 101 = .ok (.getfield 17, 3) := by decide +kernel
theorem d5_104 : decode prog_11_method_3_code 104 = .ok (.arraylength, 1) := by decide +kernel
theorem d5_105 : decode prog_11_method_3_code 105 = .ok (.iconst 1, 1) := by decide +kernel
theorem d5_106 : decode prog_11_method_3_code 106 = .ok (.isub, 1) := by decide +kernel
theorem d5_107 : decode prog_11_method_3_code 107 = .ok (.iand, 1) := by decide +kernel
theorem d5_108 : decode prog_11_method_3_code 108 = .ok (.istore 6, 2) := by decide +kernel
theorem d5_110 : decode prog_11_method_3_code 110 = .ok (.aload_n 0, 1) := by decide +kernel
theorem d5_111 : decode prog_11_method_3_code 111 = .ok (.getfield 17, 3) := by decide +kernel
theorem d5_114 : decode prog_11_method_3_code 114 = .ok (.iload 6, 2) := by decide +kernel
theorem d5_116 : decode prog_11_method_3_code 116 = .ok (.laload, 1) := by decide +kernel
theorem d5_117 : decode prog_11_method_3_code 117 = .ok (.lstore 7, 2) := by decide +kernel
theorem d5_119 : decode prog_11_method_3_code 119 = .ok (.lload 7, 2) := by decide +kernel
theorem d5_121 : decode prog_11_method_3_code 121 = .ok (.lconst 0, 1) := by decide +kernel
theorem d5_122 : decode prog_11_method_3_code 122 = .ok (.lcmp, 1) := by decide +kernel
theorem d5_123 : decode prog_11_method_3_code 123 = .ok (.ifCond .eq 122, 3) := by decide +kernel
theorem d5_126 : decode prog_11_method_3_code 126 = .ok (.lload 7, 2) := by decide +kernel
theorem d5_128 : decode prog_11_method_3_code 128 = .ok (.l2i, 1) := by decide +kernel
theorem d5_129 : decode prog_11_method_3_code 129 = .ok (.iconst 1, 1) := by decide +kernel
theorem d5_130 : decode prog_11_method_3_code 130 = .ok (.isub, 1) := by decide +kernel
theorem d5_131 : decode prog_11_method_3_code 131 = .ok (.istore 9, 2) := by decide +kernel
theorem d5_133 : decode prog_11_method_3_code 133 = .ok (.lload 7, 2) := by decide +kernel
theorem d5_135 : decode prog_11_method_3_code 135 = .ok (.bipush 32, 2) := by decide +kernel
theorem d5_137 : decode prog_11_method_3_code 137 = .ok (.lushr, 1) := by decide +kernel
theorem d5_138 : decode prog_11_method_3_code 138 = .ok (.l2i, 1) := by decide +kernel
theorem d5_139 : decode prog_11_method_3_code 139 = .ok (.iload 5, 2) := by decide +kernel
theorem d5_141 : decode prog_11_method_3_code 141 = .ok (.if_icmp .ne 78, 3) := by decide +kernel
theorem d5_144 : decode prog_11_method_3_code 144 = .ok (.aload_n 0, 1) := by decide +kernel
theorem d5_145 : decode prog_11_method_3_code 145 = .ok (.iload 9, 2) := by decide +kernel
theorem d5_147 : decode prog_11_method_3_code 147 = .ok (.invokevirtual 73, 3) := by decide +kernel
theorem d5_150 : decode prog_11_method_3_code 150 = .ok (.ifCond .eq 69, 3) := by decide +kernel
theorem d5_153 : decode prog_11_method_3_code 153 = .ok (.iload 9, 2) := by decide +kernel
theorem d5_155 : decode prog_11_method_3_code 155 = .ok (.aload_n 0, 1) := by decide +kernel
theorem d5_156 : decode prog_11_method_3_code 156 = .ok (.getfield 77, 3) := by decide +kernel
theorem d5_159 : decode prog_11_method_3_code 159 = .ok (.if_icmp .lt 59, 3) := by decide +kernel
theorem d5_162 : decode prog_11_method_3_code 162 = .ok (.aload_n 0, 1) := by decide +kernel
theorem d5_163 : decode prog_11_method_3_code 163 = .ok (.getfield 7, 3) := by decide +kernel
theorem d5_166 : decode prog_11_method_3_code 166 = .ok (.iload 9, 2) := by decide +kernel
theorem d5_168 : decode prog_11_method_3_code 168 = .ok (.iconst 1, 1) := by decide +kernel
theorem d5_169 : decode prog_11_method_3_code 169 = .ok (.iadd, 1) := by decide +kernel
theorem d5_170 : decode prog_11_method_3_code 170 = .ok (.laload, 1) := by decide +kernel
theorem d5_171 : decode prog_11_method_3_code 171 = .ok (.invokestatic 81, 3) := by decide +kernel
theorem d5_174 : decode prog_11_method_3_code 174 = .ok (.aload_n 1, 1) := by decide +kernel
theorem d5_175 : decode prog_11_method_3_code 175 = .ok (.invokevirtual 40, 3) := by decide +kernel
theorem d5_178 : decode prog_11_method_3_code 178 = .ok (.dadd, 1) := by decide +kernel
theorem d5_179 : decode prog_11_method_3_code 179 = .ok (.dstore 10, 2) := by decide +kernel
theorem d5_181 : decode prog_11_method_3_code 181 = .ok (.aload_n 0, 1) := by decide +kernel
theorem d5_182 : decode prog_11_method_3_code 182 = .ok (.getfield 7, 3) := by decide +kernel
theorem d5_185 : decode prog_11_method_3_code 185 = .ok (.iload 9, 2) := by decide +kernel
theorem d5_187 : decode prog_11_method_3_code 187 = .ok (.iconst 1, 1) := by decide +kernel
theorem d5_188 : decode prog_11_method_3_code 188 = .ok (.iadd, 1) := by decide +kernel
theorem d5_189 : decode prog_11_method_3_code 189 = .ok (.dload 10, 2) := by decide +kernel
theorem d5_191 : decode prog_11_method_3_code 191 = .ok (.invokestatic 57, 3) := by decide +kernel
theorem d5_194 : decode prog_11_method_3_code 194 = .ok (.lastore, 1) := by decide +kernel
theorem d5_195 : decode prog_11_method_3_code 195 = .ok (.aload_n 0, 1) := by decide +kernel
theorem d5_196 : decode prog_11_method_3_code 196 = .ok (.getfield 7, 3) := by decide +kernel
theorem d5_199 : decode prog_11_method_3_code 199 = .ok (.iload 9, 2) := by decide +kernel
theorem d5_201 : decode prog_11_method_3_code 201 = .ok (.iconst 2, 1) := by decide +kernel
theorem d5_202 : decode prog_11_method_3_code 202 = .ok (.iadd, 1) := by decide +kernel
theorem d5_203 : decode prog_11_method_3_code 203 = .ok (.dup2, 1) := by decide +kernel
theorem d5_204 : decode prog_11_method_3_code 204 = .ok (.laload, 1) := by decide +kernel
theorem d5_205 : decode prog_11_method_3_code 205 = .ok (.lconst 1, 1) := by decide +kernel
theorem d5_206 : decode prog_11_method_3_code 206 = .ok (.ladd, 1) := by decide +kernel
theorem d5_207 : decode prog_11_method_3_code 207 = .ok (.lastore, 1) := by decide +kernel
theorem d5_208 : decode prog_11_method_3_code 208 = .ok (.aload_n 0, 1) := by decide +kernel
theorem d5_209 : decode prog_11_method_3_code 209 = .ok (.dup, 1) := by decide +kernel
theorem d5_210 : decode prog_11_method_3_code 210 = .ok (.getfield 85, 3) := by decide +kernel
theorem d5_213 : decode prog_11_method_3_code 213 = .ok (.lconst 1, 1) := by decide +kernel
theorem d5_214 : decode prog_11_method_3_code 214 = .ok (.ladd, 1) := by decide +kernel
theorem d5_215 : decode prog_11_method_3_code 215 = .ok (.putfield 85, 3) := by decide +kernel
theorem d5_218 : decode prog_11_method_3_code 218 = .ok (.return_, 1) := by decide +kernel
theorem d5_219 : decode prog_11_method_3_code 219 = .ok (.iload 6, 2) := by decide +kernel
theorem d5_221 : decode prog_11_method_3_code 221 = .ok (.iconst 1, 1) := by decide +kernel
theorem d5_222 : decode prog_11_method_3_code 222 = .ok (.iadd, 1) := by decide +kernel
theorem d5_223 : decode prog_11_method_3_code 223 = .ok (.aload_n 0, 1) := by decide +kernel
theorem d5_224 : decode prog_11_method_3_code 224 = .ok (.getfield 17, 3) := by decide +kernel
theorem d5_227 : decode prog_11_method_3_code 227 = .ok (.arraylength, 1) := by decide +kernel
theorem d5_228 : decode prog_11_method_3_code 228 = .ok (.iconst 1, 1) := by decide +kernel
theorem d5_229 : decode prog_11_method_3_code 229 = .ok (.isub, 1) := by decide +kernel
theorem d5_230 : decode prog_11_method_3_code 230 = .ok (.iand, 1) := by decide +kernel
theorem d5_231 : decode prog_11_method_3_code 231 = .ok (.istore 6, 2) := by decide +kernel
theorem d5_233 : decode prog_11_method_3_code 233 = .ok (.aload_n 0, 1) := by decide +kernel
theorem d5_234 : decode prog_11_method_3_code 234 = .ok (.getfield 17, 3) := by decide +kernel
theorem d5_237 : decode prog_11_method_3_code 237 = .ok (.iload 6, 2) := by decide +kernel
theorem d5_239 : decode prog_11_method_3_code 239 = .ok (.laload, 1) := by decide +kernel
theorem d5_240 : decode prog_11_method_3_code 240 = .ok (.lstore 7, 2) := by decide +kernel
theorem d5_242 : decode prog_11_method_3_code 242 = .ok (.goto (-123), 3) := by decide +kernel
theorem d5_245 : decode prog_11_method_3_code 245 = .ok (.aload_n 0, 1) := by decide +kernel
theorem d5_246 : decode prog_11_method_3_code 246 = .ok (.getfield 88, 3) := by decide +kernel
theorem d5_249 : decode prog_11_method_3_code 249 = .ok (.i2l, 1) := by decide +kernel
theorem d5_250 : decode prog_11_method_3_code 250 = .ok (.aload_n 0, 1) := by decide +kernel
theorem d5_251 : decode prog_11_method_3_code 251 = .ok (.getfield 29, 3) := by decide +kernel
theorem d5_254 : decode prog_11_method_3_code 254 = .ok (.lcmp, 1) := by decide +kernel
theorem d5_255 : decode prog_11_method_3_code 255 = .ok (.ifCond .lt 9, 3) := by decide +kernel
theorem d5_258 : decode prog_11_method_3_code 258 = .ok (.aload_n 0, 1) := by decide +kernel
theorem d5_259 : decode prog_11_method_3_code 259 = .ok (.iconst 1, 1) := by decide +kernel
theorem d5_260 : decode prog_11_method_3_code 260 = .ok (.putfield 91, 3) := by decide +kernel
theorem d5_263 : decode prog_11_method_3_code 263 = .ok (.return_, 1) := by decide +kernel
theorem d5_264 : decode prog_11_method_3_code 264 = .ok (.aload_n 0, 1) := by decide +kernel
theorem d5_265 : decode prog_11_method_3_code 265 = .ok (.getfield 17, 3) := by decide +kernel
theorem d5_268 : decode prog_11_method_3_code 268 = .ok (.iload 6, 2) := by decide +kernel
theorem d5_270 : decode prog_11_method_3_code 270 = .ok (.iload 5, 2) := by decide +kernel
theorem d5_272 : decode prog_11_method_3_code 272 = .ok (.i2l, 1) := by decide +kernel
theorem d5_273 : decode prog_11_method_3_code 273 = .ok (.bipush 32, 2) := by decide +kernel
theorem d5_275 : decode prog_11_method_3_code 275 = .ok (.lshl, 1) := by decide +kernel
theorem d5_276 : decode prog_11_method_3_code 276 = .ok (.aload_n 0, 1) := by decide +kernel
theorem d5_277 : decode prog_11_method_3_code 277 = .ok (.getfield 95, 3) := by decide +kernel
theorem d5_280 : decode prog_11_method_3_code 280 = .ok (.iconst 1, 1) := by decide +kernel
theorem d5_281 : decode prog_11_method_3_code 281 = .ok (.iadd, 1) := by decide +kernel
theorem d5_282 : decode prog_11_method_3_code 282 = .ok (.i2l, 1) := by decide +kernel
theorem d5_283 : decode prog_11_method_3_code 283 = .ok (.lor, 1) := by decide +kernel
theorem d5_284 : decode prog_11_method_3_code 284 = .ok (.lastore, 1) := by decide +kernel
theorem d5_285 : decode prog_11_method_3_code 285 = .ok (.aload_n 0, 1) := by decide +kernel
theorem d5_286 : decode prog_11_method_3_code 286 = .ok (.invokevirtual 98, 3) := by decide +kernel
theorem d5_289 : decode prog_11_method_3_code 289 = .ok (.iconst 2, 1) := by decide +kernel
theorem d5_290 : decode prog_11_method_3_code 290 = .ok (.aload_n 0, 1) := by decide +kernel
theorem d5_291 : decode prog_11_method_3_code 291 = .ok (.getfield 88, 3) := by decide +kernel
theorem d5_294 : decode prog_11_method_3_code 294 = .ok (.imul, 1) := by decide +kernel
theorem d5_295 : decode prog_11_method_3_code 295 = .ok (.aload_n 0, 1) := by decide +kernel
theorem d5_296 : decode prog_11_method_3_code 296 = .ok (.getfield 17, 3) := by decide +kernel
theorem d5_299 : decode prog_11_method_3_code 299 = .ok (.arraylength, 1) := by decide +kernel
theorem d5_300 : decode prog_11_method_3_code 300 = .ok (.if_icmp .le 7, 3) := by decide +kernel
theorem d5_303 : decode prog_11_method_3_code 303 = .ok (.aload_n 0, 1) := by decide +kernel
theorem d5_304 : decode prog_11_method_3_code 304 = .ok (.invokevirtual 101, 3) := by decide +kernel
theorem d5_307 : decode prog_11_method_3_code 307 = .ok (.return_, 1) := by decide +kernel
theorem pn_d5 : plainName "com/example/brisk_rules/briskrules/GroundRuleTable" = true := by first | (simp [plainName, overriddenIn]; done) | decide +kernel
theorem pd_d5 : parseMethodDescriptor "(Lcom/example/brisk_rules/briskrules/GroundRule$Builder;)V" = some ⟨[(.object "com/example/brisk_rules/briskrules/GroundRule$Builder")], none⟩ := by decide +kernel
theorem d6_0 : decode prog_10_method_8_code 0 = .ok (.aload_n 0, 1) := by decide +kernel
theorem d6_1 : decode prog_10_method_8_code 1 = .ok (.getfield 34, 3) := by decide +kernel
theorem d6_4 : decode prog_10_method_8_code 4 = .ok (.dreturn, 1) := by decide +kernel
theorem pn_d6 : plainName "com/example/brisk_rules/briskrules/GroundRule$Builder" = true := by first | (simp [plainName, overriddenIn]; done) | decide +kernel
theorem pd_d6 : parseMethodDescriptor "()D" = some ⟨[], some .double⟩ := by decide +kernel
theorem d7_0 : decode prog_11_method_22_code 0 = .ok (.aload_n 0, 1) := by decide +kernel
theorem d7_1 : decode prog_11_method_22_code 1 = .ok (.getfield 23, 3) := by decide +kernel
theorem d7_4 : decode prog_11_method_22_code 4 = .ok (.arraylength, 1) := by decide +kernel
theorem d7_5 : decode prog_11_method_22_code 5 = .ok (.aload_n 1, 1) := by decide +kernel
theorem d7_6 : decode prog_11_method_22_code 6 = .ok (.invokevirtual 158, 3) := by decide +kernel
theorem d7_9 : decode prog_11_method_22_code 9 = .ok (.if_icmp .ge 35, 3) := by decide +kernel
theorem d7_12 : decode prog_11_method_22_code 12 = .ok (.aload_n 0, 1) := by decide +kernel
theorem d7_13 : decode prog_11_method_22_code 13 = .ok (.iconst 4, 1) := by decide +kernel
theorem d7_14 : decode prog_11_method_22_code 14 = .ok (.aload_n 1, 1) := by decide +kernel
theorem d7_15 : decode prog_11_method_22_code 15 = .ok (.invokevirtual 158, 3) := by decide +kernel
theorem d7_18 : decode prog_11_method_22_code 18 = .ok (.iadd, 1) := by decide +kernel
theorem d7_19 : decode prog_11_method_22_code 19 = .ok (.newarray .long, 2) := by decide +kernel
theorem d7_21 : decode prog_11_method_22_code 21 = .ok (.putfield 20, 3) := by decide +kernel
theorem d7_24 : decode prog_11_method_22_code 24 = .ok (.aload_n 0, 1) := by decide +kernel
theorem d7_25 : decode prog_11_method_22_code 25 = .ok (.aload_n 1, 1) := by decide +kernel
theorem d7_26 : decode prog_11_method_22_code 26 = .ok (.invokevirtual 158, 3) := by decide +kernel
theorem d7_29 : decode prog_11_method_22_code 29 = .ok (.newarray .int, 2) := by decide +kernel
theorem d7_31 : decode prog_11_method_22_code 31 = .ok (.putfield 23, 3) := by decide +kernel
theorem d7_34 : decode prog_11_method_22_code 34 = .ok (.aload_n 0, 1) := by decide +kernel
theorem d7_35 : decode prog_11_method_22_code 35 = .ok (.aload_n 1, 1) := by decide +kernel
theorem d7_36 : decode prog_11_method_22_code 36 = .ok (.invokevirtual 158, 3) := by decide +kernel
theorem d7_39 : decode prog_11_method_22_code 39 = .ok (.newarray .int, 2) := by decide +kernel
theorem d7_41 : decode prog_11_method_22_code 41 = .ok (.putfield 26, 3) := by decide +kernel
theorem d7_44 : decode prog_11_method_22_code 44 = .ok (.iconst 0, 1) := by decide +kernel
theorem d7_45 : decode prog_11_method_22_code 45 = .ok (.istore_n 2, 1) := by decide +kernel
theorem d7_46 : decode prog_11_method_22_code 46 = .ok (.iconst 0, 1) := by decide +kernel
theorem d7_47 : decode prog_11_method_22_code 47 = .ok (.istore_n 3, 1) := by decide +kernel
theorem d7_48 : decode prog_11_method_22_code 48 = .ok (.iload_n 3, 1) := by decide +kernel
theorem d7_49 : decode prog_11_method_22_code 49 = .ok (.aload_n 1, 1) := by decide +kernel
theorem d7_50 : decode prog_11_method_22_code 50 = .ok (.invokevirtual 158, 3) := by decide +kernel
theorem d7_53 : decode prog_11_method_22_code 53 = .ok (.if_icmp .ge 151, 3) := by decide +kernel
theorem d7_56 : decode prog_11_method_22_code 56 = .ok (.aload_n 1, 1) := by decide +kernel
theorem d7_57 : decode prog_11_method_22_code 57 = .ok (.iload_n 3, 1) := by decide +kernel
theorem d7_58 : decode prog_11_method_22_code 58 = .ok (.invokevirtual 160, 3) := by decide +kernel
theorem d7_61 : decode prog_11_method_22_code 61 = .ok (.istore 4, 2) := by decide +kernel
theorem d7_63 : decode prog_11_method_22_code 63 = .ok (.aload_n 1, 1) := by decide +kernel
theorem d7_64 : decode prog_11_method_22_code 64 = .ok (.iload_n 3, 1) := by decide +kernel
theorem d7_65 : decode prog_11_method_22_code 65 = .ok (.invokevirtual 161, 3) := by decide +kernel
theorem d7_68 : decode prog_11_method_22_code 68 = .ok (.d2i, 1) := by decide +kernel
theorem d7_69 : decode prog_11_method_22_code 69 = .ok (.istore 5, 2) := by decide +kernel
theorem d7_71 : decode prog_11_method_22_code 71 = .ok (.iload_n 2, 1) := by decide +kernel
theorem d7_72 : decode prog_11_method_22_code 72 = .ok (.istore 6, 2) := by decide +kernel
theorem d7_74 : decode prog_11_method_22_code 74 = .ok (.iload 6, 2) := by decide +kernel
theorem d7_76 : decode prog_11_method_22_code 76 = .ok (.ifCond .le 23, 3) := by decide +kernel
theorem d7_79 : decode prog_11_method_22_code 79 = .ok (.aload_n 0, 1) := by decide +kernel
theorem d7_80 : decode prog_11_method_22_code 80 = .ok (.getfield 23, 3) := by decide +kernel
theorem d7_83 : decode prog_11_method_22_code 83 = .ok (.iload 6, 2) := by decide +kernel
theorem d7_85 : decode prog_11_method_22_code 85 = .ok (.iconst 1, 1) := by decide +kernel
theorem d7_86 : decode prog_11_method_22_code 86 = .ok (.isub, 1) := by decide +kernel
theorem d7_87 : decode prog_11_method_22_code 87 = .ok (.iaload, 1) := by decide +kernel
theorem d7_88 : decode prog_11_method_22_code 88 = .ok (.iload 4, 2) := by decide +kernel
theorem d7_90 : decode prog_11_method_22_code 90 = .ok (.if_icmp .le 9, 3) := by decide +kernel
theorem d7_93 : decode prog_11_method_22_code 93 = .ok (.iinc 6 (-1), 3) := by decide +kernel
theorem d7_96 : decode prog_11_method_22_code 96 = .ok (.goto (-22), 3) := by decide +kernel
theorem d7_99 : decode prog_11_method_22_code 99 = .ok (.iload 6, 2) := by decide +kernel
theorem d7_101 : decode prog_11_method_22_code 101 = .ok (.ifCond .le 34, 3) := by decide +kernel
theorem d7_104 : decode prog_11_method_22_code 104 = .ok (.aload_n 0, 1) := by decide +kernel
theorem d7_105 : decode prog_11_method_22_code 105 = .ok (.getfield 23, 3) := by decide +kernel
theorem d7_108 : decode prog_11_method_22_code 108 = .ok (.iload 6, 2) := by decide +kernel
theorem d7_110 : decode prog_11_method_22_code 110 = .ok (.iconst 1, 1) := by decide +kernel
theorem d7_111 : decode prog_11_method_22_code 111 = .ok (.isub, 1) := by decide +kernel
theorem d7_112 : decode prog_11_method_22_code 112 = .ok (.iaload, 1) := by decide +kernel
theorem d7_113 : decode prog_11_method_22_code 113 = .ok (.iload 4, 2) := by decide +kernel
theorem d7_115 : decode prog_11_method_22_code 115 = .ok (.if_icmp .ne 20, 3) := by decide +kernel
theorem d7_118 : decode prog_11_method_22_code 118 = .ok (.aload_n 0, 1) := by decide +kernel
theorem d7_119 : decode prog_11_method_22_code 119 = .ok (.getfield 26, 3) := by decide +kernel
theorem d7_122 : decode prog_11_method_22_code 122 = .ok (.iload 6, 2) := by decide +kernel
theorem d7_124 : decode prog_11_method_22_code 124 = .ok (.iconst 1, 1) := by decide +kernel
theorem d7_125 : decode prog_11_method_22_code 125 = .ok (.isub, 1) := by decide +kernel
theorem d7_126 : decode prog_11_method_22_code 126 = .ok (.dup2, 1) := by decide +kernel
theorem d7_127 : decode prog_11_method_22_code 127 = .ok (.iaload, 1) := by decide +kernel
theorem d7_128 : decode prog_11_method_22_code 128 = .ok (.iload 5, 2) := by decide +kernel
theorem d7_130 : decode prog_11_method_22_code 130 = .ok (.iadd, 1) := by decide +kernel
theorem d7_131 : decode prog_11_method_22_code 131 = .ok (.iastore, 1) := by decide +kernel
theorem d7_132 : decode prog_11_method_22_code 132 = .ok (.goto 66, 3) := by decide +kernel
theorem d7_135 : decode prog_11_method_22_code 135 = .ok (.aload_n 0, 1) := by decide +kernel
theorem d7_136 : decode prog_11_method_22_code 136 = .ok (.getfield 23, 3) := by decide +kernel
theorem d7_139 : decode prog_11_method_22_code 139 = .ok (.iload 6, 2) := by decide +kernel
theorem d7_141 : decode prog_11_method_22_code 141 = .ok (.aload_n 0, 1) := by decide +kernel
theorem d7_142 : decode prog_11_method_22_code 142 = .ok (.getfield 23, 3) := by decide +kernel
theorem d7_145 : decode prog_11_method_22_code 145 = .ok (.iload 6, 2) := by decide +kernel
theorem d7_147 : decode prog_11_method_22_code 147 = .ok (.iconst 1, 1) := by decide +kernel
theorem d7_148 : decode prog_11_method_22_code 148 = .ok (.iadd, 1) := by decide +kernel
theorem d7_149 : decode prog_11_method_22_code 149 = .ok (.iload_n 2, 1) := by decide +kernel
theorem d7_150 : decode prog_11_method_22_code 150 = .ok (.iload 6, 2) := by decide +kernel
theorem d7_152 : decode prog_11_method_22_code 152 = .ok (.isub, 1) := by decide +kernel
theorem d7_153 : decode prog_11_method_22_code 153 = .ok (.invokestatic 162, 3) := by decide +kernel
theorem d7_156 : decode prog_11_method_22_code 156 = .ok (.aload_n 0, 1) := by decide +kernel
theorem d7_157 : decode prog_11_method_22_code 157 = .ok (.getfield 26, 3) := by decide +kernel
theorem d7_160 : decode prog_11_method_22_code 160 = .ok (.iload 6, 2) := by decide +kernel
theorem d7_162 : decode prog_11_method_22_code 162 = .ok (.aload_n 0, 1) := by decide +kernel
theorem d7_163 : decode prog_11_method_22_code 163 = .ok (.getfield 26, 3) := by decide +kernel
theorem d7_166 : decode prog_11_method_22_code 166 = .ok (.iload 6, 2) := by decide +kernel
theorem d7_168 : decode prog_11_method_22_code 168 = .ok (.iconst 1, 1) := by decide +kernel
theorem d7_169 : decode prog_11_method_22_code 169 = .ok (.iadd, 1) := by decide +kernel
theorem d7_170 : decode prog_11_method_22_code 170 = .ok (.iload_n 2, 1) := by decide +kernel
theorem d7_171 : decode prog_11_method_22_code 171 = .ok (.iload 6, 2) := by decide +kernel
theorem d7_173 : decode prog_11_method_22_code 173 = .ok (.isub, 1) := by decide +kernel
theorem d7_174 : decode prog_11_method_22_code 174 = .ok (.invokestatic 162, 3) := by decide +kernel
theorem d7_177 : decode prog_11_method_22_code 177 = .ok (.aload_n 0, 1) := by decide +kernel
theorem d7_178 : decode prog_11_method_22_code 178 = .ok (.getfield 23, 3) := by decide +kernel
theorem d7_181 : decode prog_11_method_22_code 181 = .ok (.iload 6, 2) := by decide +kernel
theorem d7_183 : decode prog_11_method_22_code 183 = .ok (.iload 4, 2) := by decide +kernel
theorem d7_185 : decode prog_11_method_22_code 185 = .ok (.iastore, 1) := by decide +kernel
theorem d7_186 : decode prog_11_method_22_code 186 = .ok (.aload_n 0, 1) := by decide +kernel
theorem d7_187 : decode prog_11_method_22_code 187 = .ok (.getfield 26, 3) := by decide +kernel
theorem d7_190 : decode prog_11_method_22_code 190 = .ok (.iload 6, 2) := by decide +kernel
theorem d7_192 : decode prog_11_method_22_code 192 = .ok (.iload 5, 2) := by decide +kernel
theorem d7_194 : decode prog_11_method_22_code 194 = .ok (.iastore, 1) := by decide +kernel
theorem d7_195 : decode prog_11_method_22_code 195 = .ok (.iinc 2 1, 3) := by decide +kernel
theorem d7_198 : decode prog_11_method_22_code 198 = .ok (.iinc 3 1, 3) := by decide +kernel
theorem d7_201 : decode prog_11_method_22_code 201 = .ok (.goto (-153), 3) := by decide +kernel
theorem d7_204 : decode prog_11_method_22_code 204 = .ok (.iconst 0, 1) := by decide +kernel
theorem d7_205 : decode prog_11_method_22_code 205 = .ok (.istore_n 3, 1) := by decide +kernel
theorem d7_206 : decode prog_11_method_22_code 206 = .ok (.iload_n 3, 1) := by decide +kernel
theorem d7_207 : decode prog_11_method_22_code 207 = .ok (.iload_n 2, 1) := by decide +kernel
theorem d7_208 : decode prog_11_method_22_code 208 = .ok (.if_icmp .ge 39, 3) := by decide +kernel
theorem d7_211 : decode prog_11_method_22_code 211 = .ok (.aload_n 0, 1) := by decide +kernel
theorem d7_212 : decode prog_11_method_22_code 212 = .ok (.getfield 20, 3) := by decide +kernel
theorem d7_215 : decode prog_11_method_22_code 215 = .ok (.iconst 4, 1) := by decide +kernel
theorem d7_216 : decode prog_11_method_22_code 216 = .ok (.iload_n 3, 1) := by decide +kernel
theorem d7_217 : decode prog_11_method_22_code 217 = .ok (.iadd, 1) := by decide +kernel
theorem d7_218 : decode prog_11_method_22_code 218 = .ok (.aload_n 0, 1) := by decide +kernel
theorem d7_219 : decode prog_11_method_22_code 219 = .ok (.getfield 23, 3) := by decide +kernel
theorem d7_222 : decode prog_11_method_22_code 222 = .ok (.iload_n 3, 1) := by decide +kernel
theorem d7_223 : decode prog_11_method_22_code 223 = .ok (.iaload, 1) := by decide +kernel
theorem d7_224 : decode prog_11_method_22_code 224 = .ok (.i2l, 1) := by decide +kernel
theorem d7_225 : decode prog_11_method_22_code 225 = .ok (.bipush 32, 2) := by decide +kernel
theorem d7_227 : decode prog_11_method_22_code 227 = .ok (.lshl, 1) := by decide +kernel
theorem d7_228 : decode prog_11_method_22_code 228 = .ok (.aload_n 0, 1) := by decide +kernel
theorem d7_229 : decode prog_11_method_22_code 229 = .ok (.getfield 26, 3) := by decide +kernel
theorem d7_232 : decode prog_11_method_22_code 232 = .ok (.iload_n 3, 1) := by decide +kernel
theorem d7_233 : decode prog_11_method_22_code 233 = .ok (.iaload, 1) := by decide +kernel
theorem d7_234 : decode prog_11_method_22_code 234 = .ok (.i2l, 1) := by decide +kernel
theorem d7_235 : decode prog_11_method_22_code 235 = .ok (.ldc2_w 168, 3) := by decide +kernel
theorem d7_238 : decode prog_11_method_22_code 238 = .ok (.land, 1) := by decide +kernel
theorem d7_239 : decode prog_11_method_22_code 239 = .ok (.lor, 1) := by decide +kernel
theorem d7_240 : decode prog_11_method_22_code 240 = .ok (.lastore, 1) := by decide +kernel
theorem d7_241 : decode prog_11_method_22_code 241 = .ok (.iinc 3 1, 3) := by decide +kernel
theorem d7_244 : decode prog_11_method_22_code 244 = .ok (.goto (-38), 3) := by decide +kernel
theorem d7_247 : decode prog_11_method_22_code 247 = .ok (.iload_n 2, 1) := by decide +kernel
theorem d7_248 : decode prog_11_method_22_code 248 = .ok (.ireturn, 1) := by decide +kernel
theorem pn_d7 : plainName "com/example/brisk_rules/briskrules/GroundRuleTable" = true := by first | (simp [plainName, overriddenIn]; done) | decide +kernel
theorem pd_d7 : parseMethodDescriptor "(Lcom/example/brisk_rules/briskrules/GroundRule$Builder;)I" = some ⟨[(.object "com/example/brisk_rules/briskrules/GroundRule$Builder")], some .int⟩ := by decide +kernel
theorem d8_0 : decode prog_10_method_11_code 0 = .ok (.aload_n 0, 1) := by decide +kernel
theorem d8_1 : decode prog_10_method_11_code 1 = .ok (.getfield 48, 3) := by decide +kernel
theorem d8_4 : decode prog_10_method_11_code 4 = .ok (.ireturn, 1) := by decide +kernel
theorem pn_d8 : plainName "com/example/brisk_rules/briskrules/GroundRule$Builder" = true := by first | (simp [plainName, overriddenIn]; done) | decide +kernel
theorem pd_d8 : parseMethodDescriptor "()I" = some ⟨[], some .int⟩ := by decide +kernel
theorem d9_0 : decode prog_10_method_12_code 0 = .ok (.aload_n 0, 1) := by decide +kernel
theorem d9_1 : decode prog_10_method_12_code 1 = .ok (.getfield 13, 3) := by decide +kernel
theorem d9_4 : decode prog_10_method_12_code 4 = .ok (.iload_n 1, 1) := by decide +kernel
theorem d9_5 : decode prog_10_method_12_code 5 = .ok (.iaload, 1) := by decide +kernel
theorem d9_6 : decode prog_10_method_12_code 6 = .ok (.ireturn, 1) := by decide +kernel
theorem pn_d9 : plainName "com/example/brisk_rules/briskrules/GroundRule$Builder" = true := by first | (simp [plainName, overriddenIn]; done) | decide +kernel
theorem pd_d9 : parseMethodDescriptor "(I)I" = some ⟨[.int], some .int⟩ := by decide +kernel
theorem d10_0 : decode prog_10_method_13_code 0 = .ok (.aload_n 0, 1) := by decide +kernel
theorem d10_1 : decode prog_10_method_13_code 1 = .ok (.getfield 17, 3) := by decide +kernel
theorem d10_4 : decode prog_10_method_13_code 4 = .ok (.iload_n 1, 1) := by decide +kernel
theorem d10_5 : decode prog_10_method_13_code 5 = .ok (.daload, 1) := by decide +kernel
theorem d10_6 : decode prog_10_method_13_code 6 = .ok (.dreturn, 1) := by decide +kernel
theorem pn_d10 : plainName "com/example/brisk_rules/briskrules/GroundRule$Builder" = true := by first | (simp [plainName, overriddenIn]; done) | decide +kernel
theorem pd_d10 : parseMethodDescriptor "(I)D" = some ⟨[.int], some .double⟩ := by decide +kernel
theorem d11_0 : decode prog_10_method_10_code 0 = .ok (.aload_n 0, 1) := by decide +kernel
theorem d11_1 : decode prog_10_method_10_code 1 = .ok (.getfield 7, 3) := by decide +kernel
theorem d11_4 : decode prog_10_method_10_code 4 = .ok (.dreturn, 1) := by decide +kernel
theorem pn_d11 : plainName "com/example/brisk_rules/briskrules/GroundRule$Builder" = true := by first | (simp [plainName, overriddenIn]; done) | decide +kernel
theorem pd_d11 : parseMethodDescriptor "()D" = some ⟨[], some .double⟩ := by decide +kernel
theorem d12_0 : decode prog_11_method_23_code 0 = .ok (.dload_n 1, 1) := by decide +kernel
theorem d12_1 : decode prog_11_method_23_code 1 = .ok (.dstore 4, 2) := by decide +kernel
theorem d12_3 : decode prog_11_method_23_code 3 = .ok (.iconst 0, 1) := by decide +kernel
theorem d12_4 : decode prog_11_method_23_code 4 = .ok (.istore 6, 2) := by decide +kernel
theorem d12_6 : decode prog_11_method_23_code 6 = .ok (.iload 6, 2) := by decide +kernel
theorem d12_8 : decode prog_11_method_23_code 8 = .ok (.iload_n 3, 1) := by decide +kernel
theorem d12_9 : decode prog_11_method_23_code 9 = .ok (.if_icmp .ge 29, 3) := by decide +kernel
theorem d12_12 : decode prog_11_method_23_code 12 = .ok (.dload 4, 2) := by decide +kernel
theorem d12_14 : decode prog_11_method_23_code 14 = .ok (.iconst 0, 1) := by decide +kernel
theorem d12_15 : decode prog_11_method_23_code 15 = .ok (.aload_n 0, 1) := by decide +kernel
theorem d12_16 : decode prog_11_method_23_code 16 = .ok (.getfield 20, 3) := by decide +kernel
theorem d12_19 : decode prog_11_method_23_code 19 = .ok (.iconst 4, 1) := by decide +kernel
theorem d12_20 : decode prog_11_method_23_code 20 = .ok (.iload 6, 2) := by decide +kernel
theorem d12_22 : decode prog_11_method_23_code 22 = .ok (.iadd, 1) := by decide +kernel
theorem d12_23 : decode prog_11_method_23_code 23 = .ok (.laload, 1) := by decide +kernel
theorem d12_24 : decode prog_11_method_23_code 24 = .ok (.l2i, 1) := by decide +kernel
theorem d12_25 : decode prog_11_method_23_code 25 = .ok (.invokestatic 170, 3) := by decide +kernel
theorem d12_28 : decode prog_11_method_23_code 28 = .ok (.i2d, 1) := by decide +kernel
theorem d12_29 : decode prog_11_method_23_code 29 = .ok (.dadd, 1) := by decide +kernel
theorem d12_30 : decode prog_11_method_23_code 30 = .ok (.dstore 4, 2) := by decide +kernel
theorem d12_32 : decode prog_11_method_23_code 32 = .ok (.iinc 6 1, 3) := by decide +kernel
theorem d12_35 : decode prog_11_method_23_code 35 = .ok (.goto (-29), 3) := by decide +kernel
theorem d12_38 : decode prog_11_method_23_code 38 = .ok (.dload 4, 2) := by decide +kernel
theorem d12_40 : decode prog_11_method_23_code 40 = .ok (.dconst 0, 1) := by decide +kernel
theorem d12_41 : decode prog_11_method_23_code 41 = .ok (.dcmp .l, 1) := by decide +kernel
theorem d12_42 : decode prog_11_method_23_code 42 = .ok (.ifCond .le 7, 3) := by decide +kernel
theorem d12_45 : decode prog_11_method_23_code 45 = .ok (.iconst 1, 1) := by decide +kernel
theorem d12_46 : decode prog_11_method_23_code 46 = .ok (.goto 4, 3) := by decide +kernel
theorem d12_49 : decode prog_11_method_23_code 49 = .ok (.iconst 0, 1) := by decide +kernel
theorem d12_50 : decode prog_11_method_23_code 50 = .ok (.ireturn, 1) := by decide +kernel
theorem pn_d12 : plainName "com/example/brisk_rules/briskrules/GroundRuleTable" = true := by first | (simp [plainName, overriddenIn]; done) | decide +kernel
theorem pd_d12 : parseMethodDescriptor "(DI)Z" = some ⟨[.double, .int], some .boolean⟩ := by decide +kernel
theorem d13_0 : decode jdk_29_method_65_code 0 = .ok (.iload_n 0, 1) := by decide +kernel
theorem d13_1 : decode jdk_29_method_65_code 1 = .ok (.iload_n 1, 1) := by decide +kernel
theorem d13_2 : decode jdk_29_method_65_code 2 = .ok (.if_icmp .lt 7, 3) := by decide +kernel
theorem d13_5 : decode jdk_29_method_65_code 5 = .ok (.iload_n 0, 1) := by decide +kernel
theorem d13_6 : decode jdk_29_method_65_code 6 = .ok (.goto 4, 3) := by decide +kernel
theorem d13_9 : decode jdk_29_method_65_code 9 = .ok (.iload_n 1, 1) := by decide +kernel
theorem d13_10 : decode jdk_29_method_65_code 10 = .ok (.ireturn, 1) := by decide +kernel
theorem pd_d13 : parseMethodDescriptor "(II)I" = some ⟨[.int, .int], some .int⟩ := by decide +kernel
theorem d14_0 : decode prog_10_method_9_code 0 = .ok (.aload_n 0, 1) := by decide +kernel
theorem d14_1 : decode prog_10_method_9_code 1 = .ok (.getfield 37, 3) := by decide +kernel
theorem d14_4 : decode prog_10_method_9_code 4 = .ok (.ireturn, 1) := by decide +kernel
theorem pn_d14 : plainName "com/example/brisk_rules/briskrules/GroundRule$Builder" = true := by first | (simp [plainName, overriddenIn]; done) | decide +kernel
theorem pd_d14 : parseMethodDescriptor "()Z" = some ⟨[], some .boolean⟩ := by decide +kernel
theorem d15_0 : decode prog_11_method_24_code 0 = .ok (.ldc2_w 173, 3) := by decide +kernel
theorem d15_3 : decode prog_11_method_24_code 3 = .ok (.aload_n 0, 1) := by decide +kernel
theorem d15_4 : decode prog_11_method_24_code 4 = .ok (.getfield 20, 3) := by decide +kernel
theorem d15_7 : decode prog_11_method_24_code 7 = .ok (.iconst 0, 1) := by decide +kernel
theorem d15_8 : decode prog_11_method_24_code 8 = .ok (.laload, 1) := by decide +kernel
theorem d15_9 : decode prog_11_method_24_code 9 = .ok (.lmul, 1) := by decide +kernel
theorem d15_10 : decode prog_11_method_24_code 10 = .ok (.aload_n 0, 1) := by decide +kernel
theorem d15_11 : decode prog_11_method_24_code 11 = .ok (.getfield 20, 3) := by decide +kernel
theorem d15_14 : decode prog_11_method_24_code 14 = .ok (.iconst 3, 1) := by decide +kernel
theorem d15_15 : decode prog_11_method_24_code 15 = .ok (.laload, 1) := by decide +kernel
theorem d15_16 : decode prog_11_method_24_code 16 = .ok (.ladd, 1) := by decide +kernel
theorem d15_17 : decode prog_11_method_24_code 17 = .ok (.lstore_n 1, 1) := by decide +kernel
theorem d15_18 : decode prog_11_method_24_code 18 = .ok (.iconst 4, 1) := by decide +kernel
theorem d15_19 : decode prog_11_method_24_code 19 = .ok (.istore_n 3, 1) := by decide +kernel
theorem d15_20 : decode prog_11_method_24_code 20 = .ok (.iload_n 3, 1) := by decide +kernel
theorem d15_21 : decode prog_11_method_24_code 21 = .ok (.iconst 4, 1) := by decide +kernel
theorem d15_22 : decode prog_11_method_24_code 22 = .ok (.aload_n 0, 1) := by decide +kernel
theorem d15_23 : decode prog_11_method_24_code 23 = .ok (.getfield 20, 3) := by decide +kernel
theorem d15_26 : decode prog_11_method_24_code 26 = .ok (.iconst 0, 1) := by decide +kernel
theorem d15_27 : decode prog_11_method_24_code 27 = .ok (.invokestatic 115, 3) := by decide +kernel
theorem d15_30 : decode prog_11_method_24_code 30 = .ok (.iadd, 1) := by decide +kernel
theorem d15_31 : decode prog_11_method_24_code 31 = .ok (.if_icmp .ge 22, 3) := by decide +kernel
theorem d15_34 : decode prog_11_method_24_code 34 = .ok (.ldc2_w 173, 3) := by decide +kernel
theorem d15_37 : decode prog_11_method_24_code 37 = .ok (.lload_n 1, 1) := by decide +kernel
theorem d15_38 : decode prog_11_method_24_code 38 = .ok (.lmul, 1) := by decide +kernel
theorem d15_39 : decode prog_11_method_24_code 39 = .ok (.aload_n 0, 1) := by decide +kernel
theorem d15_40 : decode prog_11_method_24_code 40 = .ok (.getfield 20, 3) := by decide +kernel
theorem d15_43 : decode prog_11_method_24_code 43 = .ok (.iload_n 3, 1) := by decide +kernel
theorem d15_44 : decode prog_11_method_24_code 44 = .ok (.laload, 1) := by decide +kernel
theorem d15_45 : decode prog_11_method_24_code 45 = .ok (.ladd, 1) := by decide +kernel
theorem d15_46 : decode prog_11_method_24_code 46 = .ok (.lstore_n 1, 1) := by decide +kernel
theorem d15_47 : decode prog_11_method_24_code 47 = .ok (.iinc 3 1, 3) := by decide +kernel
theorem d15_50 : decode prog_11_method_24_code 50 = .ok (.goto (-30), 3) := by decide +kernel
theorem d15_53 : decode prog_11_method_24_code 53 = .ok (.lload_n 1, 1) := by decide +kernel
theorem d15_54 : decode prog_11_method_24_code 54 = .ok (.lload_n 1, 1) := by decide +kernel
theorem d15_55 : decode prog_11_method_24_code 55 = .ok (.bipush 33, 2) := by decide +kernel
theorem d15_57 : decode prog_11_method_24_code 57 = .ok (.lushr, 1) := by decide +kernel
theorem d15_58 : decode prog_11_method_24_code 58 = .ok (.lxor, 1) := by decide +kernel
theorem d15_59 : decode prog_11_method_24_code 59 = .ok (.ldc2_w 175, 3) := by decide +kernel
theorem d15_62 : decode prog_11_method_24_code 62 = .ok (.lmul, 1) := by decide +kernel
theorem d15_63 : decode prog_11_method_24_code 63 = .ok (.lstore_n 1, 1) := by decide +kernel
theorem d15_64 : decode prog_11_method_24_code 64 = .ok (.lload_n 1, 1) := by decide +kernel
theorem d15_65 : decode prog_11_method_24_code 65 = .ok (.lload_n 1, 1) := by decide +kernel
theorem d15_66 : decode prog_11_method_24_code 66 = .ok (.bipush 33, 2) := by decide +kernel
theorem d15_68 : decode prog_11_method_24_code 68 = .ok (.lushr, 1) := by decide +kernel
theorem d15_69 : decode prog_11_method_24_code 69 = .ok (.lxor, 1) := by decide +kernel
theorem d15_70 : decode prog_11_method_24_code 70 = .ok (.ldc2_w 177, 3) := by decide +kernel
theorem d15_73 : decode prog_11_method_24_code 73 = .ok (.lmul, 1) := by decide +kernel
theorem d15_74 : decode prog_11_method_24_code 74 = .ok (.lstore_n 1, 1) := by decide +kernel
theorem d15_75 : decode prog_11_method_24_code 75 = .ok (.lload_n 1, 1) := by decide +kernel
theorem d15_76 : decode prog_11_method_24_code 76 = .ok (.lload_n 1, 1) := by decide +kernel
theorem d15_77 : decode prog_11_method_24_code 77 = .ok (.bipush 33, 2) := by decide +kernel
theorem d15_79 : decode prog_11_method_24_code 79 = .ok (.lushr, 1) := by decide +kernel
theorem d15_80 : decode prog_11_method_24_code 80 = .ok (.lxor, 1) := by decide +kernel
theorem d15_81 : decode prog_11_method_24_code 81 = .ok (.l2i, 1) := by decide +kernel
theorem d15_82 : decode prog_11_method_24_code 82 = .ok (.ireturn, 1) := by decide +kernel
theorem pn_d15 : plainName "com/example/brisk_rules/briskrules/GroundRuleTable" = true := by first | (simp [plainName, overriddenIn]; done) | decide +kernel
theorem pd_d15 : parseMethodDescriptor "()I" = some ⟨[], some .int⟩ := by decide +kernel
theorem d16_0 : decode prog_11_method_26_code 0 = .ok (.aload_n 0, 1) := by decide +kernel
theorem d16_1 : decode prog_11_method_26_code 1 = .ok (.iload_n 1, 1) := by decide +kernel
theorem d16_2 : decode prog_11_method_26_code 2 = .ok (.iconst 3, 1) := by decide +kernel
theorem d16_3 : decode prog_11_method_26_code 3 = .ok (.iadd, 1) := by decide +kernel
theorem d16_4 : decode prog_11_method_26_code 4 = .ok (.laload, 1) := by decide +kernel
theorem d16_5 : decode prog_11_method_26_code 5 = .ok (.iconst 1, 1) := by decide +kernel
theorem d16_6 : decode prog_11_method_26_code 6 = .ok (.lushr, 1) := by decide +kernel
theorem d16_7 : decode prog_11_method_26_code 7 = .ok (.l2i, 1) := by decide +kernel
theorem d16_8 : decode prog_11_method_26_code 8 = .ok (.ireturn, 1) := by decide +kernel
theorem pn_d16 : plainName "com/example/brisk_rules/briskrules/GroundRuleTable" = true := by first | (simp [plainName, overriddenIn]; done) | decide +kernel
theorem pd_d16 : parseMethodDescriptor "([JI)I" = some ⟨[(.array .long), .int], some .int⟩ := by decide +kernel
theorem d17_0 : decode prog_11_method_27_code 0 = .ok (.iconst 4, 1) := by decide +kernel
theorem d17_1 : decode prog_11_method_27_code 1 = .ok (.aload_n 0, 1) := by decide +kernel
theorem d17_2 : decode prog_11_method_27_code 2 = .ok (.getfield 20, 3) := by decide +kernel
theorem d17_5 : decode prog_11_method_27_code 5 = .ok (.iconst 0, 1) := by decide +kernel
theorem d17_6 : decode prog_11_method_27_code 6 = .ok (.invokestatic 115, 3) := by decide +kernel
theorem d17_9 : decode prog_11_method_27_code 9 = .ok (.iadd, 1) := by decide +kernel
theorem d17_10 : decode prog_11_method_27_code 10 = .ok (.istore_n 1, 1) := by decide +kernel
theorem d17_11 : decode prog_11_method_27_code 11 = .ok (.aload_n 0, 1) := by decide +kernel
theorem d17_12 : decode prog_11_method_27_code 12 = .ok (.getfield 88, 3) := by decide +kernel
theorem d17_15 : decode prog_11_method_27_code 15 = .ok (.aload_n 0, 1) := by decide +kernel
theorem d17_16 : decode prog_11_method_27_code 16 = .ok (.getfield 13, 3) := by decide +kernel
theorem d17_19 : decode prog_11_method_27_code 19 = .ok (.arraylength, 1) := by decide +kernel
theorem d17_20 : decode prog_11_method_27_code 20 = .ok (.if_icmp .ne 22, 3) := by decide +kernel
theorem d17_23 : decode prog_11_method_27_code 23 = .ok (.aload_n 0, 1) := by decide +kernel
theorem d17_24 : decode prog_11_method_27_code 24 = .ok (.aload_n 0, 1) := by decide +kernel
theorem d17_25 : decode prog_11_method_27_code 25 = .ok (.getfield 13, 3) := by decide +kernel
theorem d17_28 : decode prog_11_method_27_code 28 = .ok (.aload_n 0, 1) := by decide +kernel
theorem d17_29 : decode prog_11_method_27_code 29 = .ok (.getfield 88, 3) := by decide +kernel
theorem d17_32 : decode prog_11_method_27_code 32 = .ok (.iconst 1, 1) := by decide +kernel
theorem d17_33 : decode prog_11_method_27_code 33 = .ok (.invokestatic 179, 3) := by decide +kernel
theorem d17_36 : decode prog_11_method_27_code 36 = .ok (.invokestatic 182, 3) := by decide +kernel
theorem d17_39 : decode prog_11_method_27_code 39 = .ok (.putfield 13, 3) := by decide +kernel
theorem d17_42 : decode prog_11_method_27_code 42 = .ok (.aload_n 0, 1) := by decide +kernel
theorem d17_43 : decode prog_11_method_27_code 43 = .ok (.getfield 95, 3) := by decide +kernel
theorem d17_46 : decode prog_11_method_27_code 46 = .ok (.iload_n 1, 1) := by decide +kernel
theorem d17_47 : decode prog_11_method_27_code 47 = .ok (.iadd, 1) := by decide +kernel
theorem d17_48 : decode prog_11_method_27_code 48 = .ok (.aload_n 0, 1) := by decide +kernel
theorem d17_49 : decode prog_11_method_27_code 49 = .ok (.getfield 7, 3) := by decide +kernel
theorem d17_52 : decode prog_11_method_27_code 52 = .ok (.arraylength, 1) := by decide +kernel
theorem d17_53 : decode prog_11_method_27_code 53 = .ok (.if_icmp .le 23, 3) := by decide +kernel
theorem d17_56 : decode prog_11_method_27_code 56 = .ok (.aload_n 0, 1) := by decide +kernel
theorem d17_57 : decode prog_11_method_27_code 57 = .ok (.aload_n 0, 1) := by decide +kernel
theorem d17_58 : decode prog_11_method_27_code 58 = .ok (.getfield 7, 3) := by decide +kernel
theorem d17_61 : decode prog_11_method_27_code 61 = .ok (.aload_n 0, 1) := by decide +kernel
theorem d17_62 : decode prog_11_method_27_code 62 = .ok (.getfield 7, 3) := by decide +kernel
theorem d17_65 : decode prog_11_method_27_code 65 = .ok (.arraylength, 1) := by decide +kernel
theorem d17_66 : decode prog_11_method_27_code 66 = .ok (.iload_n 1, 1) := by decide +kernel
theorem d17_67 : decode prog_11_method_27_code 67 = .ok (.invokestatic 179, 3) := by decide +kernel
theorem d17_70 : decode prog_11_method_27_code 70 = .ok (.invokestatic 188, 3) := by decide +kernel
theorem d17_73 : decode prog_11_method_27_code 73 = .ok (.putfield 7, 3) := by decide +kernel
theorem d17_76 : decode prog_11_method_27_code 76 = .ok (.aload_n 0, 1) := by decide +kernel
theorem d17_77 : decode prog_11_method_27_code 77 = .ok (.getfield 20, 3) := by decide +kernel
theorem d17_80 : decode prog_11_method_27_code 80 = .ok (.iconst 0, 1) := by decide +kernel
theorem d17_81 : decode prog_11_method_27_code 81 = .ok (.aload_n 0, 1) := by decide +kernel
theorem d17_82 : decode prog_11_method_27_code 82 = .ok (.getfield 7, 3) := by decide +kernel
theorem d17_85 : decode prog_11_method_27_code 85 = .ok (.aload_n 0, 1) := by decide +kernel
theorem d17_86 : decode prog_11_method_27_code 86 = .ok (.getfield 95, 3) := by decide +kernel
theorem d17_89 : decode prog_11_method_27_code 89 = .ok (.iload_n 1, 1) := by decide +kernel
theorem d17_90 : decode prog_11_method_27_code 90 = .ok (.invokestatic 162, 3) := by decide +kernel
theorem d17_93 : decode prog_11_method_27_code 93 = .ok (.aload_n 0, 1) := by decide +kernel
theorem d17_94 : decode prog_11_method_27_code 94 = .ok (.getfield 13, 3) := by decide +kernel
theorem d17_97 : decode prog_11_method_27_code 97 = .ok (.aload_n 0, 1) := by decide +kernel
theorem d17_98 : decode prog_11_method_27_code 98 = .ok (.getfield 88, 3) := by decide +kernel
theorem d17_101 : decode prog_11_method_27_code 101 = .ok (.aload_n 0, 1) := by decide +kernel
theorem d17_102 : decode prog_11_method_27_code 102 = .ok (.getfield 95, 3) := by decide +kernel
theorem d17_105 : decode prog_11_method_27_code 105 = .ok (.iastore, 1) := by decide +kernel
theorem d17_106 : decode prog_11_method_27_code 106 = .ok (.aload_n 0, 1) := by decide +kernel
theorem d17_107 : decode prog_11_method_27_code 107 = .ok (.dup, 1) := by decide +kernel
theorem d17_108 : decode prog_11_method_27_code 108 = .ok (.getfield 88, 3) := by decide +kernel
theorem d17_111 : decode prog_11_method_27_code 111 = .ok (.iconst 1, 1) := by decide +kernel
theorem d17_112 : decode prog_11_method_27_code 112 = .ok (.iadd, 1) := by decide +kernel
theorem d17_113 : decode prog_11_method_27_code 113 = .ok (.putfield 88, 3) := by decide +kernel
theorem d17_116 : decode prog_11_method_27_code 116 = .ok (.aload_n 0, 1) := by decide +kernel
theorem d17_117 : decode prog_11_method_27_code 117 = .ok (.dup, 1) := by decide +kernel
theorem d17_118 : decode prog_11_method_27_code 118 = .ok (.getfield 95, 3) := by decide +kernel
theorem d17_121 : decode prog_11_method_27_code 121 = .ok (.iload_n 1, 1) := by decide +kernel
theorem d17_122 : decode prog_11_method_27_code 122 = .ok (.iadd, 1) := by decide +kernel
theorem d17_123 : decode prog_11_method_27_code 123 = .ok (.putfield 95, 3) := by decide +kernel
theorem d17_126 : decode prog_11_method_27_code 126 = .ok (.aload_n 0, 1) := by decide +kernel
theorem d17_127 : decode prog_11_method_27_code 127 = .ok (.dup, 1) := by decide +kernel
theorem d17_128 : decode prog_11_method_27_code 128 = .ok (.getfield 85, 3) := by decide +kernel
theorem d17_131 : decode prog_11_method_27_code 131 = .ok (.lconst 1, 1) := by decide +kernel
theorem d17_132 : decode prog_11_method_27_code 132 = .ok (.ladd, 1) := by decide +kernel
theorem d17_133 : decode prog_11_method_27_code 133 = .ok (.putfield 85, 3) := by decide +kernel
theorem d17_136 : decode prog_11_method_27_code 136 = .ok (.return_, 1) := by decide +kernel
theorem pn_d17 : plainName "com/example/brisk_rules/briskrules/GroundRuleTable" = true := by first | (simp [plainName, overriddenIn]; done) | decide +kernel
theorem pd_d17 : parseMethodDescriptor "()V" = some ⟨[], none⟩ := by decide +kernel
theorem d18_0 : decode prog_11_method_7_code 0 = .ok (.aload_n 0, 1) := by decide +kernel
theorem d18_1 : decode prog_11_method_7_code 1 = .ok (.getfield 88, 3) := by decide +kernel
theorem d18_4 : decode prog_11_method_7_code 4 = .ok (.ireturn, 1) := by decide +kernel
theorem pn_d18 : plainName "com/example/brisk_rules/briskrules/GroundRuleTable" = true := by first | (simp [plainName, overriddenIn]; done) | decide +kernel
theorem pd_d18 : parseMethodDescriptor "()I" = some ⟨[], some .int⟩ := by decide +kernel
theorem d19_0 : decode prog_11_method_11_code 0 = .ok (.aload_n 0, 1) := by decide +kernel
theorem d19_1 : decode prog_11_method_11_code 1 = .ok (.getfield 7, 3) := by decide +kernel
theorem d19_4 : decode prog_11_method_11_code 4 = .ok (.aload_n 0, 1) := by decide +kernel
theorem d19_5 : decode prog_11_method_11_code 5 = .ok (.getfield 13, 3) := by decide +kernel
theorem d19_8 : decode prog_11_method_11_code 8 = .ok (.iload_n 1, 1) := by decide +kernel
theorem d19_9 : decode prog_11_method_11_code 9 = .ok (.iaload, 1) := by decide +kernel
theorem d19_10 : decode prog_11_method_11_code 10 = .ok (.iconst 3, 1) := by decide +kernel
theorem d19_11 : decode prog_11_method_11_code 11 = .ok (.iadd, 1) := by decide +kernel
theorem d19_12 : decode prog_11_method_11_code 12 = .ok (.laload, 1) := by decide +kernel
theorem d19_13 : decode prog_11_method_11_code 13 = .ok (.lconst 1, 1) := by decide +kernel
theorem d19_14 : decode prog_11_method_11_code 14 = .ok (.land, 1) := by decide +kernel
theorem d19_15 : decode prog_11_method_11_code 15 = .ok (.lconst 0, 1) := by decide +kernel
theorem d19_16 : decode prog_11_method_11_code 16 = .ok (.lcmp, 1) := by decide +kernel
theorem d19_17 : decode prog_11_method_11_code 17 = .ok (.ifCond .eq 7, 3) := by decide +kernel
theorem d19_20 : decode prog_11_method_11_code 20 = .ok (.iconst 1, 1) := by decide +kernel
theorem d19_21 : decode prog_11_method_11_code 21 = .ok (.goto 4, 3) := by decide +kernel
theorem d19_24 : decode prog_11_method_11_code 24 = .ok (.iconst 0, 1) := by decide +kernel
theorem d19_25 : decode prog_11_method_11_code 25 = .ok (.ireturn, 1) := by decide +kernel
theorem pn_d19 : plainName "com/example/brisk_rules/briskrules/GroundRuleTable" = true := by first | (simp [plainName, overriddenIn]; done) | decide +kernel
theorem pd_d19 : parseMethodDescriptor "(I)Z" = some ⟨[.int], some .boolean⟩ := by decide +kernel
theorem pn_at : plainName "com/example/brisk_rules/briskrules/GroundRuleTableIsSquaredPinLaw" = true := by first | (simp [plainName, overriddenIn]; done) | decide +kernel
theorem ef_rm_weight (m : MethodId) (x0 : Addr) : entryFrame m #[(.ref x0)] 1 = mkF m 0 #[.val (.ref x0)] [] := by first | (simp [entryFrame, mkF, argsToLocals, Value.category]; done) | rfl
set_option maxRecDepth 65536 in
set_option maxHeartbeats 40000000 in
theorem rm_weight (l : Launch) (Z : State) (a0 : Array Value) (hw : ∀ d ∈ tables_1, d.before a0 Z = true) (ws : List Jvm.Cond) (a1 : Nat) (x : UInt64) (h0 : Heap) (n0 : Nat) (Z0 : n0 ≤ h0.size) (F : Fld Z h0 a1 "com/example/brisk_rules/briskrules/GroundRule$Builder" "weight" "D" (.double x)) :
    own_Ctr l Z (⟨"com/example/brisk_rules/briskrules/GroundRule$Builder", "weight", "()D"⟩ : MethodName) prog_10_method_8_code 1 (some .double) ws ({ frames := 0, cells := 0, slots := 0, locals := 0 } : Room) #[(.ref a1)] h0 (fun v h L => v = some (.double x) ∧ Fr n0 L ∧ h = h0) := by
  refine own_enter (plainFor_of_name pn_d6) ?_
  intro p e s m below meth c s₁ Bd hZ hml X0 e0
  have hx := Bd.exec
  have hby := Bd.bytes
  have hown : s.vm.findClass "com/example/brisk_rules/briskrules/GroundRule$Builder" = some m.cls := findClass_of_methodNamed Bd.named
  have hnm := (name_of_methodNamed Bd.named Bd.method).1
  have N0 := Fr.nil n0
  refine own_go (t' := s₁.setTop (mkF m 0 #[.val (.ref a1)] [])) (fun _ k_ => castTop (ef_rm_weight m a1) k_) ?_
  refine own_go (t' := s₁.setTop (mkF m 1 #[.val (.ref a1)] [(.ref a1)])) (fun _ k_ => XS.aloadN X0.here hx rfl (Jvm.hb hby d6_0) rfl rfl k_) ?_
  obtain ⟨T1, X1, e1, st1⟩ := getF X0 hx hZ hown (host := "") (Or.inl (hw _ (List.mem_of_getElem? (i := 41) rfl))) Via.refl e0 F (g := (mkF m 1 #[.val (.ref a1)] [(.ref a1)])) rfl rfl (Jvm.hb hby d6_1)
  refine own_go (t' := T1.setTop (mkF m 4 #[.val (.ref a1)] [(.double x)])) st1 ?_
  exact own_retD X1 hx Bd.returns (BodyLoose.notSynchronized Bd) (Jvm.hb hby d6_4) (by decide) (by decide) ⟨rfl, N0, e1⟩
theorem ef_rm_const (m : MethodId) (x0 : Addr) : entryFrame m #[(.ref x0)] 1 = mkF m 0 #[.val (.ref x0)] [] := by first | (simp [entryFrame, mkF, argsToLocals, Value.category]; done) | rfl
set_option maxRecDepth 65536 in
set_option maxHeartbeats 40000000 in
theorem rm_const (l : Launch) (Z : State) (a0 : Array Value) (hw : ∀ d ∈ tables_1, d.before a0 Z = true) (ws : List Jvm.Cond) (a1 : Nat) (x : UInt64) (h0 : Heap) (n0 : Nat) (Z0 : n0 ≤ h0.size) (F : Fld Z h0 a1 "com/example/brisk_rules/briskrules/GroundRule$Builder" "constant" "D" (.double x)) :
    own_Ctr l Z (⟨"com/example/brisk_rules/briskrules/GroundRule$Builder", "constant", "()D"⟩ : MethodName) prog_10_method_10_code 1 (some .double) ws ({ frames := 0, cells := 0, slots := 0, locals := 0 } : Room) #[(.ref a1)] h0 (fun v h L => v = some (.double x) ∧ Fr n0 L ∧ h = h0) := by
  refine own_enter (plainFor_of_name pn_d11) ?_
  intro p e s m below meth c s₁ Bd hZ hml X0 e0
  have hx := Bd.exec
  have hby := Bd.bytes
  have hown : s.vm.findClass "com/example/brisk_rules/briskrules/GroundRule$Builder" = some m.cls := findClass_of_methodNamed Bd.named
  have hnm := (name_of_methodNamed Bd.named Bd.method).1
  have N0 := Fr.nil n0
  refine own_go (t' := s₁.setTop (mkF m 0 #[.val (.ref a1)] [])) (fun _ k_ => castTop (ef_rm_const m a1) k_) ?_
  refine own_go (t' := s₁.setTop (mkF m 1 #[.val (.ref a1)] [(.ref a1)])) (fun _ k_ => XS.aloadN X0.here hx rfl (Jvm.hb hby d11_0) rfl rfl k_) ?_
  obtain ⟨T1, X1, e1, st1⟩ := getF X0 hx hZ hown (host := "") (Or.inl (hw _ (List.mem_of_getElem? (i := 33) rfl))) Via.refl e0 F (g := (mkF m 1 #[.val (.ref a1)] [(.ref a1)])) rfl rfl (Jvm.hb hby d11_1)
  refine own_go (t' := T1.setTop (mkF m 4 #[.val (.ref a1)] [(.double x)])) st1 ?_
  exact own_retD X1 hx Bd.returns (BodyLoose.notSynchronized Bd) (Jvm.hb hby d11_4) (by decide) (by decide) ⟨rfl, N0, e1⟩
theorem ef_rm_bsize (m : MethodId) (x0 : Addr) : entryFrame m #[(.ref x0)] 1 = mkF m 0 #[.val (.ref x0)] [] := by first | (simp [entryFrame, mkF, argsToLocals, Value.category]; done) | rfl
set_option maxRecDepth 65536 in
set_option maxHeartbeats 40000000 in
theorem rm_bsize (l : Launch) (Z : State) (a0 : Array Value) (hw : ∀ d ∈ tables_1, d.before a0 Z = true) (ws : List Jvm.Cond) (a1 : Nat) (x : Int32) (h0 : Heap) (n0 : Nat) (Z0 : n0 ≤ h0.size) (F : Fld Z h0 a1 "com/example/brisk_rules/briskrules/GroundRule$Builder" "size" "I" (.int x)) :
    own_Ctr l Z (⟨"com/example/brisk_rules/briskrules/GroundRule$Builder", "size", "()I"⟩ : MethodName) prog_10_method_11_code 1 (some .int) ws ({ frames := 0, cells := 0, slots := 0, locals := 0 } : Room) #[(.ref a1)] h0 (fun v h L => v = some (.int x) ∧ Fr n0 L ∧ h = h0) := by
  refine own_enter (plainFor_of_name pn_d8) ?_
  intro p e s m below meth c s₁ Bd hZ hml X0 e0
  have hx := Bd.exec
  have hby := Bd.bytes
  have hown : s.vm.findClass "com/example/brisk_rules/briskrules/GroundRule$Builder" = some m.cls := findClass_of_methodNamed Bd.named
  have hnm := (name_of_methodNamed Bd.named Bd.method).1
  have N0 := Fr.nil n0
  refine own_go (t' := s₁.setTop (mkF m 0 #[.val (.ref a1)] [])) (fun _ k_ => castTop (ef_rm_bsize m a1) k_) ?_
  refine own_go (t' := s₁.setTop (mkF m 1 #[.val (.ref a1)] [(.ref a1)])) (fun _ k_ => XS.aloadN X0.here hx rfl (Jvm.hb hby d8_0) rfl rfl k_) ?_
  obtain ⟨T1, X1, e1, st1⟩ := getF X0 hx hZ hown (host := "") (Or.inl (hw _ (List.mem_of_getElem? (i := 50) rfl))) Via.refl e0 F (g := (mkF m 1 #[.val (.ref a1)] [(.ref a1)])) rfl rfl (Jvm.hb hby d8_1)
  refine own_go (t' := T1.setTop (mkF m 4 #[.val (.ref a1)] [(.int x)])) st1 ?_
  exact own_retI X1 hx Bd.returns (BodyLoose.notSynchronized Bd) (Jvm.hb hby d8_4) (by decide) (by decide) ⟨rfl, N0, e1⟩
theorem ef_rm_bisq (m : MethodId) (x0 : Addr) : entryFrame m #[(.ref x0)] 1 = mkF m 0 #[.val (.ref x0)] [] := by first | (simp [entryFrame, mkF, argsToLocals, Value.category]; done) | rfl
set_option maxRecDepth 65536 in
set_option maxHeartbeats 40000000 in
theorem rm_bisq (l : Launch) (Z : State) (a0 : Array Value) (hw : ∀ d ∈ tables_1, d.before a0 Z = true) (ws : List Jvm.Cond) (a1 : Nat) (x : Int32) (h0 : Heap) (n0 : Nat) (Z0 : n0 ≤ h0.size) (F : Fld Z h0 a1 "com/example/brisk_rules/briskrules/GroundRule$Builder" "squared" "Z" (.int x)) (hx0 : x = 0 ∨ x = 1) :
    own_Ctr l Z (⟨"com/example/brisk_rules/briskrules/GroundRule$Builder", "isSquared", "()Z"⟩ : MethodName) prog_10_method_9_code 1 (some .boolean) ws ({ frames := 0, cells := 0, slots := 0, locals := 0 } : Room) #[(.ref a1)] h0 (fun v h L => v = some (.int x) ∧ Fr n0 L ∧ h = h0) := by
  refine own_enter (plainFor_of_name pn_d14) ?_
  intro p e s m below meth c s₁ Bd hZ hml X0 e0
  have hx := Bd.exec
  have hby := Bd.bytes
  have hown : s.vm.findClass "com/example/brisk_rules/briskrules/GroundRule$Builder" = some m.cls := findClass_of_methodNamed Bd.named
  have hnm := (name_of_methodNamed Bd.named Bd.method).1
  have N0 := Fr.nil n0
  refine own_go (t' := s₁.setTop (mkF m 0 #[.val (.ref a1)] [])) (fun _ k_ => castTop (ef_rm_bisq m a1) k_) ?_
  refine own_go (t' := s₁.setTop (mkF m 1 #[.val (.ref a1)] [(.ref a1)])) (fun _ k_ => XS.aloadN X0.here hx rfl (Jvm.hb hby d14_0) rfl rfl k_) ?_
  obtain ⟨T1, X1, e1, st1⟩ := getF X0 hx hZ hown (host := "") (Or.inl (hw _ (List.mem_of_getElem? (i := 43) rfl))) Via.refl e0 F (g := (mkF m 1 #[.val (.ref a1)] [(.ref a1)])) rfl rfl (Jvm.hb hby d14_1)
  refine own_go (t' := T1.setTop (mkF m 4 #[.val (.ref a1)] [(.int x)])) st1 ?_
  exact own_retZ X1 hx Bd.returns (BodyLoose.notSynchronized Bd) (by rcases hx0 with rfl | rfl <;> rfl) (Jvm.hb hby d14_4) (by decide) (by decide) ⟨rfl, N0, e1⟩
theorem ef_rm_tsize (m : MethodId) (x0 : Addr) : entryFrame m #[(.ref x0)] 1 = mkF m 0 #[.val (.ref x0)] [] := by first | (simp [entryFrame, mkF, argsToLocals, Value.category]; done) | rfl
set_option maxRecDepth 65536 in
set_option maxHeartbeats 40000000 in
theorem rm_tsize (l : Launch) (Z : State) (a0 : Array Value) (hw : ∀ d ∈ tables_1, d.before a0 Z = true) (ws : List Jvm.Cond) (a1 : Nat) (x : Int32) (h0 : Heap) (n0 : Nat) (Z0 : n0 ≤ h0.size) (F : Fld Z h0 a1 "com/example/brisk_rules/briskrules/GroundRuleTable" "size" "I" (.int x)) :
    own_Ctr l Z (⟨"com/example/brisk_rules/briskrules/GroundRuleTable", "size", "()I"⟩ : MethodName) prog_11_method_7_code 1 (some .int) ws ({ frames := 0, cells := 0, slots := 0, locals := 0 } : Room) #[(.ref a1)] h0 (fun v h L => v = some (.int x) ∧ Fr n0 L ∧ h = h0) := by
  refine own_enter (plainFor_of_name pn_d18) ?_
  intro p e s m below meth c s₁ Bd hZ hml X0 e0
  have hx := Bd.exec
  have hby := Bd.bytes
  have hown : s.vm.findClass "com/example/brisk_rules/briskrules/GroundRuleTable" = some m.cls := findClass_of_methodNamed Bd.named
  have hnm := (name_of_methodNamed Bd.named Bd.method).1
  have N0 := Fr.nil n0
  refine own_go (t' := s₁.setTop (mkF m 0 #[.val (.ref a1)] [])) (fun _ k_ => castTop (ef_rm_tsize m a1) k_) ?_
  refine own_go (t' := s₁.setTop (mkF m 1 #[.val (.ref a1)] [(.ref a1)])) (fun _ k_ => XS.aloadN X0.here hx rfl (Jvm.hb hby d18_0) rfl rfl k_) ?_
  obtain ⟨T1, X1, e1, st1⟩ := getF X0 hx hZ hown (host := "") (Or.inl (hw _ (List.mem_of_getElem? (i := 120) rfl))) Via.refl e0 F (g := (mkF m 1 #[.val (.ref a1)] [(.ref a1)])) rfl rfl (Jvm.hb hby d18_1)
  refine own_go (t' := T1.setTop (mkF m 4 #[.val (.ref a1)] [(.int x)])) st1 ?_
  exact own_retI X1 hx Bd.returns (BodyLoose.notSynchronized Bd) (Jvm.hb hby d18_4) (by decide) (by decide) ⟨rfl, N0, e1⟩
theorem ef_rm_atom (m : MethodId) (x0 : Addr) (x1 : Int32) : entryFrame m #[(.ref x0), (.int x1)] 2 = mkF m 0 #[.val (.ref x0), .val (.int x1)] [] := by first | (simp [entryFrame, mkF, argsToLocals, Value.category]; done) | rfl
set_option maxRecDepth 65536 in
set_option maxHeartbeats 40000000 in
theorem rm_atom (l : Launch) (Z : State) (a0 : Array Value) (hw : ∀ d ∈ tables_1, d.before a0 Z = true) (ws : List Jvm.Cond) (a1 aa i : Nat) (f : Nat → Value) (x : Int32) (h0 : Heap) (n0 : Nat) (Z0 : n0 ≤ h0.size) (F : Fld Z h0 a1 "com/example/brisk_rules/briskrules/GroundRule$Builder" "atoms" "[I" (.ref aa)) (A : own_Ar Z h0 aa .int 4 f) (hi : i < 4) (hv : f i = .int x) :
    own_Ctr l Z (⟨"com/example/brisk_rules/briskrules/GroundRule$Builder", "atom", "(I)I"⟩ : MethodName) prog_10_method_12_code 2 (some .int) ws ({ frames := 0, cells := 0, slots := 0, locals := 0 } : Room) #[(.ref a1), (.int (Int32.ofNat i))] h0 (fun v h L => v = some (.int x) ∧ Fr n0 L ∧ h = h0) := by
  refine own_enter (plainFor_of_name pn_d9) ?_
  intro p e s m below meth c s₁ Bd hZ hml X0 e0
  have hx := Bd.exec
  have hby := Bd.bytes
  have hown : s.vm.findClass "com/example/brisk_rules/briskrules/GroundRule$Builder" = some m.cls := findClass_of_methodNamed Bd.named
  have hnm := (name_of_methodNamed Bd.named Bd.method).1
  have N0 := Fr.nil n0
  refine own_go (t' := s₁.setTop (mkF m 0 #[.val (.ref a1), .val (.int (Int32.ofNat i))] [])) (fun _ k_ => castTop (ef_rm_atom m a1 (Int32.ofNat i)) k_) ?_
  refine own_go (t' := s₁.setTop (mkF m 1 #[.val (.ref a1), .val (.int (Int32.ofNat i))] [(.ref a1)])) (fun _ k_ => XS.aloadN X0.here hx rfl (Jvm.hb hby d9_0) rfl rfl k_) ?_
  obtain ⟨T1, X1, e1, st1⟩ := getF X0 hx hZ hown (host := "") (Or.inl (hw _ (List.mem_of_getElem? (i := 35) rfl))) Via.refl e0 F (g := (mkF m 1 #[.val (.ref a1), .val (.int (Int32.ofNat i))] [(.ref a1)])) rfl rfl (Jvm.hb hby d9_1)
  refine own_go (t' := T1.setTop (mkF m 4 #[.val (.ref a1), .val (.int (Int32.ofNat i))] [(.ref aa)])) st1 ?_
  refine own_go (t' := T1.setTop (mkF m 5 #[.val (.ref a1), .val (.int (Int32.ofNat i))] [(.int (Int32.ofNat i)), (.ref aa)])) (fun _ k_ => XS.iloadN X1.here hx rfl (Jvm.hb hby d9_4) rfl k_) ?_
  refine own_go (t' := T1.setTop (mkF m 6 #[.val (.ref a1), .val (.int (Int32.ofNat i))] [(.int x)])) (own_ldI X1 hx hZ e1 A (by decide) hi hv (g := (mkF m 5 #[.val (.ref a1), .val (.int (Int32.ofNat i))] [(.int (Int32.ofNat i)), (.ref aa)])) rfl rfl (Jvm.hb hby d9_5)) ?_
  exact own_retI X1 hx Bd.returns (BodyLoose.notSynchronized Bd) (Jvm.hb hby d9_6) (by decide) (by decide) ⟨rfl, N0, e1⟩
theorem ef_rm_coef (m : MethodId) (x0 : Addr) (x1 : Int32) : entryFrame m #[(.ref x0), (.int x1)] 2 = mkF m 0 #[.val (.ref x0), .val (.int x1)] [] := by first | (simp [entryFrame, mkF, argsToLocals, Value.category]; done) | rfl
set_option maxRecDepth 65536 in
set_option maxHeartbeats 40000000 in
theorem rm_coef (l : Launch) (Z : State) (a0 : Array Value) (hw : ∀ d ∈ tables_1, d.before a0 Z = true) (ws : List Jvm.Cond) (a1 aa i : Nat) (f : Nat → Value) (x : UInt64) (h0 : Heap) (n0 : Nat) (Z0 : n0 ≤ h0.size) (F : Fld Z h0 a1 "com/example/brisk_rules/briskrules/GroundRule$Builder" "coefficients" "[D" (.ref aa)) (A : own_Ar Z h0 aa .double 4 f) (hi : i < 4) (hv : f i = .double x) :
    own_Ctr l Z (⟨"com/example/brisk_rules/briskrules/GroundRule$Builder", "coefficient", "(I)D"⟩ : MethodName) prog_10_method_13_code 2 (some .double) ws ({ frames := 0, cells := 0, slots := 0, locals := 0 } : Room) #[(.ref a1), (.int (Int32.ofNat i))] h0 (fun v h L => v = some (.double x) ∧ Fr n0 L ∧ h = h0) := by
  refine own_enter (plainFor_of_name pn_d10) ?_
  intro p e s m below meth c s₁ Bd hZ hml X0 e0
  have hx := Bd.exec
  have hby := Bd.bytes
  have hown : s.vm.findClass "com/example/brisk_rules/briskrules/GroundRule$Builder" = some m.cls := findClass_of_methodNamed Bd.named
  have hnm := (name_of_methodNamed Bd.named Bd.method).1
  have N0 := Fr.nil n0
  refine own_go (t' := s₁.setTop (mkF m 0 #[.val (.ref a1), .val (.int (Int32.ofNat i))] [])) (fun _ k_ => castTop (ef_rm_coef m a1 (Int32.ofNat i)) k_) ?_
  refine own_go (t' := s₁.setTop (mkF m 1 #[.val (.ref a1), .val (.int (Int32.ofNat i))] [(.ref a1)])) (fun _ k_ => XS.aloadN X0.here hx rfl (Jvm.hb hby d10_0) rfl rfl k_) ?_
  obtain ⟨T1, X1, e1, st1⟩ := getF X0 hx hZ hown (host := "") (Or.inl (hw _ (List.mem_of_getElem? (i := 38) rfl))) Via.refl e0 F (g := (mkF m 1 #[.val (.ref a1), .val (.int (Int32.ofNat i))] [(.ref a1)])) rfl rfl (Jvm.hb hby d10_1)
  refine own_go (t' := T1.setTop (mkF m 4 #[.val (.ref a1), .val (.int (Int32.ofNat i))] [(.ref aa)])) st1 ?_
  refine own_go (t' := T1.setTop (mkF m 5 #[.val (.ref a1), .val (.int (Int32.ofNat i))] [(.int (Int32.ofNat i)), (.ref aa)])) (fun _ k_ => XS.iloadN X1.here hx rfl (Jvm.hb hby d10_4) rfl k_) ?_
  refine own_go (t' := T1.setTop (mkF m 6 #[.val (.ref a1), .val (.int (Int32.ofNat i))] [(.double x)])) (own_ldD X1 hx hZ e1 A (by decide) hi hv (g := (mkF m 5 #[.val (.ref a1), .val (.int (Int32.ofNat i))] [(.int (Int32.ofNat i)), (.ref aa)])) rfl rfl (Jvm.hb hby d10_5)) ?_
  exact own_retD X1 hx Bd.returns (BodyLoose.notSynchronized Bd) (Jvm.hb hby d10_6) (by decide) (by decide) ⟨rfl, N0, e1⟩
theorem ef_rm_max (m : MethodId) (x0 : Int32) (x1 : Int32) : entryFrame m #[(.int x0), (.int x1)] 2 = mkF m 0 #[.val (.int x0), .val (.int x1)] [] := by first | (simp [entryFrame, mkF, argsToLocals, Value.category]; done) | rfl
set_option maxRecDepth 65536 in
set_option maxHeartbeats 40000000 in
theorem rm_max (l : Launch) (Z : State) (a0 : Array Value) (hw : ∀ d ∈ tables_1, d.before a0 Z = true) (ws : List Jvm.Cond) (a b : Int32) (h0 : Heap) (n0 : Nat) (Z0 : n0 ≤ h0.size) (hba : ¬ a < b) :
    own_Ctr l Z (⟨"java/lang/Math", "max", "(II)I"⟩ : MethodName) jdk_29_method_65_code 2 (some .int) ws ({ frames := 0, cells := 0, slots := 0, locals := 0 } : Room) #[(.int a), (.int b)] h0 (fun v h L => v = some (.int a) ∧ Fr n0 L ∧ h = h0) := by
  refine own_enter (Jvm.Free.JP.mathPlain rfl (by decide +kernel)) ?_
  intro p e s m below meth c s₁ Bd hZ hml X0 e0
  have hx := Bd.exec
  have hby := Bd.bytes
  have hown : s.vm.findClass "java/lang/Math" = some m.cls := findClass_of_methodNamed Bd.named
  have hnm := (name_of_methodNamed Bd.named Bd.method).1
  have N0 := Fr.nil n0
  refine own_go (t' := s₁.setTop (mkF m 0 #[.val (.int a), .val (.int b)] [])) (fun _ k_ => castTop (ef_rm_max m a b) k_) ?_
  refine own_go (t' := s₁.setTop (mkF m 1 #[.val (.int a), .val (.int b)] [(.int a)])) (fun _ k_ => XS.iloadN X0.here hx rfl (Jvm.hb hby d13_0) rfl k_) ?_
  refine own_go (t' := s₁.setTop (mkF m 2 #[.val (.int a), .val (.int b)] [(.int b), (.int a)])) (fun _ k_ => XS.iloadN X0.here hx rfl (Jvm.hb hby d13_1) rfl k_) ?_
  refine own_go (t' := s₁.setTop (mkF m 5 #[.val (.int a), .val (.int b)] [])) (fun _ k_ => XS.icmpNo X0.here hx rfl (Jvm.hb hby d13_2) rfl (flt hba).1 k_) ?_
  refine own_go (t' := s₁.setTop (mkF m 6 #[.val (.int a), .val (.int b)] [(.int a)])) (fun _ k_ => XS.iloadN X0.here hx rfl (Jvm.hb hby d13_5) rfl k_) ?_
  refine own_go (t' := s₁.setTop (mkF m 10 #[.val (.int a), .val (.int b)] [(.int a)])) (fun _ k_ => XS.goto X0.here hx rfl (pc0 := 6) (pc' := 10) rfl (Jvm.hb hby d13_6) (by decide) (by decide) k_) ?_
  exact own_retI X0 hx Bd.returns (BodyLoose.notSynchronized Bd) (Jvm.hb hby d13_10) (by decide) (by decide) ⟨rfl, N0, e0⟩
theorem ef_rm_lit (m : MethodId) (x0 : Addr) (x1 : Int32) : entryFrame m #[(.ref x0), (.int x1)] 2 = mkF m 0 #[.val (.ref x0), .val (.int x1)] [] := by first | (simp [entryFrame, mkF, argsToLocals, Value.category]; done) | rfl
set_option maxRecDepth 65536 in
set_option maxHeartbeats 40000000 in
theorem rm_lit (l : Launch) (Z : State) (a0 : Array Value) (hw : ∀ d ∈ tables_1, d.before a0 Z = true) (ws : List Jvm.Cond) (a1 n : Nat) (f : Nat → Value) (x : Int64) (h0 : Heap) (n0 : Nat) (Z0 : n0 ≤ h0.size) (A : own_Ar Z h0 a1 .long n f) (hn : n < 2 ^ 31) (hi : 3 < n) (hv : f 3 = .long x) :
    own_Ctr l Z (⟨"com/example/brisk_rules/briskrules/GroundRuleTable", "literalCount", "([JI)I"⟩ : MethodName) prog_11_method_26_code 2 (some .int) ws ({ frames := 0, cells := 0, slots := 0, locals := 0 } : Room) #[(.ref a1), (.int (0 : Int32))] h0 (fun v h L => v = some (.int (own_cnt x)) ∧ Fr n0 L ∧ h = h0) := by
  refine own_enter (plainFor_of_name pn_d16) ?_
  intro p e s m below meth c s₁ Bd hZ hml X0 e0
  have hx := Bd.exec
  have hby := Bd.bytes
  have hown : s.vm.findClass "com/example/brisk_rules/briskrules/GroundRuleTable" = some m.cls := findClass_of_methodNamed Bd.named
  have hnm := (name_of_methodNamed Bd.named Bd.method).1
  have N0 := Fr.nil n0
  refine own_go (t' := s₁.setTop (mkF m 0 #[.val (.ref a1), .val (.int (0 : Int32))] [])) (fun _ k_ => castTop (ef_rm_lit m a1 (0 : Int32)) k_) ?_
  refine own_go (t' := s₁.setTop (mkF m 1 #[.val (.ref a1), .val (.int (0 : Int32))] [(.ref a1)])) (fun _ k_ => XS.aloadN X0.here hx rfl (Jvm.hb hby d16_0) rfl rfl k_) ?_
  refine own_go (t' := s₁.setTop (mkF m 2 #[.val (.ref a1), .val (.int (0 : Int32))] [(.int (0 : Int32)), (.ref a1)])) (fun _ k_ => XS.iloadN X0.here hx rfl (Jvm.hb hby d16_1) rfl k_) ?_
  refine own_go (t' := s₁.setTop (mkF m 3 #[.val (.ref a1), .val (.int (0 : Int32))] [(.int (3 : Int32)), (.int (0 : Int32)), (.ref a1)])) (fun _ k_ => XS.iconst X0.here hx rfl (Jvm.hb hby d16_2) k_) ?_
  refine own_go (t' := s₁.setTop (mkF m 4 #[.val (.ref a1), .val (.int (0 : Int32))] [(.int ((0 : Int32) + (3 : Int32))), (.ref a1)])) (fun _ k_ => XS.iadd X0.here hx rfl (Jvm.hb hby d16_3) rfl k_) ?_
  rw [show ((0 : Int32) + (3 : Int32)) = Int32.ofNat 3 from by decide]
  refine own_go (t' := s₁.setTop (mkF m 5 #[.val (.ref a1), .val (.int (0 : Int32))] [(.long x)])) (own_ldJ X0 hx hZ e0 A hn hi hv (g := (mkF m 4 #[.val (.ref a1), .val (.int (0 : Int32))] [(.int (Int32.ofNat 3)), (.ref a1)])) rfl rfl (Jvm.hb hby d16_4)) ?_
  refine own_go (t' := s₁.setTop (mkF m 6 #[.val (.ref a1), .val (.int (0 : Int32))] [(.int (1 : Int32)), (.long x)])) (fun _ k_ => XS.iconst X0.here hx rfl (Jvm.hb hby d16_5) k_) ?_
  refine own_go (t' := s₁.setTop (mkF m 7 #[.val (.ref a1), .val (.int (0 : Int32))] [(.long ((x.toUInt64 >>> ((1 : Int32) &&& 0x3f).toInt64.toUInt64).toInt64))])) (fun _ k_ => XS.lushr X0.here hx rfl (Jvm.hb hby d16_6) rfl k_) ?_
  refine own_go (t' := s₁.setTop (mkF m 8 #[.val (.ref a1), .val (.int (0 : Int32))] [(.int ((x.toUInt64 >>> ((1 : Int32) &&& 0x3f).toInt64.toUInt64).toInt64).toInt32)])) (fun _ k_ => XS.l2i X0.here hx rfl (Jvm.hb hby d16_7) rfl k_) ?_
  exact own_retI X0 hx Bd.returns (BodyLoose.notSynchronized Bd) (Jvm.hb hby d16_8) (by decide) (by decide) ⟨rfl, N0, e0⟩
theorem ef_rm_hash (m : MethodId) (x0 : Addr) : entryFrame m #[(.ref x0)] 4 = mkF m 0 #[.val (.ref x0), .unset, .unset, .unset] [] := by first | (simp [entryFrame, mkF, argsToLocals, Value.category]; done) | rfl
set_option maxRecDepth 65536 in
set_option maxHeartbeats 40000000 in
theorem rm_hash (l : Launch) (Z : State) (a0 : Array Value) (hw : ∀ d ∈ tables_1, d.before a0 Z = true) (ws : List Jvm.Cond) (t aF k : Nat) (fF : Nat → Value) (F0 : Nat → Int64) (h0 : Heap) (n0 : Nat) (Z0 : n0 ≤ h0.size) (F : Fld Z h0 t "com/example/brisk_rules/briskrules/GroundRuleTable" "form" "[J" (.ref aF)) (A : own_Ar Z h0 aF .long 8 fF) (hF : ∀ j, j < 4 + k → fF j = .long (F0 j)) (hk : k ≤ 3) (hc : own_cnt (F0 3) = Int32.ofNat k) :
    own_Ctr l Z (⟨"com/example/brisk_rules/briskrules/GroundRuleTable", "hash", "()I"⟩ : MethodName) prog_11_method_24_code 4 (some .int) ws ({ frames := 1, cells := 0, slots := 0, locals := 15 } : Room) #[(.ref t)] h0 (fun v h L => v = some (.int (own_mix (own_acc F0 k))) ∧ Fr n0 L ∧ h = h0) := by
  refine own_enter (plainFor_of_name pn_d15) ?_
  intro p e s m below meth c s₁ Bd hZ hml X0 e0
  have hx := Bd.exec
  have hby := Bd.bytes
  have hown : s.vm.findClass "com/example/brisk_rules/briskrules/GroundRuleTable" = some m.cls := findClass_of_methodNamed Bd.named
  have hnm := (name_of_methodNamed Bd.named Bd.method).1
  have N0 := Fr.nil n0
  refine own_go (t' := s₁.setTop (mkF m 0 #[.val (.ref t), .unset, .unset, .unset] [])) (fun _ k_ => castTop (ef_rm_hash m t) k_) ?_
  refine own_go (t' := s₁.setTop (mkF m 3 #[.val (.ref t), .unset, .unset, .unset] [(.long (31 : Int64))])) (fun _ k_ => X0.ldc2J (own := "com/example/brisk_rules/briskrules/GroundRuleTable") (index := 173) (v := (31 : Int64)) hx hown (mvT hZ (hw _ (List.mem_of_getElem? (i := 114) rfl))) rfl (Jvm.hb hby d15_0) k_) ?_
  refine own_go (t' := s₁.setTop (mkF m 4 #[.val (.ref t), .unset, .unset, .unset] [(.ref t), (.long (31 : Int64))])) (fun _ k_ => XS.aloadN X0.here hx rfl (Jvm.hb hby d15_3) rfl rfl k_) ?_
  obtain ⟨T1, X1, e1, st1⟩ := getF X0 hx hZ hown (host := "") (Or.inl (hw _ (List.mem_of_getElem? (i := 18) rfl))) Via.refl e0 F (g := (mkF m 4 #[.val (.ref t), .unset, .unset, .unset] [(.ref t), (.long (31 : Int64))])) rfl rfl (Jvm.hb hby d15_4)
  refine own_go (t' := T1.setTop (mkF m 7 #[.val (.ref t), .unset, .unset, .unset] [(.ref aF), (.long (31 : Int64))])) st1 ?_
  refine own_go (t' := T1.setTop (mkF m 8 #[.val (.ref t), .unset, .unset, .unset] [(.int (0 : Int32)), (.ref aF), (.long (31 : Int64))])) (fun _ k_ => XS.iconst X1.here hx rfl (Jvm.hb hby d15_7) k_) ?_
  refine own_go (t' := T1.setTop (mkF m 9 #[.val (.ref t), .unset, .unset, .unset] [(.long (F0 0)), (.long (31 : Int64))])) (own_ldJ X1 hx hZ e1 A (by decide) (show 0 < 8 by decide) (hF 0 (by omega)) (g := (mkF m 8 #[.val (.ref t), .unset, .unset, .unset] [(.int (0 : Int32)), (.ref aF), (.long (31 : Int64))])) rfl rfl (Jvm.hb hby d15_8)) ?_
  refine own_go (t' := T1.setTop (mkF m 10 #[.val (.ref t), .unset, .unset, .unset] [(.long ((31 : Int64) * (F0 0)))])) (fun _ k_ => XS.lmul X1.here hx rfl (Jvm.hb hby d15_9) rfl k_) ?_
  refine own_go (t' := T1.setTop (mkF m 11 #[.val (.ref t), .unset, .unset, .unset] [(.ref t), (.long ((31 : Int64) * (F0 0)))])) (fun _ k_ => XS.aloadN X1.here hx rfl (Jvm.hb hby d15_10) rfl rfl k_) ?_
  obtain ⟨T2, X2, e2, st2⟩ := getF X1 hx hZ hown (host := "") (Or.inl (hw _ (List.mem_of_getElem? (i := 18) rfl))) Via.refl e1 F (g := (mkF m 11 #[.val (.ref t), .unset, .unset, .unset] [(.ref t), (.long ((31 : Int64) * (F0 0)))])) rfl rfl (Jvm.hb hby d15_11)
  refine own_go (t' := T2.setTop (mkF m 14 #[.val (.ref t), .unset, .unset, .unset] [(.ref aF), (.long ((31 : Int64) * (F0 0)))])) st2 ?_
  refine own_go (t' := T2.setTop (mkF m 15 #[.val (.ref t), .unset, .unset, .unset] [(.int (3 : Int32)), (.ref aF), (.long ((31 : Int64) * (F0 0)))])) (fun _ k_ => XS.iconst X2.here hx rfl (Jvm.hb hby d15_14) k_) ?_
  refine own_go (t' := T2.setTop (mkF m 16 #[.val (.ref t), .unset, .unset, .unset] [(.long (F0 3)), (.long ((31 : Int64) * (F0 0)))])) (own_ldJ X2 hx hZ e2 A (by decide) (show 3 < 8 by decide) (hF 3 (by omega)) (g := (mkF m 15 #[.val (.ref t), .unset, .unset, .unset] [(.int (3 : Int32)), (.ref aF), (.long ((31 : Int64) * (F0 0)))])) rfl rfl (Jvm.hb hby d15_15)) ?_
  refine own_go (t' := T2.setTop (mkF m 17 #[.val (.ref t), .unset, .unset, .unset] [(.long (((31 : Int64) * (F0 0)) + (F0 3)))])) (fun _ k_ => XS.ladd X2.here hx rfl (Jvm.hb hby d15_16) rfl k_) ?_
  refine own_go (t' := T2.setTop (mkF m 18 #[.val (.ref t), .val (.long (((31 : Int64) * (F0 0)) + (F0 3))), .second, .unset] [])) (fun _ k_ => XS.lstoreN X2.here hx rfl (Jvm.hb hby d15_17) rfl (l' := #[.val (.ref t), .val (.long (((31 : Int64) * (F0 0)) + (F0 3))), .second, .unset]) rfl k_) ?_
  refine own_go (t' := T2.setTop (mkF m 19 #[.val (.ref t), .val (.long (((31 : Int64) * (F0 0)) + (F0 3))), .second, .unset] [(.int (4 : Int32))])) (fun _ k_ => XS.iconst X2.here hx rfl (Jvm.hb hby d15_18) k_) ?_
  refine own_go (t' := T2.setTop (mkF m 20 #[.val (.ref t), .val (.long (((31 : Int64) * (F0 0)) + (F0 3))), .second, .val (.int (4 : Int32))] [])) (fun _ k_ => XS.istoreN X2.here hx rfl (Jvm.hb hby d15_19) rfl (l' := #[.val (.ref t), .val (.long (((31 : Int64) * (F0 0)) + (F0 3))), .second, .val (.int (4 : Int32))]) rfl k_) ?_
  have loop : ∀ d i : Nat, i + d = k → ∀ (Tj : State) (lj : List Loc), Stand p l e ({ frames := 1, cells := 0, slots := 0, locals := 15 } : Room) s m #[(.ref t)] below meth c Tj lj 0 0 → Tj.heap = h0 → Fr n0 lj → own_Ends p.tables e below (own_F s (fun v h L => v = some (.int (own_mix (own_acc F0 k))) ∧ Fr n0 L ∧ h = h0) ({ frames := 1, cells := 0, slots := 0, locals := 15 } : Room).cells ({ frames := 1, cells := 0, slots := 0, locals := 15 } : Room).slots) (Tj.setTop (mkF m 20 #[.val (.ref t), .val (.long (own_acc F0 i)), .second, .val (.int (Int32.ofNat (4 + i)))] [])) := by
    intro d
    induction d with
    | zero =>
      intro i hid Tj lj Xj ej Nj
      refine own_go (t' := Tj.setTop (mkF m 21 #[.val (.ref t), .val (.long (own_acc F0 i)), .second, .val (.int (Int32.ofNat (4 + i)))] [(.int (Int32.ofNat (4 + i)))])) (fun _ k_ => XS.iloadN Xj.here hx rfl (Jvm.hb hby d15_20) rfl k_) ?_
      refine own_go (t' := Tj.setTop (mkF m 22 #[.val (.ref t), .val (.long (own_acc F0 i)), .second, .val (.int (Int32.ofNat (4 + i)))] [(.int (4 : Int32)), (.int (Int32.ofNat (4 + i)))])) (fun _ k_ => XS.iconst Xj.here hx rfl (Jvm.hb hby d15_21) k_) ?_
      refine own_go (t' := Tj.setTop (mkF m 23 #[.val (.ref t), .val (.long (own_acc F0 i)), .second, .val (.int (Int32.ofNat (4 + i)))] [(.ref t), (.int (4 : Int32)), (.int (Int32.ofNat (4 + i)))])) (fun _ k_ => XS.aloadN Xj.here hx rfl (Jvm.hb hby d15_22) rfl rfl k_) ?_
      obtain ⟨T3, X3, e3, st3⟩ := getF Xj hx hZ hown (host := "") (Or.inl (hw _ (List.mem_of_getElem? (i := 18) rfl))) Via.refl ej F (g := (mkF m 23 #[.val (.ref t), .val (.long (own_acc F0 i)), .second, .val (.int (Int32.ofNat (4 + i)))] [(.ref t), (.int (4 : Int32)), (.int (Int32.ofNat (4 + i)))])) rfl rfl (Jvm.hb hby d15_23)
      refine own_go (t' := T3.setTop (mkF m 26 #[.val (.ref t), .val (.long (own_acc F0 i)), .second, .val (.int (Int32.ofNat (4 + i)))] [(.ref aF), (.int (4 : Int32)), (.int (Int32.ofNat (4 + i)))])) st3 ?_
      refine own_go (t' := T3.setTop (mkF m 27 #[.val (.ref t), .val (.long (own_acc F0 i)), .second, .val (.int (Int32.ofNat (4 + i)))] [(.int (0 : Int32)), (.ref aF), (.int (4 : Int32)), (.int (Int32.ofNat (4 + i)))])) (fun _ k_ => XS.iconst X3.here hx rfl (Jvm.hb hby d15_26) k_) ?_
      obtain ⟨T4, L4, v4, X4, hQ4, st4⟩ := own_static X3 hx hZ hown (hw _ (List.mem_of_getElem? (i := 115) rfl)) (hw _ (List.mem_of_getElem? (i := 116) rfl)) (hw _ (List.mem_of_getElem? (i := 2) rfl)) (hw _ (List.mem_of_getElem? (i := 117) rfl)) (by decide) (rm_lit l Z a0 hw [] aF 8 fF (F0 3) h0 n0 Z0 A (by decide) (by decide) (hF 3 (by omega))) e3 (g := (mkF m 27 #[.val (.ref t), .val (.long (own_acc F0 i)), .second, .val (.int (Int32.ofNat (4 + i)))] [(.int (0 : Int32)), (.ref aF), (.int (4 : Int32)), (.int (Int32.ofNat (4 + i)))])) rfl (by rw [hml]; rfl) (argsL := [(.ref aF), (.int (0 : Int32))]) (rest := [(.int (4 : Int32)), (.int (Int32.ofNat (4 + i)))]) (lenOf pd_d16 rfl) rfl (W := 2) (by show 2 * 0 + _ ≤ _; exact Nat.le_of_eq rfl) (Jvm.hb hby d15_27) (by decide) (by decide) (by decide) (by decide)
      obtain ⟨rfl, Nq4, e4⟩ := hQ4
      have N4 := Fr.app Nj Nq4
      refine own_go (t' := T4.setTop (mkF m 30 #[.val (.ref t), .val (.long (own_acc F0 i)), .second, .val (.int (Int32.ofNat (4 + i)))] [(.int (own_cnt (F0 3))), (.int (4 : Int32)), (.int (Int32.ofNat (4 + i)))])) st4 ?_
      rw [hc]
      refine own_go (t' := T4.setTop (mkF m 31 #[.val (.ref t), .val (.long (own_acc F0 i)), .second, .val (.int (Int32.ofNat (4 + i)))] [(.int ((4 : Int32) + (Int32.ofNat k))), (.int (Int32.ofNat (4 + i)))])) (fun _ k_ => XS.iadd X4.here hx rfl (Jvm.hb hby d15_30) rfl k_) ?_
      rw [own_add4 k]
      have hie : i = k := by omega
      subst hie
      refine own_go (t' := T4.setTop (mkF m 53 #[.val (.ref t), .val (.long (own_acc F0 i)), .second, .val (.int (Int32.ofNat (4 + i)))] [])) (fun _ k_ => XS.icmpYes X4.here hx rfl (pc0 := 31) (pc' := 53) rfl (Jvm.hb hby d15_31) rfl (flt Int32.lt_irrefl).2.1 (by decide) (by decide) k_) ?_
      refine own_go (t' := T4.setTop (mkF m 54 #[.val (.ref t), .val (.long (own_acc F0 i)), .second, .val (.int (Int32.ofNat (4 + i)))] [(.long (own_acc F0 i))])) (fun _ k_ => XS.lloadN X4.here hx rfl (Jvm.hb hby d15_53) rfl k_) ?_
      refine own_go (t' := T4.setTop (mkF m 55 #[.val (.ref t), .val (.long (own_acc F0 i)), .second, .val (.int (Int32.ofNat (4 + i)))] [(.long (own_acc F0 i)), (.long (own_acc F0 i))])) (fun _ k_ => XS.lloadN X4.here hx rfl (Jvm.hb hby d15_54) rfl k_) ?_
      refine own_go (t' := T4.setTop (mkF m 57 #[.val (.ref t), .val (.long (own_acc F0 i)), .second, .val (.int (Int32.ofNat (4 + i)))] [(.int (33 : Int32)), (.long (own_acc F0 i)), (.long (own_acc F0 i))])) (fun _ k_ => XS.bipush X4.here hx rfl (Jvm.hb hby d15_55) k_) ?_
      refine own_go (t' := T4.setTop (mkF m 58 #[.val (.ref t), .val (.long (own_acc F0 i)), .second, .val (.int (Int32.ofNat (4 + i)))] [(.long (((own_acc F0 i).toUInt64 >>> ((33 : Int32) &&& 0x3f).toInt64.toUInt64).toInt64)), (.long (own_acc F0 i))])) (fun _ k_ => XS.lushr X4.here hx rfl (Jvm.hb hby d15_57) rfl k_) ?_
      refine own_go (t' := T4.setTop (mkF m 59 #[.val (.ref t), .val (.long (own_acc F0 i)), .second, .val (.int (Int32.ofNat (4 + i)))] [(.long ((own_acc F0 i) ^^^ (((own_acc F0 i).toUInt64 >>> ((33 : Int32) &&& 0x3f).toInt64.toUInt64).toInt64)))])) (fun _ k_ => XS.lxor X4.here hx rfl (Jvm.hb hby d15_58) rfl k_) ?_
      refine own_go (t' := T4.setTop (mkF m 62 #[.val (.ref t), .val (.long (own_acc F0 i)), .second, .val (.int (Int32.ofNat (4 + i)))] [(.long (-49064778989728563 : Int64)), (.long ((own_acc F0 i) ^^^ (((own_acc F0 i).toUInt64 >>> ((33 : Int32) &&& 0x3f).toInt64.toUInt64).toInt64)))])) (fun _ k_ => X4.ldc2J (own := "com/example/brisk_rules/briskrules/GroundRuleTable") (index := 175) (v := (-49064778989728563 : Int64)) hx hown (mvT hZ (hw _ (List.mem_of_getElem? (i := 118) rfl))) rfl (Jvm.hb hby d15_59) k_) ?_
      refine own_go (t' := T4.setTop (mkF m 63 #[.val (.ref t), .val (.long (own_acc F0 i)), .second, .val (.int (Int32.ofNat (4 + i)))] [(.long (((own_acc F0 i) ^^^ (((own_acc F0 i).toUInt64 >>> ((33 : Int32) &&& 0x3f).toInt64.toUInt64).toInt64)) * (-49064778989728563 : Int64)))])) (fun _ k_ => XS.lmul X4.here hx rfl (Jvm.hb hby d15_62) rfl k_) ?_
      refine own_go (t' := T4.setTop (mkF m 64 #[.val (.ref t), .val (.long (((own_acc F0 i) ^^^ (((own_acc F0 i).toUInt64 >>> ((33 : Int32) &&& 0x3f).toInt64.toUInt64).toInt64)) * (-49064778989728563 : Int64))), .second, .val (.int (Int32.ofNat (4 + i)))] [])) (fun _ k_ => XS.lstoreN X4.here hx rfl (Jvm.hb hby d15_63) rfl (l' := #[.val (.ref t), .val (.long (((own_acc F0 i) ^^^ (((own_acc F0 i).toUInt64 >>> ((33 : Int32) &&& 0x3f).toInt64.toUInt64).toInt64)) * (-49064778989728563 : Int64))), .second, .val (.int (Int32.ofNat (4 + i)))]) rfl k_) ?_
      refine own_go (t' := T4.setTop (mkF m 65 #[.val (.ref t), .val (.long (((own_acc F0 i) ^^^ (((own_acc F0 i).toUInt64 >>> ((33 : Int32) &&& 0x3f).toInt64.toUInt64).toInt64)) * (-49064778989728563 : Int64))), .second, .val (.int (Int32.ofNat (4 + i)))] [(.long (((own_acc F0 i) ^^^ (((own_acc F0 i).toUInt64 >>> ((33 : Int32) &&& 0x3f).toInt64.toUInt64).toInt64)) * (-49064778989728563 : Int64)))])) (fun _ k_ => XS.lloadN X4.here hx rfl (Jvm.hb hby d15_64) rfl k_) ?_
      refine own_go (t' := T4.setTop (mkF m 66 #[.val (.ref t), .val (.long (((own_acc F0 i) ^^^ (((own_acc F0 i).toUInt64 >>> ((33 : Int32) &&& 0x3f).toInt64.toUInt64).toInt64)) * (-49064778989728563 : Int64))), .second, .val (.int (Int32.ofNat (4 + i)))] [(.long (((own_acc F0 i) ^^^ (((own_acc F0 i).toUInt64 >>> ((33 : Int32) &&& 0x3f).toInt64.toUInt64).toInt64)) * (-49064778989728563 : Int64))), (.long (((own_acc F0 i) ^^^ (((own_acc F0 i).toUInt64 >>> ((33 : Int32) &&& 0x3f).toInt64.toUInt64).toInt64)) * (-49064778989728563 : Int64)))])) (fun _ k_ => XS.lloadN X4.here hx rfl (Jvm.hb hby d15_65) rfl k_) ?_
      refine own_go (t' := T4.setTop (mkF m 68 #[.val (.ref t), .val (.long (((own_acc F0 i) ^^^ (((own_acc F0 i).toUInt64 >>> ((33 : Int32) &&& 0x3f).toInt64.toUInt64).toInt64)) * (-49064778989728563 : Int64))), .second, .val (.int (Int32.ofNat (4 + i)))] [(.int (33 : Int32)), (.long (((own_acc F0 i) ^^^ (((own_acc F0 i).toUInt64 >>> ((33 : Int32) &&& 0x3f).toInt64.toUInt64).toInt64)) * (-49064778989728563 : Int64))), (.long (((own_acc F0 i) ^^^ (((own_acc F0 i).toUInt64 >>> ((33 : Int32) &&& 0x3f).toInt64.toUInt64).toInt64)) * (-49064778989728563 : Int64)))])) (fun _ k_ => XS.bipush X4.here hx rfl (Jvm.hb hby d15_66) k_) ?_
      refine own_go (t' := T4.setTop (mkF m 69 #[.val (.ref t), .val (.long (((own_acc F0 i) ^^^ (((own_acc F0 i).toUInt64 >>> ((33 : Int32) &&& 0x3f).toInt64.toUInt64).toInt64)) * (-49064778989728563 : Int64))), .second, .val (.int (Int32.ofNat (4 + i)))] [(.long (((((own_acc F0 i) ^^^ (((own_acc F0 i).toUInt64 >>> ((33 : Int32) &&& 0x3f).toInt64.toUInt64).toInt64)) * (-49064778989728563 : Int64)).toUInt64 >>> ((33 : Int32) &&& 0x3f).toInt64.toUInt64).toInt64)), (.long (((own_acc F0 i) ^^^ (((own_acc F0 i).toUInt64 >>> ((33 : Int32) &&& 0x3f).toInt64.toUInt64).toInt64)) * (-49064778989728563 : Int64)))])) (fun _ k_ => XS.lushr X4.here hx rfl (Jvm.hb hby d15_68) rfl k_) ?_
      refine own_go (t' := T4.setTop (mkF m 70 #[.val (.ref t), .val (.long (((own_acc F0 i) ^^^ (((own_acc F0 i).toUInt64 >>> ((33 : Int32) &&& 0x3f).toInt64.toUInt64).toInt64)) * (-49064778989728563 : Int64))), .second, .val (.int (Int32.ofNat (4 + i)))] [(.long ((((own_acc F0 i) ^^^ (((own_acc F0 i).toUInt64 >>> ((33 : Int32) &&& 0x3f).toInt64.toUInt64).toInt64)) * (-49064778989728563 : Int64)) ^^^ (((((own_acc F0 i) ^^^ (((own_acc F0 i).toUInt64 >>> ((33 : Int32) &&& 0x3f).toInt64.toUInt64).toInt64)) * (-49064778989728563 : Int64)).toUInt64 >>> ((33 : Int32) &&& 0x3f).toInt64.toUInt64).toInt64)))])) (fun _ k_ => XS.lxor X4.here hx rfl (Jvm.hb hby d15_69) rfl k_) ?_
      refine own_go (t' := T4.setTop (mkF m 73 #[.val (.ref t), .val (.long (((own_acc F0 i) ^^^ (((own_acc F0 i).toUInt64 >>> ((33 : Int32) &&& 0x3f).toInt64.toUInt64).toInt64)) * (-49064778989728563 : Int64))), .second, .val (.int (Int32.ofNat (4 + i)))] [(.long (-4265267296055464877 : Int64)), (.long ((((own_acc F0 i) ^^^ (((own_acc F0 i).toUInt64 >>> ((33 : Int32) &&& 0x3f).toInt64.toUInt64).toInt64)) * (-49064778989728563 : Int64)) ^^^ (((((own_acc F0 i) ^^^ (((own_acc F0 i).toUInt64 >>> ((33 : Int32) &&& 0x3f).toInt64.toUInt64).toInt64)) * (-49064778989728563 : Int64)).toUInt64 >>> ((33 : Int32) &&& 0x3f).toInt64.toUInt64).toInt64)))])) (fun _ k_ => X4.ldc2J (own := "com/example/brisk_rules/briskrules/GroundRuleTable") (index := 177) (v := (-4265267296055464877 : Int64)) hx hown (mvT hZ (hw _ (List.mem_of_getElem? (i := 119) rfl))) rfl (Jvm.hb hby d15_70) k_) ?_
      refine own_go (t' := T4.setTop (mkF m 74 #[.val (.ref t), .val (.long (((own_acc F0 i) ^^^ (((own_acc F0 i).toUInt64 >>> ((33 : Int32) &&& 0x3f).toInt64.toUInt64).toInt64)) * (-49064778989728563 : Int64))), .second, .val (.int (Int32.ofNat (4 + i)))] [(.long (((((own_acc F0 i) ^^^ (((own_acc F0 i).toUInt64 >>> ((33 : Int32) &&& 0x3f).toInt64.toUInt64).toInt64)) * (-49064778989728563 : Int64)) ^^^ (((((own_acc F0 i) ^^^ (((own_acc F0 i).toUInt64 >>> ((33 : Int32) &&& 0x3f).toInt64.toUInt64).toInt64)) * (-49064778989728563 : Int64)).toUInt64 >>> ((33 : Int32) &&& 0x3f).toInt64.toUInt64).toInt64)) * (-4265267296055464877 : Int64)))])) (fun _ k_ => XS.lmul X4.here hx rfl (Jvm.hb hby d15_73) rfl k_) ?_
      refine own_go (t' := T4.setTop (mkF m 75 #[.val (.ref t), .val (.long (((((own_acc F0 i) ^^^ (((own_acc F0 i).toUInt64 >>> ((33 : Int32) &&& 0x3f).toInt64.toUInt64).toInt64)) * (-49064778989728563 : Int64)) ^^^ (((((own_acc F0 i) ^^^ (((own_acc F0 i).toUInt64 >>> ((33 : Int32) &&& 0x3f).toInt64.toUInt64).toInt64)) * (-49064778989728563 : Int64)).toUInt64 >>> ((33 : Int32) &&& 0x3f).toInt64.toUInt64).toInt64)) * (-4265267296055464877 : Int64))), .second, .val (.int (Int32.ofNat (4 + i)))] [])) (fun _ k_ => XS.lstoreN X4.here hx rfl (Jvm.hb hby d15_74) rfl (l' := #[.val (.ref t), .val (.long (((((own_acc F0 i) ^^^ (((own_acc F0 i).toUInt64 >>> ((33 : Int32) &&& 0x3f).toInt64.toUInt64).toInt64)) * (-49064778989728563 : Int64)) ^^^ (((((own_acc F0 i) ^^^ (((own_acc F0 i).toUInt64 >>> ((33 : Int32) &&& 0x3f).toInt64.toUInt64).toInt64)) * (-49064778989728563 : Int64)).toUInt64 >>> ((33 : Int32) &&& 0x3f).toInt64.toUInt64).toInt64)) * (-4265267296055464877 : Int64))), .second, .val (.int (Int32.ofNat (4 + i)))]) rfl k_) ?_
      refine own_go (t' := T4.setTop (mkF m 76 #[.val (.ref t), .val (.long (((((own_acc F0 i) ^^^ (((own_acc F0 i).toUInt64 >>> ((33 : Int32) &&& 0x3f).toInt64.toUInt64).toInt64)) * (-49064778989728563 : Int64)) ^^^ (((((own_acc F0 i) ^^^ (((own_acc F0 i).toUInt64 >>> ((33 : Int32) &&& 0x3f).toInt64.toUInt64).toInt64)) * (-49064778989728563 : Int64)).toUInt64 >>> ((33 : Int32) &&& 0x3f).toInt64.toUInt64).toInt64)) * (-4265267296055464877 : Int64))), .second, .val (.int (Int32.ofNat (4 + i)))] [(.long (((((own_acc F0 i) ^^^ (((own_acc F0 i).toUInt64 >>> ((33 : Int32) &&& 0x3f).toInt64.toUInt64).toInt64)) * (-49064778989728563 : Int64)) ^^^ (((((own_acc F0 i) ^^^ (((own_acc F0 i).toUInt64 >>> ((33 : Int32) &&& 0x3f).toInt64.toUInt64).toInt64)) * (-49064778989728563 : Int64)).toUInt64 >>> ((33 : Int32) &&& 0x3f).toInt64.toUInt64).toInt64)) * (-4265267296055464877 : Int64)))])) (fun _ k_ => XS.lloadN X4.here hx rfl (Jvm.hb hby d15_75) rfl k_) ?_
      refine own_go (t' := T4.setTop (mkF m 77 #[.val (.ref t), .val (.long (((((own_acc F0 i) ^^^ (((own_acc F0 i).toUInt64 >>> ((33 : Int32) &&& 0x3f).toInt64.toUInt64).toInt64)) * (-49064778989728563 : Int64)) ^^^ (((((own_acc F0 i) ^^^ (((own_acc F0 i).toUInt64 >>> ((33 : Int32) &&& 0x3f).toInt64.toUInt64).toInt64)) * (-49064778989728563 : Int64)).toUInt64 >>> ((33 : Int32) &&& 0x3f).toInt64.toUInt64).toInt64)) * (-4265267296055464877 : Int64))), .second, .val (.int (Int32.ofNat (4 + i)))] [(.long (((((own_acc F0 i) ^^^ (((own_acc F0 i).toUInt64 >>> ((33 : Int32) &&& 0x3f).toInt64.toUInt64).toInt64)) * (-49064778989728563 : Int64)) ^^^ (((((own_acc F0 i) ^^^ (((own_acc F0 i).toUInt64 >>> ((33 : Int32) &&& 0x3f).toInt64.toUInt64).toInt64)) * (-49064778989728563 : Int64)).toUInt64 >>> ((33 : Int32) &&& 0x3f).toInt64.toUInt64).toInt64)) * (-4265267296055464877 : Int64))), (.long (((((own_acc F0 i) ^^^ (((own_acc F0 i).toUInt64 >>> ((33 : Int32) &&& 0x3f).toInt64.toUInt64).toInt64)) * (-49064778989728563 : Int64)) ^^^ (((((own_acc F0 i) ^^^ (((own_acc F0 i).toUInt64 >>> ((33 : Int32) &&& 0x3f).toInt64.toUInt64).toInt64)) * (-49064778989728563 : Int64)).toUInt64 >>> ((33 : Int32) &&& 0x3f).toInt64.toUInt64).toInt64)) * (-4265267296055464877 : Int64)))])) (fun _ k_ => XS.lloadN X4.here hx rfl (Jvm.hb hby d15_76) rfl k_) ?_
      refine own_go (t' := T4.setTop (mkF m 79 #[.val (.ref t), .val (.long (((((own_acc F0 i) ^^^ (((own_acc F0 i).toUInt64 >>> ((33 : Int32) &&& 0x3f).toInt64.toUInt64).toInt64)) * (-49064778989728563 : Int64)) ^^^ (((((own_acc F0 i) ^^^ (((own_acc F0 i).toUInt64 >>> ((33 : Int32) &&& 0x3f).toInt64.toUInt64).toInt64)) * (-49064778989728563 : Int64)).toUInt64 >>> ((33 : Int32) &&& 0x3f).toInt64.toUInt64).toInt64)) * (-4265267296055464877 : Int64))), .second, .val (.int (Int32.ofNat (4 + i)))] [(.int (33 : Int32)), (.long (((((own_acc F0 i) ^^^ (((own_acc F0 i).toUInt64 >>> ((33 : Int32) &&& 0x3f).toInt64.toUInt64).toInt64)) * (-49064778989728563 : Int64)) ^^^ (((((own_acc F0 i) ^^^ (((own_acc F0 i).toUInt64 >>> ((33 : Int32) &&& 0x3f).toInt64.toUInt64).toInt64)) * (-49064778989728563 : Int64)).toUInt64 >>> ((33 : Int32) &&& 0x3f).toInt64.toUInt64).toInt64)) * (-4265267296055464877 : Int64))), (.long (((((own_acc F0 i) ^^^ (((own_acc F0 i).toUInt64 >>> ((33 : Int32) &&& 0x3f).toInt64.toUInt64).toInt64)) * (-49064778989728563 : Int64)) ^^^ (((((own_acc F0 i) ^^^ (((own_acc F0 i).toUInt64 >>> ((33 : Int32) &&& 0x3f).toInt64.toUInt64).toInt64)) * (-49064778989728563 : Int64)).toUInt64 >>> ((33 : Int32) &&& 0x3f).toInt64.toUInt64).toInt64)) * (-4265267296055464877 : Int64)))])) (fun _ k_ => XS.bipush X4.here hx rfl (Jvm.hb hby d15_77) k_) ?_
      refine own_go (t' := T4.setTop (mkF m 80 #[.val (.ref t), .val (.long (((((own_acc F0 i) ^^^ (((own_acc F0 i).toUInt64 >>> ((33 : Int32) &&& 0x3f).toInt64.toUInt64).toInt64)) * (-49064778989728563 : Int64)) ^^^ (((((own_acc F0 i) ^^^ (((own_acc F0 i).toUInt64 >>> ((33 : Int32) &&& 0x3f).toInt64.toUInt64).toInt64)) * (-49064778989728563 : Int64)).toUInt64 >>> ((33 : Int32) &&& 0x3f).toInt64.toUInt64).toInt64)) * (-4265267296055464877 : Int64))), .second, .val (.int (Int32.ofNat (4 + i)))] [(.long (((((((own_acc F0 i) ^^^ (((own_acc F0 i).toUInt64 >>> ((33 : Int32) &&& 0x3f).toInt64.toUInt64).toInt64)) * (-49064778989728563 : Int64)) ^^^ (((((own_acc F0 i) ^^^ (((own_acc F0 i).toUInt64 >>> ((33 : Int32) &&& 0x3f).toInt64.toUInt64).toInt64)) * (-49064778989728563 : Int64)).toUInt64 >>> ((33 : Int32) &&& 0x3f).toInt64.toUInt64).toInt64)) * (-4265267296055464877 : Int64)).toUInt64 >>> ((33 : Int32) &&& 0x3f).toInt64.toUInt64).toInt64)), (.long (((((own_acc F0 i) ^^^ (((own_acc F0 i).toUInt64 >>> ((33 : Int32) &&& 0x3f).toInt64.toUInt64).toInt64)) * (-49064778989728563 : Int64)) ^^^ (((((own_acc F0 i) ^^^ (((own_acc F0 i).toUInt64 >>> ((33 : Int32) &&& 0x3f).toInt64.toUInt64).toInt64)) * (-49064778989728563 : Int64)).toUInt64 >>> ((33 : Int32) &&& 0x3f).toInt64.toUInt64).toInt64)) * (-4265267296055464877 : Int64)))])) (fun _ k_ => XS.lushr X4.here hx rfl (Jvm.hb hby d15_79) rfl k_) ?_
      refine own_go (t' := T4.setTop (mkF m 81 #[.val (.ref t), .val (.long (((((own_acc F0 i) ^^^ (((own_acc F0 i).toUInt64 >>> ((33 : Int32) &&& 0x3f).toInt64.toUInt64).toInt64)) * (-49064778989728563 : Int64)) ^^^ (((((own_acc F0 i) ^^^ (((own_acc F0 i).toUInt64 >>> ((33 : Int32) &&& 0x3f).toInt64.toUInt64).toInt64)) * (-49064778989728563 : Int64)).toUInt64 >>> ((33 : Int32) &&& 0x3f).toInt64.toUInt64).toInt64)) * (-4265267296055464877 : Int64))), .second, .val (.int (Int32.ofNat (4 + i)))] [(.long ((((((own_acc F0 i) ^^^ (((own_acc F0 i).toUInt64 >>> ((33 : Int32) &&& 0x3f).toInt64.toUInt64).toInt64)) * (-49064778989728563 : Int64)) ^^^ (((((own_acc F0 i) ^^^ (((own_acc F0 i).toUInt64 >>> ((33 : Int32) &&& 0x3f).toInt64.toUInt64).toInt64)) * (-49064778989728563 : Int64)).toUInt64 >>> ((33 : Int32) &&& 0x3f).toInt64.toUInt64).toInt64)) * (-4265267296055464877 : Int64)) ^^^ (((((((own_acc F0 i) ^^^ (((own_acc F0 i).toUInt64 >>> ((33 : Int32) &&& 0x3f).toInt64.toUInt64).toInt64)) * (-49064778989728563 : Int64)) ^^^ (((((own_acc F0 i) ^^^ (((own_acc F0 i).toUInt64 >>> ((33 : Int32) &&& 0x3f).toInt64.toUInt64).toInt64)) * (-49064778989728563 : Int64)).toUInt64 >>> ((33 : Int32) &&& 0x3f).toInt64.toUInt64).toInt64)) * (-4265267296055464877 : Int64)).toUInt64 >>> ((33 : Int32) &&& 0x3f).toInt64.toUInt64).toInt64)))])) (fun _ k_ => XS.lxor X4.here hx rfl (Jvm.hb hby d15_80) rfl k_) ?_
      refine own_go (t' := T4.setTop (mkF m 82 #[.val (.ref t), .val (.long (((((own_acc F0 i) ^^^ (((own_acc F0 i).toUInt64 >>> ((33 : Int32) &&& 0x3f).toInt64.toUInt64).toInt64)) * (-49064778989728563 : Int64)) ^^^ (((((own_acc F0 i) ^^^ (((own_acc F0 i).toUInt64 >>> ((33 : Int32) &&& 0x3f).toInt64.toUInt64).toInt64)) * (-49064778989728563 : Int64)).toUInt64 >>> ((33 : Int32) &&& 0x3f).toInt64.toUInt64).toInt64)) * (-4265267296055464877 : Int64))), .second, .val (.int (Int32.ofNat (4 + i)))] [(.int ((((((own_acc F0 i) ^^^ (((own_acc F0 i).toUInt64 >>> ((33 : Int32) &&& 0x3f).toInt64.toUInt64).toInt64)) * (-49064778989728563 : Int64)) ^^^ (((((own_acc F0 i) ^^^ (((own_acc F0 i).toUInt64 >>> ((33 : Int32) &&& 0x3f).toInt64.toUInt64).toInt64)) * (-49064778989728563 : Int64)).toUInt64 >>> ((33 : Int32) &&& 0x3f).toInt64.toUInt64).toInt64)) * (-4265267296055464877 : Int64)) ^^^ (((((((own_acc F0 i) ^^^ (((own_acc F0 i).toUInt64 >>> ((33 : Int32) &&& 0x3f).toInt64.toUInt64).toInt64)) * (-49064778989728563 : Int64)) ^^^ (((((own_acc F0 i) ^^^ (((own_acc F0 i).toUInt64 >>> ((33 : Int32) &&& 0x3f).toInt64.toUInt64).toInt64)) * (-49064778989728563 : Int64)).toUInt64 >>> ((33 : Int32) &&& 0x3f).toInt64.toUInt64).toInt64)) * (-4265267296055464877 : Int64)).toUInt64 >>> ((33 : Int32) &&& 0x3f).toInt64.toUInt64).toInt64)).toInt32)])) (fun _ k_ => XS.l2i X4.here hx rfl (Jvm.hb hby d15_81) rfl k_) ?_
      exact own_retI X4 hx Bd.returns (BodyLoose.notSynchronized Bd) (Jvm.hb hby d15_82) (by decide) (by decide) ⟨rfl, N4, e4⟩
    | succ d ih =>
      intro i hid Tj lj Xj ej Nj
      refine own_go (t' := Tj.setTop (mkF m 21 #[.val (.ref t), .val (.long (own_acc F0 i)), .second, .val (.int (Int32.ofNat (4 + i)))] [(.int (Int32.ofNat (4 + i)))])) (fun _ k_ => XS.iloadN Xj.here hx rfl (Jvm.hb hby d15_20) rfl k_) ?_
      refine own_go (t' := Tj.setTop (mkF m 22 #[.val (.ref t), .val (.long (own_acc F0 i)), .second, .val (.int (Int32.ofNat (4 + i)))] [(.int (4 : Int32)), (.int (Int32.ofNat (4 + i)))])) (fun _ k_ => XS.iconst Xj.here hx rfl (Jvm.hb hby d15_21) k_) ?_
      refine own_go (t' := Tj.setTop (mkF m 23 #[.val (.ref t), .val (.long (own_acc F0 i)), .second, .val (.int (Int32.ofNat (4 + i)))] [(.ref t), (.int (4 : Int32)), (.int (Int32.ofNat (4 + i)))])) (fun _ k_ => XS.aloadN Xj.here hx rfl (Jvm.hb hby d15_22) rfl rfl k_) ?_
      obtain ⟨T5, X5, e5, st5⟩ := getF Xj hx hZ hown (host := "") (Or.inl (hw _ (List.mem_of_getElem? (i := 18) rfl))) Via.refl ej F (g := (mkF m 23 #[.val (.ref t), .val (.long (own_acc F0 i)), .second, .val (.int (Int32.ofNat (4 + i)))] [(.ref t), (.int (4 : Int32)), (.int (Int32.ofNat (4 + i)))])) rfl rfl (Jvm.hb hby d15_23)
      refine own_go (t' := T5.setTop (mkF m 26 #[.val (.ref t), .val (.long (own_acc F0 i)), .second, .val (.int (Int32.ofNat (4 + i)))] [(.ref aF), (.int (4 : Int32)), (.int (Int32.ofNat (4 + i)))])) st5 ?_
      refine own_go (t' := T5.setTop (mkF m 27 #[.val (.ref t), .val (.long (own_acc F0 i)), .second, .val (.int (Int32.ofNat (4 + i)))] [(.int (0 : Int32)), (.ref aF), (.int (4 : Int32)), (.int (Int32.ofNat (4 + i)))])) (fun _ k_ => XS.iconst X5.here hx rfl (Jvm.hb hby d15_26) k_) ?_
      obtain ⟨T6, L6, v6, X6, hQ6, st6⟩ := own_static X5 hx hZ hown (hw _ (List.mem_of_getElem? (i := 115) rfl)) (hw _ (List.mem_of_getElem? (i := 116) rfl)) (hw _ (List.mem_of_getElem? (i := 2) rfl)) (hw _ (List.mem_of_getElem? (i := 117) rfl)) (by decide) (rm_lit l Z a0 hw [] aF 8 fF (F0 3) h0 n0 Z0 A (by decide) (by decide) (hF 3 (by omega))) e5 (g := (mkF m 27 #[.val (.ref t), .val (.long (own_acc F0 i)), .second, .val (.int (Int32.ofNat (4 + i)))] [(.int (0 : Int32)), (.ref aF), (.int (4 : Int32)), (.int (Int32.ofNat (4 + i)))])) rfl (by rw [hml]; rfl) (argsL := [(.ref aF), (.int (0 : Int32))]) (rest := [(.int (4 : Int32)), (.int (Int32.ofNat (4 + i)))]) (lenOf pd_d16 rfl) rfl (W := 2) (by show 2 * 0 + _ ≤ _; exact Nat.le_of_eq rfl) (Jvm.hb hby d15_27) (by decide) (by decide) (by decide) (by decide)
      obtain ⟨rfl, Nq6, e6⟩ := hQ6
      have N6 := Fr.app Nj Nq6
      refine own_go (t' := T6.setTop (mkF m 30 #[.val (.ref t), .val (.long (own_acc F0 i)), .second, .val (.int (Int32.ofNat (4 + i)))] [(.int (own_cnt (F0 3))), (.int (4 : Int32)), (.int (Int32.ofNat (4 + i)))])) st6 ?_
      rw [hc]
      refine own_go (t' := T6.setTop (mkF m 31 #[.val (.ref t), .val (.long (own_acc F0 i)), .second, .val (.int (Int32.ofNat (4 + i)))] [(.int ((4 : Int32) + (Int32.ofNat k))), (.int (Int32.ofNat (4 + i)))])) (fun _ k_ => XS.iadd X6.here hx rfl (Jvm.hb hby d15_30) rfl k_) ?_
      rw [own_add4 k]
      have hlt : i < k := by omega
      refine own_go (t' := T6.setTop (mkF m 34 #[.val (.ref t), .val (.long (own_acc F0 i)), .second, .val (.int (Int32.ofNat (4 + i)))] [])) (fun _ k_ => XS.icmpNo X6.here hx rfl (Jvm.hb hby d15_31) rfl (tlt ((own_ilt (by omega) (by omega)).mpr (by omega))).2.1 k_) ?_
      refine own_go (t' := T6.setTop (mkF m 37 #[.val (.ref t), .val (.long (own_acc F0 i)), .second, .val (.int (Int32.ofNat (4 + i)))] [(.long (31 : Int64))])) (fun _ k_ => X6.ldc2J (own := "com/example/brisk_rules/briskrules/GroundRuleTable") (index := 173) (v := (31 : Int64)) hx hown (mvT hZ (hw _ (List.mem_of_getElem? (i := 114) rfl))) rfl (Jvm.hb hby d15_34) k_) ?_
      refine own_go (t' := T6.setTop (mkF m 38 #[.val (.ref t), .val (.long (own_acc F0 i)), .second, .val (.int (Int32.ofNat (4 + i)))] [(.long (own_acc F0 i)), (.long (31 : Int64))])) (fun _ k_ => XS.lloadN X6.here hx rfl (Jvm.hb hby d15_37) rfl k_) ?_
      refine own_go (t' := T6.setTop (mkF m 39 #[.val (.ref t), .val (.long (own_acc F0 i)), .second, .val (.int (Int32.ofNat (4 + i)))] [(.long ((31 : Int64) * (own_acc F0 i)))])) (fun _ k_ => XS.lmul X6.here hx rfl (Jvm.hb hby d15_38) rfl k_) ?_
      refine own_go (t' := T6.setTop (mkF m 40 #[.val (.ref t), .val (.long (own_acc F0 i)), .second, .val (.int (Int32.ofNat (4 + i)))] [(.ref t), (.long ((31 : Int64) * (own_acc F0 i)))])) (fun _ k_ => XS.aloadN X6.here hx rfl (Jvm.hb hby d15_39) rfl rfl k_) ?_
      obtain ⟨T7, X7, e7, st7⟩ := getF X6 hx hZ hown (host := "") (Or.inl (hw _ (List.mem_of_getElem? (i := 18) rfl))) Via.refl e6 F (g := (mkF m 40 #[.val (.ref t), .val (.long (own_acc F0 i)), .second, .val (.int (Int32.ofNat (4 + i)))] [(.ref t), (.long ((31 : Int64) * (own_acc F0 i)))])) rfl rfl (Jvm.hb hby d15_40)
      refine own_go (t' := T7.setTop (mkF m 43 #[.val (.ref t), .val (.long (own_acc F0 i)), .second, .val (.int (Int32.ofNat (4 + i)))] [(.ref aF), (.long ((31 : Int64) * (own_acc F0 i)))])) st7 ?_
      refine own_go (t' := T7.setTop (mkF m 44 #[.val (.ref t), .val (.long (own_acc F0 i)), .second, .val (.int (Int32.ofNat (4 + i)))] [(.int (Int32.ofNat (4 + i))), (.ref aF), (.long ((31 : Int64) * (own_acc F0 i)))])) (fun _ k_ => XS.iloadN X7.here hx rfl (Jvm.hb hby d15_43) rfl k_) ?_
      refine own_go (t' := T7.setTop (mkF m 45 #[.val (.ref t), .val (.long (own_acc F0 i)), .second, .val (.int (Int32.ofNat (4 + i)))] [(.long (F0 (4 + i))), (.long ((31 : Int64) * (own_acc F0 i)))])) (own_ldJ X7 hx hZ e7 A (by decide) (show 4 + i < 8 by omega) (hF (4 + i) (by omega)) (g := (mkF m 44 #[.val (.ref t), .val (.long (own_acc F0 i)), .second, .val (.int (Int32.ofNat (4 + i)))] [(.int (Int32.ofNat (4 + i))), (.ref aF), (.long ((31 : Int64) * (own_acc F0 i)))])) rfl rfl (Jvm.hb hby d15_44)) ?_
      refine own_go (t' := T7.setTop (mkF m 46 #[.val (.ref t), .val (.long (own_acc F0 i)), .second, .val (.int (Int32.ofNat (4 + i)))] [(.long (((31 : Int64) * (own_acc F0 i)) + (F0 (4 + i))))])) (fun _ k_ => XS.ladd X7.here hx rfl (Jvm.hb hby d15_45) rfl k_) ?_
      refine own_go (t' := T7.setTop (mkF m 47 #[.val (.ref t), .val (.long (((31 : Int64) * (own_acc F0 i)) + (F0 (4 + i)))), .second, .val (.int (Int32.ofNat (4 + i)))] [])) (fun _ k_ => XS.lstoreN X7.here hx rfl (Jvm.hb hby d15_46) rfl (l' := #[.val (.ref t), .val (.long (((31 : Int64) * (own_acc F0 i)) + (F0 (4 + i)))), .second, .val (.int (Int32.ofNat (4 + i)))]) rfl k_) ?_
      refine own_go (t' := T7.setTop (mkF m 50 #[.val (.ref t), .val (.long (((31 : Int64) * (own_acc F0 i)) + (F0 (4 + i)))), .second, .val (.int ((Int32.ofNat (4 + i)) + (1 : Int32)))] [])) (fun _ k_ => XS.iinc X7.here hx rfl (Jvm.hb hby d15_47) rfl (l' := #[.val (.ref t), .val (.long (((31 : Int64) * (own_acc F0 i)) + (F0 (4 + i)))), .second, .val (.int ((Int32.ofNat (4 + i)) + (1 : Int32)))]) rfl k_) ?_
      refine own_go (t' := T7.setTop (mkF m 20 #[.val (.ref t), .val (.long (((31 : Int64) * (own_acc F0 i)) + (F0 (4 + i)))), .second, .val (.int ((Int32.ofNat (4 + i)) + (1 : Int32)))] [])) (fun _ k_ => XS.goto X7.here hx rfl (pc0 := 50) (pc' := 20) rfl (Jvm.hb hby d15_50) (by decide) (by decide) k_) ?_
      rw [own_succ (4 + i)]
      exact ih (i + 1) (by omega) _ _ X7 e7 N6
  exact loop k 0 (by omega) _ _ X2 e2 N0
theorem ef_rm_cbu (m : MethodId) (x0 : Addr) (x1 : UInt64) (x2 : Int32) : entryFrame m #[(.ref x0), (.double x1), (.int x2)] 7 = mkF m 0 #[.val (.ref x0), .val (.double x1), .second, .val (.int x2), .unset, .unset, .unset] [] := by first | (simp [entryFrame, mkF, argsToLocals, Value.category]; done) | rfl
set_option maxRecDepth 65536 in
set_option maxHeartbeats 40000000 in
theorem rm_cbu (l : Launch) (Z : State) (a0 : Array Value) (hw : ∀ d ∈ tables_1, d.before a0 Z = true) (ws : List Jvm.Cond) (t aF k : Nat) (fF : Nat → Value) (lt0 : Nat → Int64) (h0 : Heap) (n0 : Nat) (Z0 : n0 ≤ h0.size) (F : Fld Z h0 t "com/example/brisk_rules/briskrules/GroundRuleTable" "form" "[J" (.ref aF)) (A : own_Ar Z h0 aF .long 8 fF) (hF : ∀ j, j < k → fF (4 + j) = .long (lt0 j)) (hk : k ≤ 3) (hl : ∀ j, j < k → (lt0 j).toInt32 = -1) :
    own_Ctr l Z (⟨"com/example/brisk_rules/briskrules/GroundRuleTable", "canBeUnsatisfied", "(DI)Z"⟩ : MethodName) prog_11_method_23_code 7 (some .boolean) ws ({ frames := 1, cells := 0, slots := 0, locals := 15 } : Room) #[(.ref t), (.double (4607182418800017408 : UInt64)), (.int (Int32.ofNat k))] h0 (fun v h L => v = some (.int 1) ∧ Fr n0 L ∧ h = h0) := by
  refine own_enter (plainFor_of_name pn_d12) ?_
  intro p e s m below meth c s₁ Bd hZ hml X0 e0
  have hx := Bd.exec
  have hby := Bd.bytes
  have hown : s.vm.findClass "com/example/brisk_rules/briskrules/GroundRuleTable" = some m.cls := findClass_of_methodNamed Bd.named
  have hnm := (name_of_methodNamed Bd.named Bd.method).1
  have N0 := Fr.nil n0
  refine own_go (t' := s₁.setTop (mkF m 0 #[.val (.ref t), .val (.double (4607182418800017408 : UInt64)), .second, .val (.int (Int32.ofNat k)), .unset, .unset, .unset] [])) (fun _ k_ => castTop (ef_rm_cbu m t (4607182418800017408 : UInt64) (Int32.ofNat k)) k_) ?_
  refine own_go (t' := s₁.setTop (mkF m 1 #[.val (.ref t), .val (.double (4607182418800017408 : UInt64)), .second, .val (.int (Int32.ofNat k)), .unset, .unset, .unset] [(.double (4607182418800017408 : UInt64))])) (fun _ k_ => XS.dloadN X0.here hx rfl (Jvm.hb hby d12_0) rfl k_) ?_
  refine own_go (t' := s₁.setTop (mkF m 3 #[.val (.ref t), .val (.double (4607182418800017408 : UInt64)), .second, .val (.int (Int32.ofNat k)), .val (.double (4607182418800017408 : UInt64)), .second, .unset] [])) (fun _ k_ => XS.dstore X0.here hx rfl (Jvm.hb hby d12_1) rfl (l' := #[.val (.ref t), .val (.double (4607182418800017408 : UInt64)), .second, .val (.int (Int32.ofNat k)), .val (.double (4607182418800017408 : UInt64)), .second, .unset]) rfl k_) ?_
  refine own_go (t' := s₁.setTop (mkF m 4 #[.val (.ref t), .val (.double (4607182418800017408 : UInt64)), .second, .val (.int (Int32.ofNat k)), .val (.double (4607182418800017408 : UInt64)), .second, .unset] [(.int (0 : Int32))])) (fun _ k_ => XS.iconst X0.here hx rfl (Jvm.hb hby d12_3) k_) ?_
  refine own_go (t' := s₁.setTop (mkF m 6 #[.val (.ref t), .val (.double (4607182418800017408 : UInt64)), .second, .val (.int (Int32.ofNat k)), .val (.double (4607182418800017408 : UInt64)), .second, .val (.int (0 : Int32))] [])) (fun _ k_ => XS.istore X0.here hx rfl (Jvm.hb hby d12_4) rfl (l' := #[.val (.ref t), .val (.double (4607182418800017408 : UInt64)), .second, .val (.int (Int32.ofNat k)), .val (.double (4607182418800017408 : UInt64)), .second, .val (.int (0 : Int32))]) rfl k_) ?_
  have loop : ∀ d i : Nat, i + d = k → ∀ (Tj : State) (lj : List Loc), Stand p l e ({ frames := 1, cells := 0, slots := 0, locals := 15 } : Room) s m #[(.ref t), (.double (4607182418800017408 : UInt64)), (.int (Int32.ofNat k))] below meth c Tj lj 0 0 → Tj.heap = h0 → Fr n0 lj → own_Ends p.tables e below (own_F s (fun v h L => v = some (.int 1) ∧ Fr n0 L ∧ h = h0) ({ frames := 1, cells := 0, slots := 0, locals := 15 } : Room).cells ({ frames := 1, cells := 0, slots := 0, locals := 15 } : Room).slots) (Tj.setTop (mkF m 6 #[.val (.ref t), .val (.double (4607182418800017408 : UInt64)), .second, .val (.int (Int32.ofNat k)), .val (.double (4607182418800017408 : UInt64)), .second, .val (.int (Int32.ofNat i))] [])) := by
    intro d
    induction d with
    | zero =>
      intro i hid Tj lj Xj ej Nj
      refine own_go (t' := Tj.setTop (mkF m 8 #[.val (.ref t), .val (.double (4607182418800017408 : UInt64)), .second, .val (.int (Int32.ofNat k)), .val (.double (4607182418800017408 : UInt64)), .second, .val (.int (Int32.ofNat i))] [(.int (Int32.ofNat i))])) (fun _ k_ => XS.iload Xj.here hx rfl (Jvm.hb hby d12_6) rfl k_) ?_
      refine own_go (t' := Tj.setTop (mkF m 9 #[.val (.ref t), .val (.double (4607182418800017408 : UInt64)), .second, .val (.int (Int32.ofNat k)), .val (.double (4607182418800017408 : UInt64)), .second, .val (.int (Int32.ofNat i))] [(.int (Int32.ofNat k)), (.int (Int32.ofNat i))])) (fun _ k_ => XS.iloadN Xj.here hx rfl (Jvm.hb hby d12_8) rfl k_) ?_
      refine own_go (t' := Tj.setTop (mkF m 38 #[.val (.ref t), .val (.double (4607182418800017408 : UInt64)), .second, .val (.int (Int32.ofNat k)), .val (.double (4607182418800017408 : UInt64)), .second, .val (.int (Int32.ofNat i))] [])) (fun _ k_ => XS.icmpYes Xj.here hx rfl (pc0 := 9) (pc' := 38) rfl (Jvm.hb hby d12_9) rfl (flt (own_nlt (by omega) (by omega) (by omega))).2.1 (by decide) (by decide) k_) ?_
      refine own_go (t' := Tj.setTop (mkF m 40 #[.val (.ref t), .val (.double (4607182418800017408 : UInt64)), .second, .val (.int (Int32.ofNat k)), .val (.double (4607182418800017408 : UInt64)), .second, .val (.int (Int32.ofNat i))] [(.double (4607182418800017408 : UInt64))])) (fun _ k_ => XS.dload Xj.here hx rfl (Jvm.hb hby d12_38) rfl k_) ?_
      refine own_go (t' := Tj.setTop (mkF m 41 #[.val (.ref t), .val (.double (4607182418800017408 : UInt64)), .second, .val (.int (Int32.ofNat k)), .val (.double (4607182418800017408 : UInt64)), .second, .val (.int (Int32.ofNat i))] [(.double (0 : UInt64)), (.double (4607182418800017408 : UInt64))])) (fun _ k_ => XS.dconst0 Xj.here hx rfl (Jvm.hb hby d12_40) rfl k_) ?_
      refine own_go (t' := Tj.setTop (mkF m 42 #[.val (.ref t), .val (.double (4607182418800017408 : UInt64)), .second, .val (.int (Int32.ofNat k)), .val (.double (4607182418800017408 : UInt64)), .second, .val (.int (Int32.ofNat i))] [(.int (cmpValue (FP.dcmp (4607182418800017408 : UInt64) (0 : UInt64)) CmpOp.l))])) (fun _ k_ => XS.dcmpS Xj.here hx rfl (Jvm.hb hby d12_41) rfl rfl k_) ?_
      refine own_go (t' := Tj.setTop (mkF m 45 #[.val (.ref t), .val (.double (4607182418800017408 : UInt64)), .second, .val (.int (Int32.ofNat k)), .val (.double (4607182418800017408 : UInt64)), .second, .val (.int (Int32.ofNat i))] [])) (fun _ k_ => XS.ifNo Xj.here hx rfl (Jvm.hb hby d12_42) rfl ((if0 _ _).trans (tlt (by decide +kernel)).2.2.2) k_) ?_
      refine own_go (t' := Tj.setTop (mkF m 46 #[.val (.ref t), .val (.double (4607182418800017408 : UInt64)), .second, .val (.int (Int32.ofNat k)), .val (.double (4607182418800017408 : UInt64)), .second, .val (.int (Int32.ofNat i))] [(.int (1 : Int32))])) (fun _ k_ => XS.iconst Xj.here hx rfl (Jvm.hb hby d12_45) k_) ?_
      refine own_go (t' := Tj.setTop (mkF m 50 #[.val (.ref t), .val (.double (4607182418800017408 : UInt64)), .second, .val (.int (Int32.ofNat k)), .val (.double (4607182418800017408 : UInt64)), .second, .val (.int (Int32.ofNat i))] [(.int (1 : Int32))])) (fun _ k_ => XS.goto Xj.here hx rfl (pc0 := 46) (pc' := 50) rfl (Jvm.hb hby d12_46) (by decide) (by decide) k_) ?_
      exact own_retZ Xj hx Bd.returns (BodyLoose.notSynchronized Bd) rfl (Jvm.hb hby d12_50) (by decide) (by decide) ⟨rfl, Nj, ej⟩
    | succ d ih =>
      intro i hid Tj lj Xj ej Nj
      refine own_go (t' := Tj.setTop (mkF m 8 #[.val (.ref t), .val (.double (4607182418800017408 : UInt64)), .second, .val (.int (Int32.ofNat k)), .val (.double (4607182418800017408 : UInt64)), .second, .val (.int (Int32.ofNat i))] [(.int (Int32.ofNat i))])) (fun _ k_ => XS.iload Xj.here hx rfl (Jvm.hb hby d12_6) rfl k_) ?_
      refine own_go (t' := Tj.setTop (mkF m 9 #[.val (.ref t), .val (.double (4607182418800017408 : UInt64)), .second, .val (.int (Int32.ofNat k)), .val (.double (4607182418800017408 : UInt64)), .second, .val (.int (Int32.ofNat i))] [(.int (Int32.ofNat k)), (.int (Int32.ofNat i))])) (fun _ k_ => XS.iloadN Xj.here hx rfl (Jvm.hb hby d12_8) rfl k_) ?_
      have hlt : i < k := by omega
      refine own_go (t' := Tj.setTop (mkF m 12 #[.val (.ref t), .val (.double (4607182418800017408 : UInt64)), .second, .val (.int (Int32.ofNat k)), .val (.double (4607182418800017408 : UInt64)), .second, .val (.int (Int32.ofNat i))] [])) (fun _ k_ => XS.icmpNo Xj.here hx rfl (Jvm.hb hby d12_9) rfl (tlt ((own_ilt (by omega) (by omega)).mpr (by omega))).2.1 k_) ?_
      refine own_go (t' := Tj.setTop (mkF m 14 #[.val (.ref t), .val (.double (4607182418800017408 : UInt64)), .second, .val (.int (Int32.ofNat k)), .val (.double (4607182418800017408 : UInt64)), .second, .val (.int (Int32.ofNat i))] [(.double (4607182418800017408 : UInt64))])) (fun _ k_ => XS.dload Xj.here hx rfl (Jvm.hb hby d12_12) rfl k_) ?_
      refine own_go (t' := Tj.setTop (mkF m 15 #[.val (.ref t), .val (.double (4607182418800017408 : UInt64)), .second, .val (.int (Int32.ofNat k)), .val (.double (4607182418800017408 : UInt64)), .second, .val (.int (Int32.ofNat i))] [(.int (0 : Int32)), (.double (4607182418800017408 : UInt64))])) (fun _ k_ => XS.iconst Xj.here hx rfl (Jvm.hb hby d12_14) k_) ?_
      refine own_go (t' := Tj.setTop (mkF m 16 #[.val (.ref t), .val (.double (4607182418800017408 : UInt64)), .second, .val (.int (Int32.ofNat k)), .val (.double (4607182418800017408 : UInt64)), .second, .val (.int (Int32.ofNat i))] [(.ref t), (.int (0 : Int32)), (.double (4607182418800017408 : UInt64))])) (fun _ k_ => XS.aloadN Xj.here hx rfl (Jvm.hb hby d12_15) rfl rfl k_) ?_
      obtain ⟨T1, X1, e1, st1⟩ := getF Xj hx hZ hown (host := "") (Or.inl (hw _ (List.mem_of_getElem? (i := 18) rfl))) Via.refl ej F (g := (mkF m 16 #[.val (.ref t), .val (.double (4607182418800017408 : UInt64)), .second, .val (.int (Int32.ofNat k)), .val (.double (4607182418800017408 : UInt64)), .second, .val (.int (Int32.ofNat i))] [(.ref t), (.int (0 : Int32)), (.double (4607182418800017408 : UInt64))])) rfl rfl (Jvm.hb hby d12_16)
      refine own_go (t' := T1.setTop (mkF m 19 #[.val (.ref t), .val (.double (4607182418800017408 : UInt64)), .second, .val (.int (Int32.ofNat k)), .val (.double (4607182418800017408 : UInt64)), .second, .val (.int (Int32.ofNat i))] [(.ref aF), (.int (0 : Int32)), (.double (4607182418800017408 : UInt64))])) st1 ?_
      refine own_go (t' := T1.setTop (mkF m 20 #[.val (.ref t), .val (.double (4607182418800017408 : UInt64)), .second, .val (.int (Int32.ofNat k)), .val (.double (4607182418800017408 : UInt64)), .second, .val (.int (Int32.ofNat i))] [(.int (4 : Int32)), (.ref aF), (.int (0 : Int32)), (.double (4607182418800017408 : UInt64))])) (fun _ k_ => XS.iconst X1.here hx rfl (Jvm.hb hby d12_19) k_) ?_
      refine own_go (t' := T1.setTop (mkF m 22 #[.val (.ref t), .val (.double (4607182418800017408 : UInt64)), .second, .val (.int (Int32.ofNat k)), .val (.double (4607182418800017408 : UInt64)), .second, .val (.int (Int32.ofNat i))] [(.int (Int32.ofNat i)), (.int (4 : Int32)), (.ref aF), (.int (0 : Int32)), (.double (4607182418800017408 : UInt64))])) (fun _ k_ => XS.iload X1.here hx rfl (Jvm.hb hby d12_20) rfl k_) ?_
      refine own_go (t' := T1.setTop (mkF m 23 #[.val (.ref t), .val (.double (4607182418800017408 : UInt64)), .second, .val (.int (Int32.ofNat k)), .val (.double (4607182418800017408 : UInt64)), .second, .val (.int (Int32.ofNat i))] [(.int ((4 : Int32) + (Int32.ofNat i))), (.ref aF), (.int (0 : Int32)), (.double (4607182418800017408 : UInt64))])) (fun _ k_ => XS.iadd X1.here hx rfl (Jvm.hb hby d12_22) rfl k_) ?_
      rw [own_add4 i]
      refine own_go (t' := T1.setTop (mkF m 24 #[.val (.ref t), .val (.double (4607182418800017408 : UInt64)), .second, .val (.int (Int32.ofNat k)), .val (.double (4607182418800017408 : UInt64)), .second, .val (.int (Int32.ofNat i))] [(.long (lt0 i)), (.int (0 : Int32)), (.double (4607182418800017408 : UInt64))])) (own_ldJ X1 hx hZ e1 A (by decide) (show 4 + i < 8 by omega) (hF i (by omega)) (g := (mkF m 23 #[.val (.ref t), .val (.double (4607182418800017408 : UInt64)), .second, .val (.int (Int32.ofNat k)), .val (.double (4607182418800017408 : UInt64)), .second, .val (.int (Int32.ofNat i))] [(.int (Int32.ofNat (4 + i))), (.ref aF), (.int (0 : Int32)), (.double (4607182418800017408 : UInt64))])) rfl rfl (Jvm.hb hby d12_23)) ?_
      refine own_go (t' := T1.setTop (mkF m 25 #[.val (.ref t), .val (.double (4607182418800017408 : UInt64)), .second, .val (.int (Int32.ofNat k)), .val (.double (4607182418800017408 : UInt64)), .second, .val (.int (Int32.ofNat i))] [(.int (lt0 i).toInt32), (.int (0 : Int32)), (.double (4607182418800017408 : UInt64))])) (fun _ k_ => XS.l2i X1.here hx rfl (Jvm.hb hby d12_24) rfl k_) ?_
      rw [hl i hlt]
      obtain ⟨T2, L2, v2, X2, hQ2, st2⟩ := own_static X1 hx hZ hown (hw _ (List.mem_of_getElem? (i := 96) rfl)) (hw _ (List.mem_of_getElem? (i := 97) rfl)) (hw _ (List.mem_of_getElem? (i := 98) rfl)) (hw _ (List.mem_of_getElem? (i := 99) rfl)) (by decide) (rm_max l Z a0 hw [] _ _ h0 n0 Z0 (by decide)) e1 (g := (mkF m 25 #[.val (.ref t), .val (.double (4607182418800017408 : UInt64)), .second, .val (.int (Int32.ofNat k)), .val (.double (4607182418800017408 : UInt64)), .second, .val (.int (Int32.ofNat i))] [(.int (-1 : Int32)), (.int (0 : Int32)), (.double (4607182418800017408 : UInt64))])) rfl (by rw [hml]; rfl) (argsL := [(.int (0 : Int32)), (.int (-1 : Int32))]) (rest := [(.double (4607182418800017408 : UInt64))]) (lenOf pd_d13 rfl) rfl (W := 2) (by show 2 * 0 + _ ≤ _; exact Nat.le_of_eq rfl) (Jvm.hb hby d12_25) (by decide) (by decide) (by decide) (by decide)
      obtain ⟨rfl, Nq2, e2⟩ := hQ2
      have N2 := Fr.app Nj Nq2
      refine own_go (t' := T2.setTop (mkF m 28 #[.val (.ref t), .val (.double (4607182418800017408 : UInt64)), .second, .val (.int (Int32.ofNat k)), .val (.double (4607182418800017408 : UInt64)), .second, .val (.int (Int32.ofNat i))] [(.int (0 : Int32)), (.double (4607182418800017408 : UInt64))])) st2 ?_
      refine own_go (t' := T2.setTop (mkF m 29 #[.val (.ref t), .val (.double (4607182418800017408 : UInt64)), .second, .val (.int (Int32.ofNat k)), .val (.double (4607182418800017408 : UInt64)), .second, .val (.int (Int32.ofNat i))] [(.double (FP.i2d (0 : Int32))), (.double (4607182418800017408 : UInt64))])) (fun _ k_ => XS.i2dS X2.here hx rfl (Jvm.hb hby d12_28) rfl rfl k_) ?_
      refine own_go (t' := T2.setTop (mkF m 30 #[.val (.ref t), .val (.double (4607182418800017408 : UInt64)), .second, .val (.int (Int32.ofNat k)), .val (.double (4607182418800017408 : UInt64)), .second, .val (.int (Int32.ofNat i))] [(.double (FP.dadd (4607182418800017408 : UInt64) (FP.i2d (0 : Int32))))])) (fun _ k_ => XS.daddS X2.here hx rfl (Jvm.hb hby d12_29) rfl (by unfold Jvm.Free.Fl.NoNaN64; decide +kernel) rfl k_) ?_
      rw [show FP.dadd (4607182418800017408 : UInt64) (FP.i2d (0 : Int32)) = (4607182418800017408 : UInt64) from by decide +kernel]
      refine own_go (t' := T2.setTop (mkF m 32 #[.val (.ref t), .val (.double (4607182418800017408 : UInt64)), .second, .val (.int (Int32.ofNat k)), .val (.double (4607182418800017408 : UInt64)), .second, .val (.int (Int32.ofNat i))] [])) (fun _ k_ => XS.dstore X2.here hx rfl (Jvm.hb hby d12_30) rfl (l' := #[.val (.ref t), .val (.double (4607182418800017408 : UInt64)), .second, .val (.int (Int32.ofNat k)), .val (.double (4607182418800017408 : UInt64)), .second, .val (.int (Int32.ofNat i))]) rfl k_) ?_
      refine own_go (t' := T2.setTop (mkF m 35 #[.val (.ref t), .val (.double (4607182418800017408 : UInt64)), .second, .val (.int (Int32.ofNat k)), .val (.double (4607182418800017408 : UInt64)), .second, .val (.int ((Int32.ofNat i) + (1 : Int32)))] [])) (fun _ k_ => XS.iinc X2.here hx rfl (Jvm.hb hby d12_32) rfl (l' := #[.val (.ref t), .val (.double (4607182418800017408 : UInt64)), .second, .val (.int (Int32.ofNat k)), .val (.double (4607182418800017408 : UInt64)), .second, .val (.int ((Int32.ofNat i) + (1 : Int32)))]) rfl k_) ?_
      refine own_go (t' := T2.setTop (mkF m 6 #[.val (.ref t), .val (.double (4607182418800017408 : UInt64)), .second, .val (.int (Int32.ofNat k)), .val (.double (4607182418800017408 : UInt64)), .second, .val (.int ((Int32.ofNat i) + (1 : Int32)))] [])) (fun _ k_ => XS.goto X2.here hx rfl (pc0 := 35) (pc' := 6) rfl (Jvm.hb hby d12_35) (by decide) (by decide) k_) ?_
      rw [own_succ i]
      exact ih (i + 1) (by omega) _ _ X2 e2 N2
  exact loop k 0 (by omega) _ _ X0 e0 N0
theorem ef_rm_canon (m : MethodId) (x0 : Addr) (x1 : Addr) : entryFrame m #[(.ref x0), (.ref x1)] 7 = mkF m 0 #[.val (.ref x0), .val (.ref x1), .unset, .unset, .unset, .unset, .unset] [] := by first | (simp [entryFrame, mkF, argsToLocals, Value.category]; done) | rfl
set_option maxRecDepth 65536 in
set_option maxHeartbeats 40000000 in
theorem rm_canon (l : Launch) (Z : State) (a0 : Array Value) (hw : ∀ d ∈ tables_1, d.before a0 Z = true) (ws : List Jvm.Cond) (t aR aO aS aF aA aC b aa ac sz us k : Nat) (gr : Int64) (sq : Int32) (fF fA fC ga gc : Nat → Value) (at0 : Nat → Int32) (h0 : Heap) (n0 : Nat) (Z0 : n0 ≤ h0.size) (TV : own_TV Z h0 t (.ref aR) (.ref aO) (.ref aS) (.ref aF) (.ref aA) (.ref aC) (.long (9223372036854775807 : Int64)) (.int (Int32.ofNat sz)) (.int (Int32.ofNat us)) (.long gr)) (BV : own_BV Z h0 b (.double (4607182418800017408 : UInt64)) (.int sq) (.double (4607182418800017408 : UInt64)) (.ref aa) (.ref ac) (.int (Int32.ofNat k))) (AF : own_Ar Z h0 aF .long 8 fF) (AA : own_Ar Z h0 aA .int 4 fA) (AC : own_Ar Z h0 aC .int 4 fC) (Ba : own_Ar Z h0 aa .int 4 ga) (Bc : own_Ar Z h0 ac .double 4 gc) (ho : t < aR ∧ aR < aO ∧ aO < aS ∧ aS < aF ∧ aF < aA ∧ aA < aC ∧ aC < b ∧ b < aa ∧ aa < ac) (gt : n0 ≤ t) (hk : k ≤ 3) (hga : ∀ j, j < k → ga j = .int (at0 j)) (hgc : ∀ j, j < k → gc j = .double (13830554455654793216 : UInt64)) (asc : ∀ j, j < k → j + 1 < k → at0 j < at0 (j + 1)) :
    own_Ctr l Z (⟨"com/example/brisk_rules/briskrules/GroundRuleTable", "canonical", "(Lcom/example/brisk_rules/briskrules/GroundRule$Builder;)I"⟩ : MethodName) prog_11_method_22_code 7 (some .int) ws ({ frames := 1, cells := 0, slots := 0, locals := 18 } : Room) #[(.ref t), (.ref b)] h0 (fun v h L => v = some (.int (Int32.ofNat k)) ∧ Fr n0 L ∧ Keep h0 h [aF, aA, aC] ∧ ∃ fA' fC' fF' : Nat → Value, own_Ar Z h aA .int 4 fA' ∧ own_Ar Z h aC .int 4 fC' ∧ own_Ar Z h aF .long 8 fF' ∧ ∀ j, j < k → fF' (4 + j) = .long (own_lit (at0 j))) := by
  refine own_enter (plainFor_of_name pn_d7) ?_
  intro p e s m below meth c s₁ Bd hZ hml X0 e0
  have hx := Bd.exec
  have hby := Bd.bytes
  have hown : s.vm.findClass "com/example/brisk_rules/briskrules/GroundRuleTable" = some m.cls := findClass_of_methodNamed Bd.named
  have hnm := (name_of_methodNamed Bd.named Bd.method).1
  have N0 := Fr.nil n0
  refine own_go (t' := s₁.setTop (mkF m 0 #[.val (.ref t), .val (.ref b), .unset, .unset, .unset, .unset, .unset] [])) (fun _ k_ => castTop (ef_rm_canon m t b) k_) ?_
  have gA : n0 ≤ aA := by omega
  have gC : n0 ≤ aC := by omega
  have gF : n0 ≤ aF := by omega
  refine own_go (t' := s₁.setTop (mkF m 1 #[.val (.ref t), .val (.ref b), .unset, .unset, .unset, .unset, .unset] [(.ref t)])) (fun _ k_ => XS.aloadN X0.here hx rfl (Jvm.hb hby d7_0) rfl rfl k_) ?_
  obtain ⟨T1, X1, e1, st1⟩ := getF X0 hx hZ hown (host := "") (Or.inl (hw _ (List.mem_of_getElem? (i := 20) rfl))) Via.refl e0 (TV.2.2.2.2.2.1) (g := (mkF m 1 #[.val (.ref t), .val (.ref b), .unset, .unset, .unset, .unset, .unset] [(.ref t)])) rfl rfl (Jvm.hb hby d7_1)
  refine own_go (t' := T1.setTop (mkF m 4 #[.val (.ref t), .val (.ref b), .unset, .unset, .unset, .unset, .unset] [(.ref aA)])) st1 ?_
  refine own_go (t' := T1.setTop (mkF m 5 #[.val (.ref t), .val (.ref b), .unset, .unset, .unset, .unset, .unset] [(.int (Int32.ofNat 4))])) (own_alen X1 hx hZ e1 AA (g := (mkF m 4 #[.val (.ref t), .val (.ref b), .unset, .unset, .unset, .unset, .unset] [(.ref aA)])) rfl rfl (Jvm.hb hby d7_4)) ?_
  refine own_go (t' := T1.setTop (mkF m 6 #[.val (.ref t), .val (.ref b), .unset, .unset, .unset, .unset, .unset] [(.ref b), (.int (Int32.ofNat 4))])) (fun _ k_ => XS.aloadN X1.here hx rfl (Jvm.hb hby d7_5) rfl rfl k_) ?_
  obtain ⟨T2, L2, v2, X2, hQ2, st2⟩ := own_virtual X1 hx hZ (y := (⟨"com/example/brisk_rules/briskrules/GroundRule$Builder", "size", "()I"⟩ : MethodName)) hown (hw _ (List.mem_of_getElem? (i := 67) rfl)) (hw _ (List.mem_of_getElem? (i := 68) rfl)) (hw _ (List.mem_of_getElem? (i := 70) rfl)) (hw _ (List.mem_of_getElem? (i := 69) rfl)) (hw _ (List.mem_of_getElem? (i := 71) rfl)) (hw _ (List.mem_of_getElem? (i := 28) rfl)) (by decide) BV.1 (rm_bsize l Z a0 hw [] b _ h0 n0 Z0 (BV.2.2.2.2.2.2)) e1 (g := (mkF m 6 #[.val (.ref t), .val (.ref b), .unset, .unset, .unset, .unset, .unset] [(.ref b), (.int (Int32.ofNat 4))])) rfl (by rw [hml]; rfl) (argsL := []) (rest := [(.int (Int32.ofNat 4))]) (lenOf pd_d8 rfl) rfl (W := 1) (by show 2 * 0 + _ ≤ _; exact Nat.le_of_eq rfl) (Jvm.hb hby d7_6) (by decide) (by decide) (by decide) (by decide)
  obtain ⟨rfl, Nq2, e2⟩ := hQ2
  have N2 := Fr.app N0 Nq2
  refine own_go (t' := T2.setTop (mkF m 9 #[.val (.ref t), .val (.ref b), .unset, .unset, .unset, .unset, .unset] [(.int (Int32.ofNat k)), (.int (Int32.ofNat 4))])) st2 ?_
  refine own_go (t' := T2.setTop (mkF m 44 #[.val (.ref t), .val (.ref b), .unset, .unset, .unset, .unset, .unset] [])) (fun _ k_ => XS.icmpYes X2.here hx rfl (pc0 := 9) (pc' := 44) rfl (Jvm.hb hby d7_9) rfl (flt (own_nlt (by omega) (by omega) (by omega))).2.1 (by decide) (by decide) k_) ?_
  refine own_go (t' := T2.setTop (mkF m 45 #[.val (.ref t), .val (.ref b), .unset, .unset, .unset, .unset, .unset] [(.int (0 : Int32))])) (fun _ k_ => XS.iconst X2.here hx rfl (Jvm.hb hby d7_44) k_) ?_
  refine own_go (t' := T2.setTop (mkF m 46 #[.val (.ref t), .val (.ref b), .val (.int (0 : Int32)), .unset, .unset, .unset, .unset] [])) (fun _ k_ => XS.istoreN X2.here hx rfl (Jvm.hb hby d7_45) rfl (l' := #[.val (.ref t), .val (.ref b), .val (.int (0 : Int32)), .unset, .unset, .unset, .unset]) rfl k_) ?_
  refine own_go (t' := T2.setTop (mkF m 47 #[.val (.ref t), .val (.ref b), .val (.int (0 : Int32)), .unset, .unset, .unset, .unset] [(.int (0 : Int32))])) (fun _ k_ => XS.iconst X2.here hx rfl (Jvm.hb hby d7_46) k_) ?_
  refine own_go (t' := T2.setTop (mkF m 48 #[.val (.ref t), .val (.ref b), .val (.int (0 : Int32)), .val (.int (0 : Int32)), .unset, .unset, .unset] [])) (fun _ k_ => XS.istoreN X2.here hx rfl (Jvm.hb hby d7_47) rfl (l' := #[.val (.ref t), .val (.ref b), .val (.int (0 : Int32)), .val (.int (0 : Int32)), .unset, .unset, .unset]) rfl k_) ?_
  have loop2 : ∀ d i : Nat, i + d = k → ∀ (Tj : State) (lj : List Loc) (hj : Heap) (fA fC fF : Nat → Value) (sl4 sl5 sl6 : Slot), Stand p l e ({ frames := 1, cells := 0, slots := 0, locals := 18 } : Room) s m #[(.ref t), (.ref b)] below meth c Tj lj 0 0 → Tj.heap = hj → Fr n0 lj → Keep h0 hj [aF, aA, aC] → own_Ar Z hj aA .int 4 fA → own_Ar Z hj aC .int 4 fC → own_Ar Z hj aF .long 8 fF → (∀ j, j < k → fA j = .int (at0 j)) → (∀ j, j < k → fC j = .int (-1)) → (∀ j, j < i → fF (4 + j) = .long (own_lit (at0 j))) → own_Ends p.tables e below (own_F s (fun v h L => v = some (.int (Int32.ofNat k)) ∧ Fr n0 L ∧ Keep h0 h [aF, aA, aC] ∧ ∃ fA' fC' fF' : Nat → Value, own_Ar Z h aA .int 4 fA' ∧ own_Ar Z h aC .int 4 fC' ∧ own_Ar Z h aF .long 8 fF' ∧ ∀ j, j < k → fF' (4 + j) = .long (own_lit (at0 j))) ({ frames := 1, cells := 0, slots := 0, locals := 18 } : Room).cells ({ frames := 1, cells := 0, slots := 0, locals := 18 } : Room).slots) (Tj.setTop (mkF m 206 #[.val (.ref t), .val (.ref b), .val (.int (Int32.ofNat k)), .val (.int (Int32.ofNat i)), sl4, sl5, sl6] [])) := by
    intro d
    induction d with
    | zero =>
      intro i hid Tj lj hj fA fC fF sl4 sl5 sl6 Xj ej Nj Kj AAj ACj AFj qA qC qF
      have TVj := own_TV_keep TV Kj (own_nin3 (by omega))
      refine own_go (t' := Tj.setTop (mkF m 207 #[.val (.ref t), .val (.ref b), .val (.int (Int32.ofNat k)), .val (.int (Int32.ofNat i)), sl4, sl5, sl6] [(.int (Int32.ofNat i))])) (fun _ k_ => XS.iloadN Xj.here hx rfl (Jvm.hb hby d7_206) rfl k_) ?_
      refine own_go (t' := Tj.setTop (mkF m 208 #[.val (.ref t), .val (.ref b), .val (.int (Int32.ofNat k)), .val (.int (Int32.ofNat i)), sl4, sl5, sl6] [(.int (Int32.ofNat k)), (.int (Int32.ofNat i))])) (fun _ k_ => XS.iloadN Xj.here hx rfl (Jvm.hb hby d7_207) rfl k_) ?_
      refine own_go (t' := Tj.setTop (mkF m 247 #[.val (.ref t), .val (.ref b), .val (.int (Int32.ofNat k)), .val (.int (Int32.ofNat i)), sl4, sl5, sl6] [])) (fun _ k_ => XS.icmpYes Xj.here hx rfl (pc0 := 208) (pc' := 247) rfl (Jvm.hb hby d7_208) rfl (flt (own_nlt (by omega) (by omega) (by omega))).2.1 (by decide) (by decide) k_) ?_
      refine own_go (t' := Tj.setTop (mkF m 248 #[.val (.ref t), .val (.ref b), .val (.int (Int32.ofNat k)), .val (.int (Int32.ofNat i)), sl4, sl5, sl6] [(.int (Int32.ofNat k))])) (fun _ k_ => XS.iloadN Xj.here hx rfl (Jvm.hb hby d7_247) rfl k_) ?_
      exact own_retI Xj hx Bd.returns (BodyLoose.notSynchronized Bd) (Jvm.hb hby d7_248) (by decide) (by decide) ⟨rfl, Nj, by rw [ej]; exact Kj, fA, fC, fF, by rw [ej]; exact AAj, by rw [ej]; exact ACj, by rw [ej]; exact AFj, fun j hj0 => qF j (by omega)⟩
    | succ d ih =>
      intro i hid Tj lj hj fA fC fF sl4 sl5 sl6 Xj ej Nj Kj AAj ACj AFj qA qC qF
      have TVj := own_TV_keep TV Kj (own_nin3 (by omega))
      refine own_go (t' := Tj.setTop (mkF m 207 #[.val (.ref t), .val (.ref b), .val (.int (Int32.ofNat k)), .val (.int (Int32.ofNat i)), sl4, sl5, sl6] [(.int (Int32.ofNat i))])) (fun _ k_ => XS.iloadN Xj.here hx rfl (Jvm.hb hby d7_206) rfl k_) ?_
      refine own_go (t' := Tj.setTop (mkF m 208 #[.val (.ref t), .val (.ref b), .val (.int (Int32.ofNat k)), .val (.int (Int32.ofNat i)), sl4, sl5, sl6] [(.int (Int32.ofNat k)), (.int (Int32.ofNat i))])) (fun _ k_ => XS.iloadN Xj.here hx rfl (Jvm.hb hby d7_207) rfl k_) ?_
      have hlt : i < k := by omega
      refine own_go (t' := Tj.setTop (mkF m 211 #[.val (.ref t), .val (.ref b), .val (.int (Int32.ofNat k)), .val (.int (Int32.ofNat i)), sl4, sl5, sl6] [])) (fun _ k_ => XS.icmpNo Xj.here hx rfl (Jvm.hb hby d7_208) rfl (tlt ((own_ilt (by omega) (by omega)).mpr hlt)).2.1 k_) ?_
      refine own_go (t' := Tj.setTop (mkF m 212 #[.val (.ref t), .val (.ref b), .val (.int (Int32.ofNat k)), .val (.int (Int32.ofNat i)), sl4, sl5, sl6] [(.ref t)])) (fun _ k_ => XS.aloadN Xj.here hx rfl (Jvm.hb hby d7_211) rfl rfl k_) ?_
      obtain ⟨T3, X3, e3, st3⟩ := getF Xj hx hZ hown (host := "") (Or.inl (hw _ (List.mem_of_getElem? (i := 18) rfl))) Via.refl ej (TVj.2.2.2.2.1) (g := (mkF m 212 #[.val (.ref t), .val (.ref b), .val (.int (Int32.ofNat k)), .val (.int (Int32.ofNat i)), sl4, sl5, sl6] [(.ref t)])) rfl rfl (Jvm.hb hby d7_212)
      refine own_go (t' := T3.setTop (mkF m 215 #[.val (.ref t), .val (.ref b), .val (.int (Int32.ofNat k)), .val (.int (Int32.ofNat i)), sl4, sl5, sl6] [(.ref aF)])) st3 ?_
      refine own_go (t' := T3.setTop (mkF m 216 #[.val (.ref t), .val (.ref b), .val (.int (Int32.ofNat k)), .val (.int (Int32.ofNat i)), sl4, sl5, sl6] [(.int (4 : Int32)), (.ref aF)])) (fun _ k_ => XS.iconst X3.here hx rfl (Jvm.hb hby d7_215) k_) ?_
      refine own_go (t' := T3.setTop (mkF m 217 #[.val (.ref t), .val (.ref b), .val (.int (Int32.ofNat k)), .val (.int (Int32.ofNat i)), sl4, sl5, sl6] [(.int (Int32.ofNat i)), (.int (4 : Int32)), (.ref aF)])) (fun _ k_ => XS.iloadN X3.here hx rfl (Jvm.hb hby d7_216) rfl k_) ?_
      refine own_go (t' := T3.setTop (mkF m 218 #[.val (.ref t), .val (.ref b), .val (.int (Int32.ofNat k)), .val (.int (Int32.ofNat i)), sl4, sl5, sl6] [(.int ((4 : Int32) + (Int32.ofNat i))), (.ref aF)])) (fun _ k_ => XS.iadd X3.here hx rfl (Jvm.hb hby d7_217) rfl k_) ?_
      rw [own_add4 i]
      refine own_go (t' := T3.setTop (mkF m 219 #[.val (.ref t), .val (.ref b), .val (.int (Int32.ofNat k)), .val (.int (Int32.ofNat i)), sl4, sl5, sl6] [(.ref t), (.int (Int32.ofNat (4 + i))), (.ref aF)])) (fun _ k_ => XS.aloadN X3.here hx rfl (Jvm.hb hby d7_218) rfl rfl k_) ?_
      obtain ⟨T4, X4, e4, st4⟩ := getF X3 hx hZ hown (host := "") (Or.inl (hw _ (List.mem_of_getElem? (i := 20) rfl))) Via.refl e3 (TVj.2.2.2.2.2.1) (g := (mkF m 219 #[.val (.ref t), .val (.ref b), .val (.int (Int32.ofNat k)), .val (.int (Int32.ofNat i)), sl4, sl5, sl6] [(.ref t), (.int (Int32.ofNat (4 + i))), (.ref aF)])) rfl rfl (Jvm.hb hby d7_219)
      refine own_go (t' := T4.setTop (mkF m 222 #[.val (.ref t), .val (.ref b), .val (.int (Int32.ofNat k)), .val (.int (Int32.ofNat i)), sl4, sl5, sl6] [(.ref aA), (.int (Int32.ofNat (4 + i))), (.ref aF)])) st4 ?_
      refine own_go (t' := T4.setTop (mkF m 223 #[.val (.ref t), .val (.ref b), .val (.int (Int32.ofNat k)), .val (.int (Int32.ofNat i)), sl4, sl5, sl6] [(.int (Int32.ofNat i)), (.ref aA), (.int (Int32.ofNat (4 + i))), (.ref aF)])) (fun _ k_ => XS.iloadN X4.here hx rfl (Jvm.hb hby d7_222) rfl k_) ?_
      refine own_go (t' := T4.setTop (mkF m 224 #[.val (.ref t), .val (.ref b), .val (.int (Int32.ofNat k)), .val (.int (Int32.ofNat i)), sl4, sl5, sl6] [(.int (at0 i)), (.int (Int32.ofNat (4 + i))), (.ref aF)])) (own_ldI X4 hx hZ e4 AAj (by decide) (show i < 4 by omega) (qA i hlt) (g := (mkF m 223 #[.val (.ref t), .val (.ref b), .val (.int (Int32.ofNat k)), .val (.int (Int32.ofNat i)), sl4, sl5, sl6] [(.int (Int32.ofNat i)), (.ref aA), (.int (Int32.ofNat (4 + i))), (.ref aF)])) rfl rfl (Jvm.hb hby d7_223)) ?_
      refine own_go (t' := T4.setTop (mkF m 225 #[.val (.ref t), .val (.ref b), .val (.int (Int32.ofNat k)), .val (.int (Int32.ofNat i)), sl4, sl5, sl6] [(.long (at0 i).toInt64), (.int (Int32.ofNat (4 + i))), (.ref aF)])) (fun _ k_ => XS.i2l X4.here hx rfl (Jvm.hb hby d7_224) rfl k_) ?_
      refine own_go (t' := T4.setTop (mkF m 227 #[.val (.ref t), .val (.ref b), .val (.int (Int32.ofNat k)), .val (.int (Int32.ofNat i)), sl4, sl5, sl6] [(.int (32 : Int32)), (.long (at0 i).toInt64), (.int (Int32.ofNat (4 + i))), (.ref aF)])) (fun _ k_ => XS.bipush X4.here hx rfl (Jvm.hb hby d7_225) k_) ?_
      refine own_go (t' := T4.setTop (mkF m 228 #[.val (.ref t), .val (.ref b), .val (.int (Int32.ofNat k)), .val (.int (Int32.ofNat i)), sl4, sl5, sl6] [(.long ((at0 i).toInt64 <<< ((32 : Int32) &&& 0x3f).toInt64)), (.int (Int32.ofNat (4 + i))), (.ref aF)])) (fun _ k_ => XS.lshl X4.here hx rfl (Jvm.hb hby d7_227) rfl k_) ?_
      refine own_go (t' := T4.setTop (mkF m 229 #[.val (.ref t), .val (.ref b), .val (.int (Int32.ofNat k)), .val (.int (Int32.ofNat i)), sl4, sl5, sl6] [(.ref t), (.long ((at0 i).toInt64 <<< ((32 : Int32) &&& 0x3f).toInt64)), (.int (Int32.ofNat (4 + i))), (.ref aF)])) (fun _ k_ => XS.aloadN X4.here hx rfl (Jvm.hb hby d7_228) rfl rfl k_) ?_
      obtain ⟨T5, X5, e5, st5⟩ := getF X4 hx hZ hown (host := "") (Or.inl (hw _ (List.mem_of_getElem? (i := 22) rfl))) Via.refl e4 (TVj.2.2.2.2.2.2.1) (g := (mkF m 229 #[.val (.ref t), .val (.ref b), .val (.int (Int32.ofNat k)), .val (.int (Int32.ofNat i)), sl4, sl5, sl6] [(.ref t), (.long ((at0 i).toInt64 <<< ((32 : Int32) &&& 0x3f).toInt64)), (.int (Int32.ofNat (4 + i))), (.ref aF)])) rfl rfl (Jvm.hb hby d7_229)
      refine own_go (t' := T5.setTop (mkF m 232 #[.val (.ref t), .val (.ref b), .val (.int (Int32.ofNat k)), .val (.int (Int32.ofNat i)), sl4, sl5, sl6] [(.ref aC), (.long ((at0 i).toInt64 <<< ((32 : Int32) &&& 0x3f).toInt64)), (.int (Int32.ofNat (4 + i))), (.ref aF)])) st5 ?_
      refine own_go (t' := T5.setTop (mkF m 233 #[.val (.ref t), .val (.ref b), .val (.int (Int32.ofNat k)), .val (.int (Int32.ofNat i)), sl4, sl5, sl6] [(.int (Int32.ofNat i)), (.ref aC), (.long ((at0 i).toInt64 <<< ((32 : Int32) &&& 0x3f).toInt64)), (.int (Int32.ofNat (4 + i))), (.ref aF)])) (fun _ k_ => XS.iloadN X5.here hx rfl (Jvm.hb hby d7_232) rfl k_) ?_
      refine own_go (t' := T5.setTop (mkF m 234 #[.val (.ref t), .val (.ref b), .val (.int (Int32.ofNat k)), .val (.int (Int32.ofNat i)), sl4, sl5, sl6] [(.int (-1 : Int32)), (.long ((at0 i).toInt64 <<< ((32 : Int32) &&& 0x3f).toInt64)), (.int (Int32.ofNat (4 + i))), (.ref aF)])) (own_ldI X5 hx hZ e5 ACj (by decide) (show i < 4 by omega) (qC i hlt) (g := (mkF m 233 #[.val (.ref t), .val (.ref b), .val (.int (Int32.ofNat k)), .val (.int (Int32.ofNat i)), sl4, sl5, sl6] [(.int (Int32.ofNat i)), (.ref aC), (.long ((at0 i).toInt64 <<< ((32 : Int32) &&& 0x3f).toInt64)), (.int (Int32.ofNat (4 + i))), (.ref aF)])) rfl rfl (Jvm.hb hby d7_233)) ?_
      refine own_go (t' := T5.setTop (mkF m 235 #[.val (.ref t), .val (.ref b), .val (.int (Int32.ofNat k)), .val (.int (Int32.ofNat i)), sl4, sl5, sl6] [(.long (-1 : Int32).toInt64), (.long ((at0 i).toInt64 <<< ((32 : Int32) &&& 0x3f).toInt64)), (.int (Int32.ofNat (4 + i))), (.ref aF)])) (fun _ k_ => XS.i2l X5.here hx rfl (Jvm.hb hby d7_234) rfl k_) ?_
      refine own_go (t' := T5.setTop (mkF m 238 #[.val (.ref t), .val (.ref b), .val (.int (Int32.ofNat k)), .val (.int (Int32.ofNat i)), sl4, sl5, sl6] [(.long (4294967295 : Int64)), (.long (-1 : Int32).toInt64), (.long ((at0 i).toInt64 <<< ((32 : Int32) &&& 0x3f).toInt64)), (.int (Int32.ofNat (4 + i))), (.ref aF)])) (fun _ k_ => X5.ldc2J (own := "com/example/brisk_rules/briskrules/GroundRuleTable") (index := 168) (v := (4294967295 : Int64)) hx hown (mvT hZ (hw _ (List.mem_of_getElem? (i := 86) rfl))) rfl (Jvm.hb hby d7_235) k_) ?_
      refine own_go (t' := T5.setTop (mkF m 239 #[.val (.ref t), .val (.ref b), .val (.int (Int32.ofNat k)), .val (.int (Int32.ofNat i)), sl4, sl5, sl6] [(.long ((-1 : Int32).toInt64 &&& (4294967295 : Int64))), (.long ((at0 i).toInt64 <<< ((32 : Int32) &&& 0x3f).toInt64)), (.int (Int32.ofNat (4 + i))), (.ref aF)])) (fun _ k_ => XS.land X5.here hx rfl (Jvm.hb hby d7_238) rfl k_) ?_
      refine own_go (t' := T5.setTop (mkF m 240 #[.val (.ref t), .val (.ref b), .val (.int (Int32.ofNat k)), .val (.int (Int32.ofNat i)), sl4, sl5, sl6] [(.long (((at0 i).toInt64 <<< ((32 : Int32) &&& 0x3f).toInt64) ||| ((-1 : Int32).toInt64 &&& (4294967295 : Int64)))), (.int (Int32.ofNat (4 + i))), (.ref aF)])) (fun _ k_ => XS.lor X5.here hx rfl (Jvm.hb hby d7_239) rfl k_) ?_
      obtain ⟨T6, h6, X6, e6, W6, A6, st6⟩ := own_stJ X5 hx hZ e5 AFj (by decide) (show 4 + i < 8 by omega) (g := (mkF m 240 #[.val (.ref t), .val (.ref b), .val (.int (Int32.ofNat k)), .val (.int (Int32.ofNat i)), sl4, sl5, sl6] [(.long (((at0 i).toInt64 <<< ((32 : Int32) &&& 0x3f).toInt64) ||| ((-1 : Int32).toInt64 &&& (4294967295 : Int64)))), (.int (Int32.ofNat (4 + i))), (.ref aF)])) rfl rfl (Jvm.hb hby d7_240)
      refine own_go (t' := T6.setTop (mkF m 241 #[.val (.ref t), .val (.ref b), .val (.int (Int32.ofNat k)), .val (.int (Int32.ofNat i)), sl4, sl5, sl6] [])) st6 ?_
      have N6 := Fr.snoc X6 Nj gF
      refine own_go (t' := T6.setTop (mkF m 244 #[.val (.ref t), .val (.ref b), .val (.int (Int32.ofNat k)), .val (.int ((Int32.ofNat i) + (1 : Int32))), sl4, sl5, sl6] [])) (fun _ k_ => XS.iinc X6.here hx rfl (Jvm.hb hby d7_241) rfl (l' := #[.val (.ref t), .val (.ref b), .val (.int (Int32.ofNat k)), .val (.int ((Int32.ofNat i) + (1 : Int32))), sl4, sl5, sl6]) rfl k_) ?_
      refine own_go (t' := T6.setTop (mkF m 206 #[.val (.ref t), .val (.ref b), .val (.int (Int32.ofNat k)), .val (.int ((Int32.ofNat i) + (1 : Int32))), sl4, sl5, sl6] [])) (fun _ k_ => XS.goto X6.here hx rfl (pc0 := 244) (pc' := 206) rfl (Jvm.hb hby d7_244) (by decide) (by decide) k_) ?_
      rw [own_succ i]
      refine ih (i + 1) (by omega) _ _ _ fA fC _ sl4 sl5 sl6 X6 e6 N6 (Kj.wr W6 (Or.inl (by simp))) (own_Ar_oth W6 (by omega) AAj) (own_Ar_oth W6 (by omega) ACj) A6 qA qC ?_
      intro j hj0
      unfold own_upd
      by_cases q : j = i
      · subst q; rw [if_pos rfl]; rfl
      · rw [if_neg (by omega)]; exact qF j (by omega)
  have loop1 : ∀ d i : Nat, i + d = k → ∀ (Tj : State) (lj : List Loc) (hj : Heap) (fA fC fF : Nat → Value) (sl4 sl5 sl6 : Slot), Stand p l e ({ frames := 1, cells := 0, slots := 0, locals := 18 } : Room) s m #[(.ref t), (.ref b)] below meth c Tj lj 0 0 → Tj.heap = hj → Fr n0 lj → Keep h0 hj [aF, aA, aC] → own_Ar Z hj aA .int 4 fA → own_Ar Z hj aC .int 4 fC → own_Ar Z hj aF .long 8 fF → own_pl sl4 → own_pl sl5 → own_pl sl6 → (∀ j, j < i → fA j = .int (at0 j)) → (∀ j, j < i → fC j = .int (-1)) → own_Ends p.tables e below (own_F s (fun v h L => v = some (.int (Int32.ofNat k)) ∧ Fr n0 L ∧ Keep h0 h [aF, aA, aC] ∧ ∃ fA' fC' fF' : Nat → Value, own_Ar Z h aA .int 4 fA' ∧ own_Ar Z h aC .int 4 fC' ∧ own_Ar Z h aF .long 8 fF' ∧ ∀ j, j < k → fF' (4 + j) = .long (own_lit (at0 j))) ({ frames := 1, cells := 0, slots := 0, locals := 18 } : Room).cells ({ frames := 1, cells := 0, slots := 0, locals := 18 } : Room).slots) (Tj.setTop (mkF m 48 #[.val (.ref t), .val (.ref b), .val (.int (Int32.ofNat i)), .val (.int (Int32.ofNat i)), sl4, sl5, sl6] [])) := by
    intro d
    induction d with
    | zero =>
      intro i hid Tj lj hj fA fC fF sl4 sl5 sl6 Xj ej Nj Kj AAj ACj AFj hs4 hs5 hs6 qA qC
      have TVj := own_TV_keep TV Kj (own_nin3 (by omega))
      have BVj := own_BV_keep BV Kj (own_nin3 (by omega))
      have Zj : n0 ≤ hj.size := Nat.le_trans Z0 Kj.1
      have Baj := own_Ar_keep Kj (own_nin3 (by omega)) Ba
      have Bcj := own_Ar_keep Kj (own_nin3 (by omega)) Bc
      refine own_go (t' := Tj.setTop (mkF m 49 #[.val (.ref t), .val (.ref b), .val (.int (Int32.ofNat i)), .val (.int (Int32.ofNat i)), sl4, sl5, sl6] [(.int (Int32.ofNat i))])) (fun _ k_ => XS.iloadN Xj.here hx rfl (Jvm.hb hby d7_48) rfl k_) ?_
      refine own_go (t' := Tj.setTop (mkF m 50 #[.val (.ref t), .val (.ref b), .val (.int (Int32.ofNat i)), .val (.int (Int32.ofNat i)), sl4, sl5, sl6] [(.ref b), (.int (Int32.ofNat i))])) (fun _ k_ => XS.aloadN Xj.here hx rfl (Jvm.hb hby d7_49) rfl rfl k_) ?_
      obtain ⟨T7, L7, v7, X7, hQ7, st7⟩ := own_virtual Xj hx hZ (y := (⟨"com/example/brisk_rules/briskrules/GroundRule$Builder", "size", "()I"⟩ : MethodName)) hown (hw _ (List.mem_of_getElem? (i := 67) rfl)) (hw _ (List.mem_of_getElem? (i := 68) rfl)) (hw _ (List.mem_of_getElem? (i := 70) rfl)) (hw _ (List.mem_of_getElem? (i := 69) rfl)) (hw _ (List.mem_of_getElem? (i := 71) rfl)) (hw _ (List.mem_of_getElem? (i := 28) rfl)) (by decide) BVj.1 (rm_bsize l Z a0 hw [] b _ hj n0 Zj (BVj.2.2.2.2.2.2)) ej (g := (mkF m 50 #[.val (.ref t), .val (.ref b), .val (.int (Int32.ofNat i)), .val (.int (Int32.ofNat i)), sl4, sl5, sl6] [(.ref b), (.int (Int32.ofNat i))])) rfl (by rw [hml]; rfl) (argsL := []) (rest := [(.int (Int32.ofNat i))]) (lenOf pd_d8 rfl) rfl (W := 1) (by show 2 * 0 + _ ≤ _; exact Nat.le_of_eq rfl) (Jvm.hb hby d7_50) (by decide) (by decide) (by decide) (by decide)
      obtain ⟨rfl, Nq7, e7⟩ := hQ7
      have N7 := Fr.app Nj Nq7
      refine own_go (t' := T7.setTop (mkF m 53 #[.val (.ref t), .val (.ref b), .val (.int (Int32.ofNat i)), .val (.int (Int32.ofNat i)), sl4, sl5, sl6] [(.int (Int32.ofNat k)), (.int (Int32.ofNat i))])) st7 ?_
      have hie : i = k := by omega
      subst hie
      refine own_go (t' := T7.setTop (mkF m 204 #[.val (.ref t), .val (.ref b), .val (.int (Int32.ofNat i)), .val (.int (Int32.ofNat i)), sl4, sl5, sl6] [])) (fun _ k_ => XS.icmpYes X7.here hx rfl (pc0 := 53) (pc' := 204) rfl (Jvm.hb hby d7_53) rfl (flt Int32.lt_irrefl).2.1 (by decide) (by decide) k_) ?_
      refine own_go (t' := T7.setTop (mkF m 205 #[.val (.ref t), .val (.ref b), .val (.int (Int32.ofNat i)), .val (.int (Int32.ofNat i)), sl4, sl5, sl6] [(.int (0 : Int32))])) (fun _ k_ => XS.iconst X7.here hx rfl (Jvm.hb hby d7_204) k_) ?_
      refine own_go (t' := T7.setTop (mkF m 206 #[.val (.ref t), .val (.ref b), .val (.int (Int32.ofNat i)), .val (.int (0 : Int32)), sl4, sl5, sl6] [])) (fun _ k_ => XS.istoreN X7.here hx rfl (Jvm.hb hby d7_205) rfl (l' := #[.val (.ref t), .val (.ref b), .val (.int (Int32.ofNat i)), .val (.int (0 : Int32)), sl4, sl5, sl6]) rfl k_) ?_
      exact loop2 i 0 (by omega) _ _ _ fA fC fF sl4 sl5 sl6 X7 e7 N7 Kj AAj ACj AFj qA qC (fun j hj0 => absurd hj0 (by omega))
    | succ d ih =>
      intro i hid Tj lj hj fA fC fF sl4 sl5 sl6 Xj ej Nj Kj AAj ACj AFj hs4 hs5 hs6 qA qC
      have TVj := own_TV_keep TV Kj (own_nin3 (by omega))
      have BVj := own_BV_keep BV Kj (own_nin3 (by omega))
      have Zj : n0 ≤ hj.size := Nat.le_trans Z0 Kj.1
      have Baj := own_Ar_keep Kj (own_nin3 (by omega)) Ba
      have Bcj := own_Ar_keep Kj (own_nin3 (by omega)) Bc
      refine own_go (t' := Tj.setTop (mkF m 49 #[.val (.ref t), .val (.ref b), .val (.int (Int32.ofNat i)), .val (.int (Int32.ofNat i)), sl4, sl5, sl6] [(.int (Int32.ofNat i))])) (fun _ k_ => XS.iloadN Xj.here hx rfl (Jvm.hb hby d7_48) rfl k_) ?_
      refine own_go (t' := Tj.setTop (mkF m 50 #[.val (.ref t), .val (.ref b), .val (.int (Int32.ofNat i)), .val (.int (Int32.ofNat i)), sl4, sl5, sl6] [(.ref b), (.int (Int32.ofNat i))])) (fun _ k_ => XS.aloadN Xj.here hx rfl (Jvm.hb hby d7_49) rfl rfl k_) ?_
      obtain ⟨T8, L8, v8, X8, hQ8, st8⟩ := own_virtual Xj hx hZ (y := (⟨"com/example/brisk_rules/briskrules/GroundRule$Builder", "size", "()I"⟩ : MethodName)) hown (hw _ (List.mem_of_getElem? (i := 67) rfl)) (hw _ (List.mem_of_getElem? (i := 68) rfl)) (hw _ (List.mem_of_getElem? (i := 70) rfl)) (hw _ (List.mem_of_getElem? (i := 69) rfl)) (hw _ (List.mem_of_getElem? (i := 71) rfl)) (hw _ (List.mem_of_getElem? (i := 28) rfl)) (by decide) BVj.1 (rm_bsize l Z a0 hw [] b _ hj n0 Zj (BVj.2.2.2.2.2.2)) ej (g := (mkF m 50 #[.val (.ref t), .val (.ref b), .val (.int (Int32.ofNat i)), .val (.int (Int32.ofNat i)), sl4, sl5, sl6] [(.ref b), (.int (Int32.ofNat i))])) rfl (by rw [hml]; rfl) (argsL := []) (rest := [(.int (Int32.ofNat i))]) (lenOf pd_d8 rfl) rfl (W := 1) (by show 2 * 0 + _ ≤ _; exact Nat.le_of_eq rfl) (Jvm.hb hby d7_50) (by decide) (by decide) (by decide) (by decide)
      obtain ⟨rfl, Nq8, e8⟩ := hQ8
      have N8 := Fr.app Nj Nq8
      refine own_go (t' := T8.setTop (mkF m 53 #[.val (.ref t), .val (.ref b), .val (.int (Int32.ofNat i)), .val (.int (Int32.ofNat i)), sl4, sl5, sl6] [(.int (Int32.ofNat k)), (.int (Int32.ofNat i))])) st8 ?_
      have hlt : i < k := by omega
      refine own_go (t' := T8.setTop (mkF m 56 #[.val (.ref t), .val (.ref b), .val (.int (Int32.ofNat i)), .val (.int (Int32.ofNat i)), sl4, sl5, sl6] [])) (fun _ k_ => XS.icmpNo X8.here hx rfl (Jvm.hb hby d7_53) rfl (tlt ((own_ilt (by omega) (by omega)).mpr hlt)).2.1 k_) ?_
      refine own_go (t' := T8.setTop (mkF m 57 #[.val (.ref t), .val (.ref b), .val (.int (Int32.ofNat i)), .val (.int (Int32.ofNat i)), sl4, sl5, sl6] [(.ref b)])) (fun _ k_ => XS.aloadN X8.here hx rfl (Jvm.hb hby d7_56) rfl rfl k_) ?_
      refine own_go (t' := T8.setTop (mkF m 58 #[.val (.ref t), .val (.ref b), .val (.int (Int32.ofNat i)), .val (.int (Int32.ofNat i)), sl4, sl5, sl6] [(.int (Int32.ofNat i)), (.ref b)])) (fun _ k_ => XS.iloadN X8.here hx rfl (Jvm.hb hby d7_57) rfl k_) ?_
      obtain ⟨T9, L9, v9, X9, hQ9, st9⟩ := own_virtual X8 hx hZ (y := (⟨"com/example/brisk_rules/briskrules/GroundRule$Builder", "atom", "(I)I"⟩ : MethodName)) hown (hw _ (List.mem_of_getElem? (i := 72) rfl)) (hw _ (List.mem_of_getElem? (i := 73) rfl)) (hw _ (List.mem_of_getElem? (i := 75) rfl)) (hw _ (List.mem_of_getElem? (i := 74) rfl)) (hw _ (List.mem_of_getElem? (i := 76) rfl)) (hw _ (List.mem_of_getElem? (i := 28) rfl)) (by decide) BVj.1 (rm_atom l Z a0 hw [] b aa i ga (at0 i) hj n0 Zj (BVj.2.2.2.2.1) Baj (by omega) (hga i hlt)) e8 (g := (mkF m 58 #[.val (.ref t), .val (.ref b), .val (.int (Int32.ofNat i)), .val (.int (Int32.ofNat i)), sl4, sl5, sl6] [(.int (Int32.ofNat i)), (.ref b)])) rfl (by rw [hml]; rfl) (argsL := [(.int (Int32.ofNat i))]) (rest := []) (lenOf pd_d9 rfl) rfl (W := 0) (by show 2 * 0 + _ ≤ _; exact Nat.le_of_eq rfl) (Jvm.hb hby d7_58) (by decide) (by decide) (by decide) (by decide)
      obtain ⟨rfl, Nq9, e9⟩ := hQ9
      have N9 := Fr.app N8 Nq9
      refine own_go (t' := T9.setTop (mkF m 61 #[.val (.ref t), .val (.ref b), .val (.int (Int32.ofNat i)), .val (.int (Int32.ofNat i)), sl4, sl5, sl6] [(.int (at0 i))])) st9 ?_
      refine own_go (t' := T9.setTop (mkF m 63 #[.val (.ref t), .val (.ref b), .val (.int (Int32.ofNat i)), .val (.int (Int32.ofNat i)), .val (.int (at0 i)), sl5, sl6] [])) (fun _ k_ => XS.istore X9.here hx rfl (Jvm.hb hby d7_61) rfl (l' := #[.val (.ref t), .val (.ref b), .val (.int (Int32.ofNat i)), .val (.int (Int32.ofNat i)), .val (.int (at0 i)), sl5, sl6]) (by rcases hs4 with rfl | ⟨_, rfl⟩ <;> rfl) k_) ?_
      refine own_go (t' := T9.setTop (mkF m 64 #[.val (.ref t), .val (.ref b), .val (.int (Int32.ofNat i)), .val (.int (Int32.ofNat i)), .val (.int (at0 i)), sl5, sl6] [(.ref b)])) (fun _ k_ => XS.aloadN X9.here hx rfl (Jvm.hb hby d7_63) rfl rfl k_) ?_
      refine own_go (t' := T9.setTop (mkF m 65 #[.val (.ref t), .val (.ref b), .val (.int (Int32.ofNat i)), .val (.int (Int32.ofNat i)), .val (.int (at0 i)), sl5, sl6] [(.int (Int32.ofNat i)), (.ref b)])) (fun _ k_ => XS.iloadN X9.here hx rfl (Jvm.hb hby d7_64) rfl k_) ?_
      obtain ⟨T10, L10, v10, X10, hQ10, st10⟩ := own_virtual X9 hx hZ (y := (⟨"com/example/brisk_rules/briskrules/GroundRule$Builder", "coefficient", "(I)D"⟩ : MethodName)) hown (hw _ (List.mem_of_getElem? (i := 77) rfl)) (hw _ (List.mem_of_getElem? (i := 78) rfl)) (hw _ (List.mem_of_getElem? (i := 80) rfl)) (hw _ (List.mem_of_getElem? (i := 79) rfl)) (hw _ (List.mem_of_getElem? (i := 81) rfl)) (hw _ (List.mem_of_getElem? (i := 28) rfl)) (by decide) BVj.1 (rm_coef l Z a0 hw [] b ac i gc (13830554455654793216 : UInt64) hj n0 Zj (BVj.2.2.2.2.2.1) Bcj (by omega) (hgc i hlt)) e9 (g := (mkF m 65 #[.val (.ref t), .val (.ref b), .val (.int (Int32.ofNat i)), .val (.int (Int32.ofNat i)), .val (.int (at0 i)), sl5, sl6] [(.int (Int32.ofNat i)), (.ref b)])) rfl (by rw [hml]; rfl) (argsL := [(.int (Int32.ofNat i))]) (rest := []) (lenOf pd_d10 rfl) rfl (W := 0) (by show 2 * 0 + _ ≤ _; exact Nat.le_of_eq rfl) (Jvm.hb hby d7_65) (by decide) (by decide) (by decide) (by decide)
      obtain ⟨rfl, Nq10, e10⟩ := hQ10
      have N10 := Fr.app N9 Nq10
      refine own_go (t' := T10.setTop (mkF m 68 #[.val (.ref t), .val (.ref b), .val (.int (Int32.ofNat i)), .val (.int (Int32.ofNat i)), .val (.int (at0 i)), sl5, sl6] [(.double (13830554455654793216 : UInt64))])) st10 ?_
      refine own_go (t' := T10.setTop (mkF m 69 #[.val (.ref t), .val (.ref b), .val (.int (Int32.ofNat i)), .val (.int (Int32.ofNat i)), .val (.int (at0 i)), sl5, sl6] [(.int (FP.d2i (13830554455654793216 : UInt64)))])) (fun _ k_ => XS.d2iS X10.here hx rfl (Jvm.hb hby d7_68) rfl rfl k_) ?_
      rw [show FP.d2i (13830554455654793216 : UInt64) = (-1 : Int32) from by decide +kernel]
      refine own_go (t' := T10.setTop (mkF m 71 #[.val (.ref t), .val (.ref b), .val (.int (Int32.ofNat i)), .val (.int (Int32.ofNat i)), .val (.int (at0 i)), .val (.int (-1 : Int32)), sl6] [])) (fun _ k_ => XS.istore X10.here hx rfl (Jvm.hb hby d7_69) rfl (l' := #[.val (.ref t), .val (.ref b), .val (.int (Int32.ofNat i)), .val (.int (Int32.ofNat i)), .val (.int (at0 i)), .val (.int (-1 : Int32)), sl6]) (by rcases hs5 with rfl | ⟨_, rfl⟩ <;> rfl) k_) ?_
      refine own_go (t' := T10.setTop (mkF m 72 #[.val (.ref t), .val (.ref b), .val (.int (Int32.ofNat i)), .val (.int (Int32.ofNat i)), .val (.int (at0 i)), .val (.int (-1 : Int32)), sl6] [(.int (Int32.ofNat i))])) (fun _ k_ => XS.iloadN X10.here hx rfl (Jvm.hb hby d7_71) rfl k_) ?_
      refine own_go (t' := T10.setTop (mkF m 74 #[.val (.ref t), .val (.ref b), .val (.int (Int32.ofNat i)), .val (.int (Int32.ofNat i)), .val (.int (at0 i)), .val (.int (-1 : Int32)), .val (.int (Int32.ofNat i))] [])) (fun _ k_ => XS.istore X10.here hx rfl (Jvm.hb hby d7_72) rfl (l' := #[.val (.ref t), .val (.ref b), .val (.int (Int32.ofNat i)), .val (.int (Int32.ofNat i)), .val (.int (at0 i)), .val (.int (-1 : Int32)), .val (.int (Int32.ofNat i))]) (by rcases hs6 with rfl | ⟨_, rfl⟩ <;> rfl) k_) ?_
      have J135 : ∀ (Tj11 : State) (lj11 : List Loc), Stand p l e ({ frames := 1, cells := 0, slots := 0, locals := 18 } : Room) s m #[(.ref t), (.ref b)] below meth c Tj11 lj11 0 0 → Tj11.heap = hj → Fr n0 lj11 → own_Ends p.tables e below (own_F s (fun v h L => v = some (.int (Int32.ofNat k)) ∧ Fr n0 L ∧ Keep h0 h [aF, aA, aC] ∧ ∃ fA' fC' fF' : Nat → Value, own_Ar Z h aA .int 4 fA' ∧ own_Ar Z h aC .int 4 fC' ∧ own_Ar Z h aF .long 8 fF' ∧ ∀ j, j < k → fF' (4 + j) = .long (own_lit (at0 j))) ({ frames := 1, cells := 0, slots := 0, locals := 18 } : Room).cells ({ frames := 1, cells := 0, slots := 0, locals := 18 } : Room).slots) (Tj11.setTop (mkF m 135 #[.val (.ref t), .val (.ref b), .val (.int (Int32.ofNat i)), .val (.int (Int32.ofNat i)), .val (.int (at0 i)), .val (.int (-1 : Int32)), .val (.int (Int32.ofNat i))] [])) := by
        intro Tj11 lj11  Xj11 ej11 Nj11  
        refine own_go (t' := Tj11.setTop (mkF m 136 #[.val (.ref t), .val (.ref b), .val (.int (Int32.ofNat i)), .val (.int (Int32.ofNat i)), .val (.int (at0 i)), .val (.int (-1 : Int32)), .val (.int (Int32.ofNat i))] [(.ref t)])) (fun _ k_ => XS.aloadN Xj11.here hx rfl (Jvm.hb hby d7_135) rfl rfl k_) ?_
        obtain ⟨T12, X12, e12, st12⟩ := getF Xj11 hx hZ hown (host := "") (Or.inl (hw _ (List.mem_of_getElem? (i := 20) rfl))) Via.refl ej11 (TVj.2.2.2.2.2.1) (g := (mkF m 136 #[.val (.ref t), .val (.ref b), .val (.int (Int32.ofNat i)), .val (.int (Int32.ofNat i)), .val (.int (at0 i)), .val (.int (-1 : Int32)), .val (.int (Int32.ofNat i))] [(.ref t)])) rfl rfl (Jvm.hb hby d7_136)
        refine own_go (t' := T12.setTop (mkF m 139 #[.val (.ref t), .val (.ref b), .val (.int (Int32.ofNat i)), .val (.int (Int32.ofNat i)), .val (.int (at0 i)), .val (.int (-1 : Int32)), .val (.int (Int32.ofNat i))] [(.ref aA)])) st12 ?_
        refine own_go (t' := T12.setTop (mkF m 141 #[.val (.ref t), .val (.ref b), .val (.int (Int32.ofNat i)), .val (.int (Int32.ofNat i)), .val (.int (at0 i)), .val (.int (-1 : Int32)), .val (.int (Int32.ofNat i))] [(.int (Int32.ofNat i)), (.ref aA)])) (fun _ k_ => XS.iload X12.here hx rfl (Jvm.hb hby d7_139) rfl k_) ?_
        refine own_go (t' := T12.setTop (mkF m 142 #[.val (.ref t), .val (.ref b), .val (.int (Int32.ofNat i)), .val (.int (Int32.ofNat i)), .val (.int (at0 i)), .val (.int (-1 : Int32)), .val (.int (Int32.ofNat i))] [(.ref t), (.int (Int32.ofNat i)), (.ref aA)])) (fun _ k_ => XS.aloadN X12.here hx rfl (Jvm.hb hby d7_141) rfl rfl k_) ?_
        obtain ⟨T13, X13, e13, st13⟩ := getF X12 hx hZ hown (host := "") (Or.inl (hw _ (List.mem_of_getElem? (i := 20) rfl))) Via.refl e12 (TVj.2.2.2.2.2.1) (g := (mkF m 142 #[.val (.ref t), .val (.ref b), .val (.int (Int32.ofNat i)), .val (.int (Int32.ofNat i)), .val (.int (at0 i)), .val (.int (-1 : Int32)), .val (.int (Int32.ofNat i))] [(.ref t), (.int (Int32.ofNat i)), (.ref aA)])) rfl rfl (Jvm.hb hby d7_142)
        refine own_go (t' := T13.setTop (mkF m 145 #[.val (.ref t), .val (.ref b), .val (.int (Int32.ofNat i)), .val (.int (Int32.ofNat i)), .val (.int (at0 i)), .val (.int (-1 : Int32)), .val (.int (Int32.ofNat i))] [(.ref aA), (.int (Int32.ofNat i)), (.ref aA)])) st13 ?_
        refine own_go (t' := T13.setTop (mkF m 147 #[.val (.ref t), .val (.ref b), .val (.int (Int32.ofNat i)), .val (.int (Int32.ofNat i)), .val (.int (at0 i)), .val (.int (-1 : Int32)), .val (.int (Int32.ofNat i))] [(.int (Int32.ofNat i)), (.ref aA), (.int (Int32.ofNat i)), (.ref aA)])) (fun _ k_ => XS.iload X13.here hx rfl (Jvm.hb hby d7_145) rfl k_) ?_
        refine own_go (t' := T13.setTop (mkF m 148 #[.val (.ref t), .val (.ref b), .val (.int (Int32.ofNat i)), .val (.int (Int32.ofNat i)), .val (.int (at0 i)), .val (.int (-1 : Int32)), .val (.int (Int32.ofNat i))] [(.int (1 : Int32)), (.int (Int32.ofNat i)), (.ref aA), (.int (Int32.ofNat i)), (.ref aA)])) (fun _ k_ => XS.iconst X13.here hx rfl (Jvm.hb hby d7_147) k_) ?_
        refine own_go (t' := T13.setTop (mkF m 149 #[.val (.ref t), .val (.ref b), .val (.int (Int32.ofNat i)), .val (.int (Int32.ofNat i)), .val (.int (at0 i)), .val (.int (-1 : Int32)), .val (.int (Int32.ofNat i))] [(.int ((Int32.ofNat i) + (1 : Int32))), (.ref aA), (.int (Int32.ofNat i)), (.ref aA)])) (fun _ k_ => XS.iadd X13.here hx rfl (Jvm.hb hby d7_148) rfl k_) ?_
        rw [own_succ i]
        refine own_go (t' := T13.setTop (mkF m 150 #[.val (.ref t), .val (.ref b), .val (.int (Int32.ofNat i)), .val (.int (Int32.ofNat i)), .val (.int (at0 i)), .val (.int (-1 : Int32)), .val (.int (Int32.ofNat i))] [(.int (Int32.ofNat i)), (.int (Int32.ofNat (i + 1))), (.ref aA), (.int (Int32.ofNat i)), (.ref aA)])) (fun _ k_ => XS.iloadN X13.here hx rfl (Jvm.hb hby d7_149) rfl k_) ?_
        refine own_go (t' := T13.setTop (mkF m 152 #[.val (.ref t), .val (.ref b), .val (.int (Int32.ofNat i)), .val (.int (Int32.ofNat i)), .val (.int (at0 i)), .val (.int (-1 : Int32)), .val (.int (Int32.ofNat i))] [(.int (Int32.ofNat i)), (.int (Int32.ofNat i)), (.int (Int32.ofNat (i + 1))), (.ref aA), (.int (Int32.ofNat i)), (.ref aA)])) (fun _ k_ => XS.iload X13.here hx rfl (Jvm.hb hby d7_150) rfl k_) ?_
        refine own_go (t' := T13.setTop (mkF m 153 #[.val (.ref t), .val (.ref b), .val (.int (Int32.ofNat i)), .val (.int (Int32.ofNat i)), .val (.int (at0 i)), .val (.int (-1 : Int32)), .val (.int (Int32.ofNat i))] [(.int ((Int32.ofNat i) - (Int32.ofNat i))), (.int (Int32.ofNat (i + 1))), (.ref aA), (.int (Int32.ofNat i)), (.ref aA)])) (fun _ k_ => XS.isub X13.here hx rfl (Jvm.hb hby d7_152) rfl k_) ?_
        rw [own_self i]
        obtain ⟨T14, h14, X14, e14, K14, A14, st14⟩ := own_copy X13 hx hZ hown (hw _ (List.mem_of_getElem? (i := 82) rfl)) (hw _ (List.mem_of_getElem? (i := 85) rfl)) (hw _ (List.mem_of_getElem? (i := 83) rfl)) (hw _ (List.mem_of_getElem? (i := 84) rfl)) e13 0 (o := i) (q := (i + 1)) rfl AAj AAj (by omega) (by omega) (by decide) (by decide) (fun j hj0 => absurd hj0 (by omega)) (g := (mkF m 153 #[.val (.ref t), .val (.ref b), .val (.int (Int32.ofNat i)), .val (.int (Int32.ofNat i)), .val (.int (at0 i)), .val (.int (-1 : Int32)), .val (.int (Int32.ofNat i))] [(.int (Int32.ofNat 0)), (.int (Int32.ofNat (i + 1))), (.ref aA), (.int (Int32.ofNat i)), (.ref aA)])) rfl (by rw [hml]; rfl) rfl (Jvm.hb hby d7_153) (by decide) (W := 0) (by show 2 * 0 + _ ≤ _; exact Nat.le_of_eq rfl) (by decide)
        refine own_go (t' := T14.setTop (mkF m 156 #[.val (.ref t), .val (.ref b), .val (.int (Int32.ofNat i)), .val (.int (Int32.ofNat i)), .val (.int (at0 i)), .val (.int (-1 : Int32)), .val (.int (Int32.ofNat i))] [])) st14 ?_
        have N14 := Fr.app Nj11 (own_Fr_copy (q := (i + 1)) (k := 0) gA)
        have AA14 : own_Ar Z h14 aA .int 4 fA := own_Ar_congr A14 (fun j hj0 => if_neg (by omega))
        have AC14 := own_Ar_keep K14 (own_nin1 (by omega)) ACj
        have TV14 := own_TV_keep TVj K14 (own_nin1 (by omega))
        refine own_go (t' := T14.setTop (mkF m 157 #[.val (.ref t), .val (.ref b), .val (.int (Int32.ofNat i)), .val (.int (Int32.ofNat i)), .val (.int (at0 i)), .val (.int (-1 : Int32)), .val (.int (Int32.ofNat i))] [(.ref t)])) (fun _ k_ => XS.aloadN X14.here hx rfl (Jvm.hb hby d7_156) rfl rfl k_) ?_
        obtain ⟨T15, X15, e15, st15⟩ := getF X14 hx hZ hown (host := "") (Or.inl (hw _ (List.mem_of_getElem? (i := 22) rfl))) Via.refl e14 (TV14.2.2.2.2.2.2.1) (g := (mkF m 157 #[.val (.ref t), .val (.ref b), .val (.int (Int32.ofNat i)), .val (.int (Int32.ofNat i)), .val (.int (at0 i)), .val (.int (-1 : Int32)), .val (.int (Int32.ofNat i))] [(.ref t)])) rfl rfl (Jvm.hb hby d7_157)
        refine own_go (t' := T15.setTop (mkF m 160 #[.val (.ref t), .val (.ref b), .val (.int (Int32.ofNat i)), .val (.int (Int32.ofNat i)), .val (.int (at0 i)), .val (.int (-1 : Int32)), .val (.int (Int32.ofNat i))] [(.ref aC)])) st15 ?_
        refine own_go (t' := T15.setTop (mkF m 162 #[.val (.ref t), .val (.ref b), .val (.int (Int32.ofNat i)), .val (.int (Int32.ofNat i)), .val (.int (at0 i)), .val (.int (-1 : Int32)), .val (.int (Int32.ofNat i))] [(.int (Int32.ofNat i)), (.ref aC)])) (fun _ k_ => XS.iload X15.here hx rfl (Jvm.hb hby d7_160) rfl k_) ?_
        refine own_go (t' := T15.setTop (mkF m 163 #[.val (.ref t), .val (.ref b), .val (.int (Int32.ofNat i)), .val (.int (Int32.ofNat i)), .val (.int (at0 i)), .val (.int (-1 : Int32)), .val (.int (Int32.ofNat i))] [(.ref t), (.int (Int32.ofNat i)), (.ref aC)])) (fun _ k_ => XS.aloadN X15.here hx rfl (Jvm.hb hby d7_162) rfl rfl k_) ?_
        obtain ⟨T16, X16, e16, st16⟩ := getF X15 hx hZ hown (host := "") (Or.inl (hw _ (List.mem_of_getElem? (i := 22) rfl))) Via.refl e15 (TV14.2.2.2.2.2.2.1) (g := (mkF m 163 #[.val (.ref t), .val (.ref b), .val (.int (Int32.ofNat i)), .val (.int (Int32.ofNat i)), .val (.int (at0 i)), .val (.int (-1 : Int32)), .val (.int (Int32.ofNat i))] [(.ref t), (.int (Int32.ofNat i)), (.ref aC)])) rfl rfl (Jvm.hb hby d7_163)
        refine own_go (t' := T16.setTop (mkF m 166 #[.val (.ref t), .val (.ref b), .val (.int (Int32.ofNat i)), .val (.int (Int32.ofNat i)), .val (.int (at0 i)), .val (.int (-1 : Int32)), .val (.int (Int32.ofNat i))] [(.ref aC), (.int (Int32.ofNat i)), (.ref aC)])) st16 ?_
        refine own_go (t' := T16.setTop (mkF m 168 #[.val (.ref t), .val (.ref b), .val (.int (Int32.ofNat i)), .val (.int (Int32.ofNat i)), .val (.int (at0 i)), .val (.int (-1 : Int32)), .val (.int (Int32.ofNat i))] [(.int (Int32.ofNat i)), (.ref aC), (.int (Int32.ofNat i)), (.ref aC)])) (fun _ k_ => XS.iload X16.here hx rfl (Jvm.hb hby d7_166) rfl k_) ?_
        refine own_go (t' := T16.setTop (mkF m 169 #[.val (.ref t), .val (.ref b), .val (.int (Int32.ofNat i)), .val (.int (Int32.ofNat i)), .val (.int (at0 i)), .val (.int (-1 : Int32)), .val (.int (Int32.ofNat i))] [(.int (1 : Int32)), (.int (Int32.ofNat i)), (.ref aC), (.int (Int32.ofNat i)), (.ref aC)])) (fun _ k_ => XS.iconst X16.here hx rfl (Jvm.hb hby d7_168) k_) ?_
        refine own_go (t' := T16.setTop (mkF m 170 #[.val (.ref t), .val (.ref b), .val (.int (Int32.ofNat i)), .val (.int (Int32.ofNat i)), .val (.int (at0 i)), .val (.int (-1 : Int32)), .val (.int (Int32.ofNat i))] [(.int ((Int32.ofNat i) + (1 : Int32))), (.ref aC), (.int (Int32.ofNat i)), (.ref aC)])) (fun _ k_ => XS.iadd X16.here hx rfl (Jvm.hb hby d7_169) rfl k_) ?_
        rw [own_succ i]
        refine own_go (t' := T16.setTop (mkF m 171 #[.val (.ref t), .val (.ref b), .val (.int (Int32.ofNat i)), .val (.int (Int32.ofNat i)), .val (.int (at0 i)), .val (.int (-1 : Int32)), .val (.int (Int32.ofNat i))] [(.int (Int32.ofNat i)), (.int (Int32.ofNat (i + 1))), (.ref aC), (.int (Int32.ofNat i)), (.ref aC)])) (fun _ k_ => XS.iloadN X16.here hx rfl (Jvm.hb hby d7_170) rfl k_) ?_
        refine own_go (t' := T16.setTop (mkF m 173 #[.val (.ref t), .val (.ref b), .val (.int (Int32.ofNat i)), .val (.int (Int32.ofNat i)), .val (.int (at0 i)), .val (.int (-1 : Int32)), .val (.int (Int32.ofNat i))] [(.int (Int32.ofNat i)), (.int (Int32.ofNat i)), (.int (Int32.ofNat (i + 1))), (.ref aC), (.int (Int32.ofNat i)), (.ref aC)])) (fun _ k_ => XS.iload X16.here hx rfl (Jvm.hb hby d7_171) rfl k_) ?_
        refine own_go (t' := T16.setTop (mkF m 174 #[.val (.ref t), .val (.ref b), .val (.int (Int32.ofNat i)), .val (.int (Int32.ofNat i)), .val (.int (at0 i)), .val (.int (-1 : Int32)), .val (.int (Int32.ofNat i))] [(.int ((Int32.ofNat i) - (Int32.ofNat i))), (.int (Int32.ofNat (i + 1))), (.ref aC), (.int (Int32.ofNat i)), (.ref aC)])) (fun _ k_ => XS.isub X16.here hx rfl (Jvm.hb hby d7_173) rfl k_) ?_
        rw [own_self i]
        obtain ⟨T17, h17, X17, e17, K17, A17, st17⟩ := own_copy X16 hx hZ hown (hw _ (List.mem_of_getElem? (i := 82) rfl)) (hw _ (List.mem_of_getElem? (i := 85) rfl)) (hw _ (List.mem_of_getElem? (i := 83) rfl)) (hw _ (List.mem_of_getElem? (i := 84) rfl)) e16 0 (o := i) (q := (i + 1)) rfl AC14 AC14 (by omega) (by omega) (by decide) (by decide) (fun j hj0 => absurd hj0 (by omega)) (g := (mkF m 174 #[.val (.ref t), .val (.ref b), .val (.int (Int32.ofNat i)), .val (.int (Int32.ofNat i)), .val (.int (at0 i)), .val (.int (-1 : Int32)), .val (.int (Int32.ofNat i))] [(.int (Int32.ofNat 0)), (.int (Int32.ofNat (i + 1))), (.ref aC), (.int (Int32.ofNat i)), (.ref aC)])) rfl (by rw [hml]; rfl) rfl (Jvm.hb hby d7_174) (by decide) (W := 0) (by show 2 * 0 + _ ≤ _; exact Nat.le_of_eq rfl) (by decide)
        refine own_go (t' := T17.setTop (mkF m 177 #[.val (.ref t), .val (.ref b), .val (.int (Int32.ofNat i)), .val (.int (Int32.ofNat i)), .val (.int (at0 i)), .val (.int (-1 : Int32)), .val (.int (Int32.ofNat i))] [])) st17 ?_
        have N17 := Fr.app N14 (own_Fr_copy (q := (i + 1)) (k := 0) gC)
        have AC17 : own_Ar Z h17 aC .int 4 fC := own_Ar_congr A17 (fun j hj0 => if_neg (by omega))
        have AA17 := own_Ar_keep K17 (own_nin1 (by omega)) AA14
        have TV17 := own_TV_keep TV14 K17 (own_nin1 (by omega))
        refine own_go (t' := T17.setTop (mkF m 178 #[.val (.ref t), .val (.ref b), .val (.int (Int32.ofNat i)), .val (.int (Int32.ofNat i)), .val (.int (at0 i)), .val (.int (-1 : Int32)), .val (.int (Int32.ofNat i))] [(.ref t)])) (fun _ k_ => XS.aloadN X17.here hx rfl (Jvm.hb hby d7_177) rfl rfl k_) ?_
        obtain ⟨T18, X18, e18, st18⟩ := getF X17 hx hZ hown (host := "") (Or.inl (hw _ (List.mem_of_getElem? (i := 20) rfl))) Via.refl e17 (TV17.2.2.2.2.2.1) (g := (mkF m 178 #[.val (.ref t), .val (.ref b), .val (.int (Int32.ofNat i)), .val (.int (Int32.ofNat i)), .val (.int (at0 i)), .val (.int (-1 : Int32)), .val (.int (Int32.ofNat i))] [(.ref t)])) rfl rfl (Jvm.hb hby d7_178)
        refine own_go (t' := T18.setTop (mkF m 181 #[.val (.ref t), .val (.ref b), .val (.int (Int32.ofNat i)), .val (.int (Int32.ofNat i)), .val (.int (at0 i)), .val (.int (-1 : Int32)), .val (.int (Int32.ofNat i))] [(.ref aA)])) st18 ?_
        refine own_go (t' := T18.setTop (mkF m 183 #[.val (.ref t), .val (.ref b), .val (.int (Int32.ofNat i)), .val (.int (Int32.ofNat i)), .val (.int (at0 i)), .val (.int (-1 : Int32)), .val (.int (Int32.ofNat i))] [(.int (Int32.ofNat i)), (.ref aA)])) (fun _ k_ => XS.iload X18.here hx rfl (Jvm.hb hby d7_181) rfl k_) ?_
        refine own_go (t' := T18.setTop (mkF m 185 #[.val (.ref t), .val (.ref b), .val (.int (Int32.ofNat i)), .val (.int (Int32.ofNat i)), .val (.int (at0 i)), .val (.int (-1 : Int32)), .val (.int (Int32.ofNat i))] [(.int (at0 i)), (.int (Int32.ofNat i)), (.ref aA)])) (fun _ k_ => XS.iload X18.here hx rfl (Jvm.hb hby d7_183) rfl k_) ?_
        obtain ⟨T19, h19, X19, e19, W19, A19, st19⟩ := own_stI X18 hx hZ e18 AA17 (by decide) (show i < 4 by omega) (g := (mkF m 185 #[.val (.ref t), .val (.ref b), .val (.int (Int32.ofNat i)), .val (.int (Int32.ofNat i)), .val (.int (at0 i)), .val (.int (-1 : Int32)), .val (.int (Int32.ofNat i))] [(.int (at0 i)), (.int (Int32.ofNat i)), (.ref aA)])) rfl rfl (Jvm.hb hby d7_185)
        refine own_go (t' := T19.setTop (mkF m 186 #[.val (.ref t), .val (.ref b), .val (.int (Int32.ofNat i)), .val (.int (Int32.ofNat i)), .val (.int (at0 i)), .val (.int (-1 : Int32)), .val (.int (Int32.ofNat i))] [])) st19 ?_
        have N19 := Fr.snoc X19 N17 gA
        have TV19 := own_TV_keep TV17 (Keep.of_wr W19) (own_nin1 (by omega))
        have AC19 := own_Ar_oth W19 (by omega) AC17
        refine own_go (t' := T19.setTop (mkF m 187 #[.val (.ref t), .val (.ref b), .val (.int (Int32.ofNat i)), .val (.int (Int32.ofNat i)), .val (.int (at0 i)), .val (.int (-1 : Int32)), .val (.int (Int32.ofNat i))] [(.ref t)])) (fun _ k_ => XS.aloadN X19.here hx rfl (Jvm.hb hby d7_186) rfl rfl k_) ?_
        obtain ⟨T20, X20, e20, st20⟩ := getF X19 hx hZ hown (host := "") (Or.inl (hw _ (List.mem_of_getElem? (i := 22) rfl))) Via.refl e19 (TV19.2.2.2.2.2.2.1) (g := (mkF m 187 #[.val (.ref t), .val (.ref b), .val (.int (Int32.ofNat i)), .val (.int (Int32.ofNat i)), .val (.int (at0 i)), .val (.int (-1 : Int32)), .val (.int (Int32.ofNat i))] [(.ref t)])) rfl rfl (Jvm.hb hby d7_187)
        refine own_go (t' := T20.setTop (mkF m 190 #[.val (.ref t), .val (.ref b), .val (.int (Int32.ofNat i)), .val (.int (Int32.ofNat i)), .val (.int (at0 i)), .val (.int (-1 : Int32)), .val (.int (Int32.ofNat i))] [(.ref aC)])) st20 ?_
        refine own_go (t' := T20.setTop (mkF m 192 #[.val (.ref t), .val (.ref b), .val (.int (Int32.ofNat i)), .val (.int (Int32.ofNat i)), .val (.int (at0 i)), .val (.int (-1 : Int32)), .val (.int (Int32.ofNat i))] [(.int (Int32.ofNat i)), (.ref aC)])) (fun _ k_ => XS.iload X20.here hx rfl (Jvm.hb hby d7_190) rfl k_) ?_
        refine own_go (t' := T20.setTop (mkF m 194 #[.val (.ref t), .val (.ref b), .val (.int (Int32.ofNat i)), .val (.int (Int32.ofNat i)), .val (.int (at0 i)), .val (.int (-1 : Int32)), .val (.int (Int32.ofNat i))] [(.int (-1 : Int32)), (.int (Int32.ofNat i)), (.ref aC)])) (fun _ k_ => XS.iload X20.here hx rfl (Jvm.hb hby d7_192) rfl k_) ?_
        obtain ⟨T21, h21, X21, e21, W21, A21, st21⟩ := own_stI X20 hx hZ e20 AC19 (by decide) (show i < 4 by omega) (g := (mkF m 194 #[.val (.ref t), .val (.ref b), .val (.int (Int32.ofNat i)), .val (.int (Int32.ofNat i)), .val (.int (at0 i)), .val (.int (-1 : Int32)), .val (.int (Int32.ofNat i))] [(.int (-1 : Int32)), (.int (Int32.ofNat i)), (.ref aC)])) rfl rfl (Jvm.hb hby d7_194)
        refine own_go (t' := T21.setTop (mkF m 195 #[.val (.ref t), .val (.ref b), .val (.int (Int32.ofNat i)), .val (.int (Int32.ofNat i)), .val (.int (at0 i)), .val (.int (-1 : Int32)), .val (.int (Int32.ofNat i))] [])) st21 ?_
        have N21 := Fr.snoc X21 N19 gC
        have AA21 := own_Ar_oth W21 (by omega) A19
        have KK : Keep h0 h21 [aF, aA, aC] := (((Kj.trans K14 (own_sub (by simp))).trans K17 (own_sub (by simp))).wr W19 (Or.inl (by simp))).wr W21 (Or.inl (by simp))
        have AF21 := own_Ar_oth W21 (by omega) (own_Ar_oth W19 (by omega) (own_Ar_keep K17 (own_nin1 (by omega)) (own_Ar_keep K14 (own_nin1 (by omega)) AFj)))
        refine own_go (t' := T21.setTop (mkF m 198 #[.val (.ref t), .val (.ref b), .val (.int ((Int32.ofNat i) + (1 : Int32))), .val (.int (Int32.ofNat i)), .val (.int (at0 i)), .val (.int (-1 : Int32)), .val (.int (Int32.ofNat i))] [])) (fun _ k_ => XS.iinc X21.here hx rfl (Jvm.hb hby d7_195) rfl (l' := #[.val (.ref t), .val (.ref b), .val (.int ((Int32.ofNat i) + (1 : Int32))), .val (.int (Int32.ofNat i)), .val (.int (at0 i)), .val (.int (-1 : Int32)), .val (.int (Int32.ofNat i))]) rfl k_) ?_
        refine own_go (t' := T21.setTop (mkF m 201 #[.val (.ref t), .val (.ref b), .val (.int ((Int32.ofNat i) + (1 : Int32))), .val (.int ((Int32.ofNat i) + (1 : Int32))), .val (.int (at0 i)), .val (.int (-1 : Int32)), .val (.int (Int32.ofNat i))] [])) (fun _ k_ => XS.iinc X21.here hx rfl (Jvm.hb hby d7_198) rfl (l' := #[.val (.ref t), .val (.ref b), .val (.int ((Int32.ofNat i) + (1 : Int32))), .val (.int ((Int32.ofNat i) + (1 : Int32))), .val (.int (at0 i)), .val (.int (-1 : Int32)), .val (.int (Int32.ofNat i))]) rfl k_) ?_
        refine own_go (t' := T21.setTop (mkF m 48 #[.val (.ref t), .val (.ref b), .val (.int ((Int32.ofNat i) + (1 : Int32))), .val (.int ((Int32.ofNat i) + (1 : Int32))), .val (.int (at0 i)), .val (.int (-1 : Int32)), .val (.int (Int32.ofNat i))] [])) (fun _ k_ => XS.goto X21.here hx rfl (pc0 := 201) (pc' := 48) rfl (Jvm.hb hby d7_201) (by decide) (by decide) k_) ?_
        rw [own_succ i]
        refine ih (i + 1) (by omega) _ _ _ _ _ fF _ _ _ X21 e21 N21 KK AA21 A21 AF21 (Or.inr ⟨_, rfl⟩) (Or.inr ⟨_, rfl⟩) (Or.inr ⟨_, rfl⟩) ?_ ?_
        · intro j hj0
          unfold own_upd
          by_cases q : j = i
          · subst q; rw [if_pos rfl]
          · rw [if_neg q]; exact qA j (by omega)
        · intro j hj0
          unfold own_upd
          by_cases q : j = i
          · subst q; rw [if_pos rfl]
          · rw [if_neg q]; exact qC j (by omega)
      by_cases hi0 : i = 0
      ·
        refine own_go (t' := T10.setTop (mkF m 76 #[.val (.ref t), .val (.ref b), .val (.int (Int32.ofNat i)), .val (.int (Int32.ofNat i)), .val (.int (at0 i)), .val (.int (-1 : Int32)), .val (.int (Int32.ofNat i))] [(.int (Int32.ofNat i))])) (fun _ k_ => XS.iload X10.here hx rfl (Jvm.hb hby d7_74) rfl k_) ?_
        refine own_go (t' := T10.setTop (mkF m 99 #[.val (.ref t), .val (.ref b), .val (.int (Int32.ofNat i)), .val (.int (Int32.ofNat i)), .val (.int (at0 i)), .val (.int (-1 : Int32)), .val (.int (Int32.ofNat i))] [])) (fun _ k_ => XS.ifYes X10.here hx rfl (pc0 := 76) (pc' := 99) rfl (Jvm.hb hby d7_76) rfl ((if0 _ _).trans (flt (by subst hi0; decide)).2.2.2) (by decide) (by decide) k_) ?_
        refine own_go (t' := T10.setTop (mkF m 101 #[.val (.ref t), .val (.ref b), .val (.int (Int32.ofNat i)), .val (.int (Int32.ofNat i)), .val (.int (at0 i)), .val (.int (-1 : Int32)), .val (.int (Int32.ofNat i))] [(.int (Int32.ofNat i))])) (fun _ k_ => XS.iload X10.here hx rfl (Jvm.hb hby d7_99) rfl k_) ?_
        refine own_go (t' := T10.setTop (mkF m 135 #[.val (.ref t), .val (.ref b), .val (.int (Int32.ofNat i)), .val (.int (Int32.ofNat i)), .val (.int (at0 i)), .val (.int (-1 : Int32)), .val (.int (Int32.ofNat i))] [])) (fun _ k_ => XS.ifYes X10.here hx rfl (pc0 := 101) (pc' := 135) rfl (Jvm.hb hby d7_101) rfl ((if0 _ _).trans (flt (by subst hi0; decide)).2.2.2) (by decide) (by decide) k_) ?_
        exact J135 T10 _ X10 e10 N10 
      ·
        have hpre := asc (i - 1) (by omega) (by omega)
        rw [show i - 1 + 1 = i by omega] at hpre
        refine own_go (t' := T10.setTop (mkF m 76 #[.val (.ref t), .val (.ref b), .val (.int (Int32.ofNat i)), .val (.int (Int32.ofNat i)), .val (.int (at0 i)), .val (.int (-1 : Int32)), .val (.int (Int32.ofNat i))] [(.int (Int32.ofNat i))])) (fun _ k_ => XS.iload X10.here hx rfl (Jvm.hb hby d7_74) rfl k_) ?_
        refine own_go (t' := T10.setTop (mkF m 79 #[.val (.ref t), .val (.ref b), .val (.int (Int32.ofNat i)), .val (.int (Int32.ofNat i)), .val (.int (at0 i)), .val (.int (-1 : Int32)), .val (.int (Int32.ofNat i))] [])) (fun _ k_ => XS.ifNo X10.here hx rfl (Jvm.hb hby d7_76) rfl ((if0 _ _).trans (tlt ((own_ilt (a := 0) (by omega) (by omega)).mpr (by omega))).2.2.2) k_) ?_
        refine own_go (t' := T10.setTop (mkF m 80 #[.val (.ref t), .val (.ref b), .val (.int (Int32.ofNat i)), .val (.int (Int32.ofNat i)), .val (.int (at0 i)), .val (.int (-1 : Int32)), .val (.int (Int32.ofNat i))] [(.ref t)])) (fun _ k_ => XS.aloadN X10.here hx rfl (Jvm.hb hby d7_79) rfl rfl k_) ?_
        obtain ⟨T22, X22, e22, st22⟩ := getF X10 hx hZ hown (host := "") (Or.inl (hw _ (List.mem_of_getElem? (i := 20) rfl))) Via.refl e10 (TVj.2.2.2.2.2.1) (g := (mkF m 80 #[.val (.ref t), .val (.ref b), .val (.int (Int32.ofNat i)), .val (.int (Int32.ofNat i)), .val (.int (at0 i)), .val (.int (-1 : Int32)), .val (.int (Int32.ofNat i))] [(.ref t)])) rfl rfl (Jvm.hb hby d7_80)
        refine own_go (t' := T22.setTop (mkF m 83 #[.val (.ref t), .val (.ref b), .val (.int (Int32.ofNat i)), .val (.int (Int32.ofNat i)), .val (.int (at0 i)), .val (.int (-1 : Int32)), .val (.int (Int32.ofNat i))] [(.ref aA)])) st22 ?_
        refine own_go (t' := T22.setTop (mkF m 85 #[.val (.ref t), .val (.ref b), .val (.int (Int32.ofNat i)), .val (.int (Int32.ofNat i)), .val (.int (at0 i)), .val (.int (-1 : Int32)), .val (.int (Int32.ofNat i))] [(.int (Int32.ofNat i)), (.ref aA)])) (fun _ k_ => XS.iload X22.here hx rfl (Jvm.hb hby d7_83) rfl k_) ?_
        refine own_go (t' := T22.setTop (mkF m 86 #[.val (.ref t), .val (.ref b), .val (.int (Int32.ofNat i)), .val (.int (Int32.ofNat i)), .val (.int (at0 i)), .val (.int (-1 : Int32)), .val (.int (Int32.ofNat i))] [(.int (1 : Int32)), (.int (Int32.ofNat i)), (.ref aA)])) (fun _ k_ => XS.iconst X22.here hx rfl (Jvm.hb hby d7_85) k_) ?_
        refine own_go (t' := T22.setTop (mkF m 87 #[.val (.ref t), .val (.ref b), .val (.int (Int32.ofNat i)), .val (.int (Int32.ofNat i)), .val (.int (at0 i)), .val (.int (-1 : Int32)), .val (.int (Int32.ofNat i))] [(.int ((Int32.ofNat i) - (1 : Int32))), (.ref aA)])) (fun _ k_ => XS.isub X22.here hx rfl (Jvm.hb hby d7_86) rfl k_) ?_
        rw [own_pred (show 1 ≤ i by omega)]
        refine own_go (t' := T22.setTop (mkF m 88 #[.val (.ref t), .val (.ref b), .val (.int (Int32.ofNat i)), .val (.int (Int32.ofNat i)), .val (.int (at0 i)), .val (.int (-1 : Int32)), .val (.int (Int32.ofNat i))] [(.int (at0 (i - 1)))])) (own_ldI X22 hx hZ e22 AAj (by decide) (show i - 1 < 4 by omega) (qA (i - 1) (by omega)) (g := (mkF m 87 #[.val (.ref t), .val (.ref b), .val (.int (Int32.ofNat i)), .val (.int (Int32.ofNat i)), .val (.int (at0 i)), .val (.int (-1 : Int32)), .val (.int (Int32.ofNat i))] [(.int (Int32.ofNat (i - 1))), (.ref aA)])) rfl rfl (Jvm.hb hby d7_87)) ?_
        refine own_go (t' := T22.setTop (mkF m 90 #[.val (.ref t), .val (.ref b), .val (.int (Int32.ofNat i)), .val (.int (Int32.ofNat i)), .val (.int (at0 i)), .val (.int (-1 : Int32)), .val (.int (Int32.ofNat i))] [(.int (at0 i)), (.int (at0 (i - 1)))])) (fun _ k_ => XS.iload X22.here hx rfl (Jvm.hb hby d7_88) rfl k_) ?_
        refine own_go (t' := T22.setTop (mkF m 99 #[.val (.ref t), .val (.ref b), .val (.int (Int32.ofNat i)), .val (.int (Int32.ofNat i)), .val (.int (at0 i)), .val (.int (-1 : Int32)), .val (.int (Int32.ofNat i))] [])) (fun _ k_ => XS.icmpYes X22.here hx rfl (pc0 := 90) (pc' := 99) rfl (Jvm.hb hby d7_90) rfl (flt (Int32.lt_asymm hpre)).2.2.2 (by decide) (by decide) k_) ?_
        refine own_go (t' := T22.setTop (mkF m 101 #[.val (.ref t), .val (.ref b), .val (.int (Int32.ofNat i)), .val (.int (Int32.ofNat i)), .val (.int (at0 i)), .val (.int (-1 : Int32)), .val (.int (Int32.ofNat i))] [(.int (Int32.ofNat i))])) (fun _ k_ => XS.iload X22.here hx rfl (Jvm.hb hby d7_99) rfl k_) ?_
        refine own_go (t' := T22.setTop (mkF m 104 #[.val (.ref t), .val (.ref b), .val (.int (Int32.ofNat i)), .val (.int (Int32.ofNat i)), .val (.int (at0 i)), .val (.int (-1 : Int32)), .val (.int (Int32.ofNat i))] [])) (fun _ k_ => XS.ifNo X22.here hx rfl (Jvm.hb hby d7_101) rfl ((if0 _ _).trans (tlt ((own_ilt (a := 0) (by omega) (by omega)).mpr (by omega))).2.2.2) k_) ?_
        refine own_go (t' := T22.setTop (mkF m 105 #[.val (.ref t), .val (.ref b), .val (.int (Int32.ofNat i)), .val (.int (Int32.ofNat i)), .val (.int (at0 i)), .val (.int (-1 : Int32)), .val (.int (Int32.ofNat i))] [(.ref t)])) (fun _ k_ => XS.aloadN X22.here hx rfl (Jvm.hb hby d7_104) rfl rfl k_) ?_
        obtain ⟨T23, X23, e23, st23⟩ := getF X22 hx hZ hown (host := "") (Or.inl (hw _ (List.mem_of_getElem? (i := 20) rfl))) Via.refl e22 (TVj.2.2.2.2.2.1) (g := (mkF m 105 #[.val (.ref t), .val (.ref b), .val (.int (Int32.ofNat i)), .val (.int (Int32.ofNat i)), .val (.int (at0 i)), .val (.int (-1 : Int32)), .val (.int (Int32.ofNat i))] [(.ref t)])) rfl rfl (Jvm.hb hby d7_105)
        refine own_go (t' := T23.setTop (mkF m 108 #[.val (.ref t), .val (.ref b), .val (.int (Int32.ofNat i)), .val (.int (Int32.ofNat i)), .val (.int (at0 i)), .val (.int (-1 : Int32)), .val (.int (Int32.ofNat i))] [(.ref aA)])) st23 ?_
        refine own_go (t' := T23.setTop (mkF m 110 #[.val (.ref t), .val (.ref b), .val (.int (Int32.ofNat i)), .val (.int (Int32.ofNat i)), .val (.int (at0 i)), .val (.int (-1 : Int32)), .val (.int (Int32.ofNat i))] [(.int (Int32.ofNat i)), (.ref aA)])) (fun _ k_ => XS.iload X23.here hx rfl (Jvm.hb hby d7_108) rfl k_) ?_
        refine own_go (t' := T23.setTop (mkF m 111 #[.val (.ref t), .val (.ref b), .val (.int (Int32.ofNat i)), .val (.int (Int32.ofNat i)), .val (.int (at0 i)), .val (.int (-1 : Int32)), .val (.int (Int32.ofNat i))] [(.int (1 : Int32)), (.int (Int32.ofNat i)), (.ref aA)])) (fun _ k_ => XS.iconst X23.here hx rfl (Jvm.hb hby d7_110) k_) ?_
        refine own_go (t' := T23.setTop (mkF m 112 #[.val (.ref t), .val (.ref b), .val (.int (Int32.ofNat i)), .val (.int (Int32.ofNat i)), .val (.int (at0 i)), .val (.int (-1 : Int32)), .val (.int (Int32.ofNat i))] [(.int ((Int32.ofNat i) - (1 : Int32))), (.ref aA)])) (fun _ k_ => XS.isub X23.here hx rfl (Jvm.hb hby d7_111) rfl k_) ?_
        rw [own_pred (show 1 ≤ i by omega)]
        refine own_go (t' := T23.setTop (mkF m 113 #[.val (.ref t), .val (.ref b), .val (.int (Int32.ofNat i)), .val (.int (Int32.ofNat i)), .val (.int (at0 i)), .val (.int (-1 : Int32)), .val (.int (Int32.ofNat i))] [(.int (at0 (i - 1)))])) (own_ldI X23 hx hZ e23 AAj (by decide) (show i - 1 < 4 by omega) (qA (i - 1) (by omega)) (g := (mkF m 112 #[.val (.ref t), .val (.ref b), .val (.int (Int32.ofNat i)), .val (.int (Int32.ofNat i)), .val (.int (at0 i)), .val (.int (-1 : Int32)), .val (.int (Int32.ofNat i))] [(.int (Int32.ofNat (i - 1))), (.ref aA)])) rfl rfl (Jvm.hb hby d7_112)) ?_
        refine own_go (t' := T23.setTop (mkF m 115 #[.val (.ref t), .val (.ref b), .val (.int (Int32.ofNat i)), .val (.int (Int32.ofNat i)), .val (.int (at0 i)), .val (.int (-1 : Int32)), .val (.int (Int32.ofNat i))] [(.int (at0 i)), (.int (at0 (i - 1)))])) (fun _ k_ => XS.iload X23.here hx rfl (Jvm.hb hby d7_113) rfl k_) ?_
        refine own_go (t' := T23.setTop (mkF m 135 #[.val (.ref t), .val (.ref b), .val (.int (Int32.ofNat i)), .val (.int (Int32.ofNat i)), .val (.int (at0 i)), .val (.int (-1 : Int32)), .val (.int (Int32.ofNat i))] [])) (fun _ k_ => XS.icmpYes X23.here hx rfl (pc0 := 115) (pc' := 135) rfl (Jvm.hb hby d7_115) rfl (feq (Int32.ne_of_lt hpre)).2 (by decide) (by decide) k_) ?_
        exact J135 T23 _ X23 e23 N10 
  exact loop1 k 0 (by omega) _ _ _ fA fC fF _ _ _ X2 e2 N2 (Keep.refl _ _) AA AC AF (Or.inl rfl) (Or.inl rfl) (Or.inl rfl) (fun j hj0 => absurd hj0 (by omega)) (fun j hj0 => absurd hj0 (by omega))
theorem ef_rm_app (m : MethodId) (x0 : Addr) : entryFrame m #[(.ref x0)] 2 = mkF m 0 #[.val (.ref x0), .unset] [] := by first | (simp [entryFrame, mkF, argsToLocals, Value.category]; done) | rfl
set_option maxRecDepth 65536 in
set_option maxHeartbeats 40000000 in
theorem rm_app (l : Launch) (Z : State) (a0 : Array Value) (hw : ∀ d ∈ tables_1, d.before a0 Z = true) (ws : List Jvm.Cond) (t aR aO aS aF aA aC sz us k : Nat) (gr : Int64) (fR fO fF : Nat → Value) (F0 : Nat → Int64) (h0 : Heap) (n0 : Nat) (Z0 : n0 ≤ h0.size) (TV : own_TV Z h0 t (.ref aR) (.ref aO) (.ref aS) (.ref aF) (.ref aA) (.ref aC) (.long (9223372036854775807 : Int64)) (.int (Int32.ofNat sz)) (.int (Int32.ofNat us)) (.long gr)) (AR : own_Ar Z h0 aR .long 64 fR) (AO : own_Ar Z h0 aO .int 16 fO) (AF : own_Ar Z h0 aF .long 8 fF) (ho : t < aR ∧ aR < aO ∧ aO < aS ∧ aS < aF ∧ aF < aA ∧ aA < aC) (gt : n0 ≤ t) (hk : k ≤ 3) (hsz : sz < 3) (hus : us + (4 + k) ≤ 64) (hF : ∀ j, j < 4 + k → fF j = .long (F0 j)) (hc : own_cnt (F0 3) = Int32.ofNat k) :
    own_Ctr l Z (⟨"com/example/brisk_rules/briskrules/GroundRuleTable", "appendForm", "()V"⟩ : MethodName) prog_11_method_27_code 2 none ws ({ frames := 1, cells := 0, slots := 0, locals := 18 } : Room) #[(.ref t)] h0 (fun v h L => v = none ∧ Fr n0 L ∧ Keep h0 h [t, aR, aO] ∧ own_TV Z h t (.ref aR) (.ref aO) (.ref aS) (.ref aF) (.ref aA) (.ref aC) (.long (9223372036854775807 : Int64)) (.int (Int32.ofNat (sz + 1))) (.int (Int32.ofNat (us + (4 + k)))) (.long (gr + 1)) ∧ own_Ar Z h aR .long 64 (fun j => if us ≤ j ∧ j < us + (4 + k) then fF (0 + (j - us)) else fR j) ∧ own_Ar Z h aO .int 16 (own_upd fO sz (.int (Int32.ofNat us)))) := by
  refine own_enter (plainFor_of_name pn_d17) ?_
  intro p e s m below meth c s₁ Bd hZ hml X0 e0
  have hx := Bd.exec
  have hby := Bd.bytes
  have hown : s.vm.findClass "com/example/brisk_rules/briskrules/GroundRuleTable" = some m.cls := findClass_of_methodNamed Bd.named
  have hnm := (name_of_methodNamed Bd.named Bd.method).1
  have N0 := Fr.nil n0
  refine own_go (t' := s₁.setTop (mkF m 0 #[.val (.ref t), .unset] [])) (fun _ k_ => castTop (ef_rm_app m t) k_) ?_
  refine own_go (t' := s₁.setTop (mkF m 1 #[.val (.ref t), .unset] [(.int (4 : Int32))])) (fun _ k_ => XS.iconst X0.here hx rfl (Jvm.hb hby d17_0) k_) ?_
  refine own_go (t' := s₁.setTop (mkF m 2 #[.val (.ref t), .unset] [(.ref t), (.int (4 : Int32))])) (fun _ k_ => XS.aloadN X0.here hx rfl (Jvm.hb hby d17_1) rfl rfl k_) ?_
  obtain ⟨T1, X1, e1, st1⟩ := getF X0 hx hZ hown (host := "") (Or.inl (hw _ (List.mem_of_getElem? (i := 18) rfl))) Via.refl e0 (TV.2.2.2.2.1) (g := (mkF m 2 #[.val (.ref t), .unset] [(.ref t), (.int (4 : Int32))])) rfl rfl (Jvm.hb hby d17_2)
  refine own_go (t' := T1.setTop (mkF m 5 #[.val (.ref t), .unset] [(.ref aF), (.int (4 : Int32))])) st1 ?_
  refine own_go (t' := T1.setTop (mkF m 6 #[.val (.ref t), .unset] [(.int (0 : Int32)), (.ref aF), (.int (4 : Int32))])) (fun _ k_ => XS.iconst X1.here hx rfl (Jvm.hb hby d17_5) k_) ?_
  obtain ⟨T2, L2, v2, X2, hQ2, st2⟩ := own_static X1 hx hZ hown (hw _ (List.mem_of_getElem? (i := 115) rfl)) (hw _ (List.mem_of_getElem? (i := 116) rfl)) (hw _ (List.mem_of_getElem? (i := 2) rfl)) (hw _ (List.mem_of_getElem? (i := 117) rfl)) (by decide) (rm_lit l Z a0 hw [] aF 8 fF (F0 3) h0 n0 Z0 AF (by decide) (by decide) (hF 3 (by omega))) e1 (g := (mkF m 6 #[.val (.ref t), .unset] [(.int (0 : Int32)), (.ref aF), (.int (4 : Int32))])) rfl (by rw [hml]; rfl) (argsL := [(.ref aF), (.int (0 : Int32))]) (rest := [(.int (4 : Int32))]) (lenOf pd_d16 rfl) rfl (W := 1) (by show 2 * 0 + _ ≤ _; exact Nat.le_of_eq rfl) (Jvm.hb hby d17_6) (by decide) (by decide) (by decide) (by decide)
  obtain ⟨rfl, Nq2, e2⟩ := hQ2
  have N2 := Fr.app N0 Nq2
  refine own_go (t' := T2.setTop (mkF m 9 #[.val (.ref t), .unset] [(.int (own_cnt (F0 3))), (.int (4 : Int32))])) st2 ?_
  rw [hc]
  refine own_go (t' := T2.setTop (mkF m 10 #[.val (.ref t), .unset] [(.int ((4 : Int32) + (Int32.ofNat k)))])) (fun _ k_ => XS.iadd X2.here hx rfl (Jvm.hb hby d17_9) rfl k_) ?_
  rw [own_add4 k]
  refine own_go (t' := T2.setTop (mkF m 11 #[.val (.ref t), .val (.int (Int32.ofNat (4 + k)))] [])) (fun _ k_ => XS.istoreN X2.here hx rfl (Jvm.hb hby d17_10) rfl (l' := #[.val (.ref t), .val (.int (Int32.ofNat (4 + k)))]) rfl k_) ?_
  refine own_go (t' := T2.setTop (mkF m 12 #[.val (.ref t), .val (.int (Int32.ofNat (4 + k)))] [(.ref t)])) (fun _ k_ => XS.aloadN X2.here hx rfl (Jvm.hb hby d17_11) rfl rfl k_) ?_
  obtain ⟨T3, X3, e3, st3⟩ := getF X2 hx hZ hown (host := "") (Or.inl (hw _ (List.mem_of_getElem? (i := 120) rfl))) Via.refl e2 (TV.2.2.2.2.2.2.2.2.1) (g := (mkF m 12 #[.val (.ref t), .val (.int (Int32.ofNat (4 + k)))] [(.ref t)])) rfl rfl (Jvm.hb hby d17_12)
  refine own_go (t' := T3.setTop (mkF m 15 #[.val (.ref t), .val (.int (Int32.ofNat (4 + k)))] [(.int (Int32.ofNat sz))])) st3 ?_
  refine own_go (t' := T3.setTop (mkF m 16 #[.val (.ref t), .val (.int (Int32.ofNat (4 + k)))] [(.ref t), (.int (Int32.ofNat sz))])) (fun _ k_ => XS.aloadN X3.here hx rfl (Jvm.hb hby d17_15) rfl rfl k_) ?_
  obtain ⟨T4, X4, e4, st4⟩ := getF X3 hx hZ hown (host := "") (Or.inl (hw _ (List.mem_of_getElem? (i := 14) rfl))) Via.refl e3 (TV.2.2.1) (g := (mkF m 16 #[.val (.ref t), .val (.int (Int32.ofNat (4 + k)))] [(.ref t), (.int (Int32.ofNat sz))])) rfl rfl (Jvm.hb hby d17_16)
  refine own_go (t' := T4.setTop (mkF m 19 #[.val (.ref t), .val (.int (Int32.ofNat (4 + k)))] [(.ref aO), (.int (Int32.ofNat sz))])) st4 ?_
  refine own_go (t' := T4.setTop (mkF m 20 #[.val (.ref t), .val (.int (Int32.ofNat (4 + k)))] [(.int (Int32.ofNat 16)), (.int (Int32.ofNat sz))])) (own_alen X4 hx hZ e4 AO (g := (mkF m 19 #[.val (.ref t), .val (.int (Int32.ofNat (4 + k)))] [(.ref aO), (.int (Int32.ofNat sz))])) rfl rfl (Jvm.hb hby d17_19)) ?_
  refine own_go (t' := T4.setTop (mkF m 42 #[.val (.ref t), .val (.int (Int32.ofNat (4 + k)))] [])) (fun _ k_ => XS.icmpYes X4.here hx rfl (pc0 := 20) (pc' := 42) rfl (Jvm.hb hby d17_20) rfl (feq (own_ine (by omega) (by omega) (by omega))).2 (by decide) (by decide) k_) ?_
  refine own_go (t' := T4.setTop (mkF m 43 #[.val (.ref t), .val (.int (Int32.ofNat (4 + k)))] [(.ref t)])) (fun _ k_ => XS.aloadN X4.here hx rfl (Jvm.hb hby d17_42) rfl rfl k_) ?_
  obtain ⟨T5, X5, e5, st5⟩ := getF X4 hx hZ hown (host := "") (Or.inl (hw _ (List.mem_of_getElem? (i := 122) rfl))) Via.refl e4 (TV.2.2.2.2.2.2.2.2.2.1) (g := (mkF m 43 #[.val (.ref t), .val (.int (Int32.ofNat (4 + k)))] [(.ref t)])) rfl rfl (Jvm.hb hby d17_43)
  refine own_go (t' := T5.setTop (mkF m 46 #[.val (.ref t), .val (.int (Int32.ofNat (4 + k)))] [(.int (Int32.ofNat us))])) st5 ?_
  refine own_go (t' := T5.setTop (mkF m 47 #[.val (.ref t), .val (.int (Int32.ofNat (4 + k)))] [(.int (Int32.ofNat (4 + k))), (.int (Int32.ofNat us))])) (fun _ k_ => XS.iloadN X5.here hx rfl (Jvm.hb hby d17_46) rfl k_) ?_
  refine own_go (t' := T5.setTop (mkF m 48 #[.val (.ref t), .val (.int (Int32.ofNat (4 + k)))] [(.int ((Int32.ofNat us) + (Int32.ofNat (4 + k))))])) (fun _ k_ => XS.iadd X5.here hx rfl (Jvm.hb hby d17_47) rfl k_) ?_
  rw [own_add us (4 + k)]
  refine own_go (t' := T5.setTop (mkF m 49 #[.val (.ref t), .val (.int (Int32.ofNat (4 + k)))] [(.ref t), (.int (Int32.ofNat (us + (4 + k))))])) (fun _ k_ => XS.aloadN X5.here hx rfl (Jvm.hb hby d17_48) rfl rfl k_) ?_
  obtain ⟨T6, X6, e6, st6⟩ := getF X5 hx hZ hown (host := "") (Or.inl (hw _ (List.mem_of_getElem? (i := 11) rfl))) Via.refl e5 (TV.2.1) (g := (mkF m 49 #[.val (.ref t), .val (.int (Int32.ofNat (4 + k)))] [(.ref t), (.int (Int32.ofNat (us + (4 + k))))])) rfl rfl (Jvm.hb hby d17_49)
  refine own_go (t' := T6.setTop (mkF m 52 #[.val (.ref t), .val (.int (Int32.ofNat (4 + k)))] [(.ref aR), (.int (Int32.ofNat (us + (4 + k))))])) st6 ?_
  refine own_go (t' := T6.setTop (mkF m 53 #[.val (.ref t), .val (.int (Int32.ofNat (4 + k)))] [(.int (Int32.ofNat 64)), (.int (Int32.ofNat (us + (4 + k))))])) (own_alen X6 hx hZ e6 AR (g := (mkF m 52 #[.val (.ref t), .val (.int (Int32.ofNat (4 + k)))] [(.ref aR), (.int (Int32.ofNat (us + (4 + k))))])) rfl rfl (Jvm.hb hby d17_52)) ?_
  refine own_go (t' := T6.setTop (mkF m 76 #[.val (.ref t), .val (.int (Int32.ofNat (4 + k)))] [])) (fun _ k_ => XS.icmpYes X6.here hx rfl (pc0 := 53) (pc' := 76) rfl (Jvm.hb hby d17_53) rfl (flt (own_nlt (by omega) (by omega) (by omega))).2.2.2 (by decide) (by decide) k_) ?_
  refine own_go (t' := T6.setTop (mkF m 77 #[.val (.ref t), .val (.int (Int32.ofNat (4 + k)))] [(.ref t)])) (fun _ k_ => XS.aloadN X6.here hx rfl (Jvm.hb hby d17_76) rfl rfl k_) ?_
  obtain ⟨T7, X7, e7, st7⟩ := getF X6 hx hZ hown (host := "") (Or.inl (hw _ (List.mem_of_getElem? (i := 18) rfl))) Via.refl e6 (TV.2.2.2.2.1) (g := (mkF m 77 #[.val (.ref t), .val (.int (Int32.ofNat (4 + k)))] [(.ref t)])) rfl rfl (Jvm.hb hby d17_77)
  refine own_go (t' := T7.setTop (mkF m 80 #[.val (.ref t), .val (.int (Int32.ofNat (4 + k)))] [(.ref aF)])) st7 ?_
  refine own_go (t' := T7.setTop (mkF m 81 #[.val (.ref t), .val (.int (Int32.ofNat (4 + k)))] [(.int (0 : Int32)), (.ref aF)])) (fun _ k_ => XS.iconst X7.here hx rfl (Jvm.hb hby d17_80) k_) ?_
  refine own_go (t' := T7.setTop (mkF m 82 #[.val (.ref t), .val (.int (Int32.ofNat (4 + k)))] [(.ref t), (.int (0 : Int32)), (.ref aF)])) (fun _ k_ => XS.aloadN X7.here hx rfl (Jvm.hb hby d17_81) rfl rfl k_) ?_
  obtain ⟨T8, X8, e8, st8⟩ := getF X7 hx hZ hown (host := "") (Or.inl (hw _ (List.mem_of_getElem? (i := 11) rfl))) Via.refl e7 (TV.2.1) (g := (mkF m 82 #[.val (.ref t), .val (.int (Int32.ofNat (4 + k)))] [(.ref t), (.int (0 : Int32)), (.ref aF)])) rfl rfl (Jvm.hb hby d17_82)
  refine own_go (t' := T8.setTop (mkF m 85 #[.val (.ref t), .val (.int (Int32.ofNat (4 + k)))] [(.ref aR), (.int (0 : Int32)), (.ref aF)])) st8 ?_
  refine own_go (t' := T8.setTop (mkF m 86 #[.val (.ref t), .val (.int (Int32.ofNat (4 + k)))] [(.ref t), (.ref aR), (.int (0 : Int32)), (.ref aF)])) (fun _ k_ => XS.aloadN X8.here hx rfl (Jvm.hb hby d17_85) rfl rfl k_) ?_
  obtain ⟨T9, X9, e9, st9⟩ := getF X8 hx hZ hown (host := "") (Or.inl (hw _ (List.mem_of_getElem? (i := 122) rfl))) Via.refl e8 (TV.2.2.2.2.2.2.2.2.2.1) (g := (mkF m 86 #[.val (.ref t), .val (.int (Int32.ofNat (4 + k)))] [(.ref t), (.ref aR), (.int (0 : Int32)), (.ref aF)])) rfl rfl (Jvm.hb hby d17_86)
  refine own_go (t' := T9.setTop (mkF m 89 #[.val (.ref t), .val (.int (Int32.ofNat (4 + k)))] [(.int (Int32.ofNat us)), (.ref aR), (.int (0 : Int32)), (.ref aF)])) st9 ?_
  refine own_go (t' := T9.setTop (mkF m 90 #[.val (.ref t), .val (.int (Int32.ofNat (4 + k)))] [(.int (Int32.ofNat (4 + k))), (.int (Int32.ofNat us)), (.ref aR), (.int (0 : Int32)), (.ref aF)])) (fun _ k_ => XS.iloadN X9.here hx rfl (Jvm.hb hby d17_89) rfl k_) ?_
  obtain ⟨T10, h10, X10, e10, K10, A10, st10⟩ := own_copy X9 hx hZ hown (hw _ (List.mem_of_getElem? (i := 82) rfl)) (hw _ (List.mem_of_getElem? (i := 85) rfl)) (hw _ (List.mem_of_getElem? (i := 83) rfl)) (hw _ (List.mem_of_getElem? (i := 84) rfl)) e9 (4 + k) (o := 0) (q := us) rfl AF AR (by omega) (by omega) (by decide) (by decide) (fun j hj0 => by rw [Nat.zero_add, hF j hj0]; exact ⟨rfl, fun r q => nomatch q⟩) (g := (mkF m 90 #[.val (.ref t), .val (.int (Int32.ofNat (4 + k)))] [(.int (Int32.ofNat (4 + k))), (.int (Int32.ofNat us)), (.ref aR), (.int (0 : Int32)), (.ref aF)])) rfl (by rw [hml]; rfl) rfl (Jvm.hb hby d17_90) (by decide) (W := 0) (by show 2 * 0 + _ ≤ _; exact Nat.le_of_eq rfl) (by decide)
  refine own_go (t' := T10.setTop (mkF m 93 #[.val (.ref t), .val (.int (Int32.ofNat (4 + k)))] [])) st10 ?_
  have N10 := Fr.app N2 (own_Fr_copy (q := us) (k := (4 + k)) (show n0 ≤ aR by omega))
  have TV10 := own_TV_keep TV K10 (own_nin1 (by omega))
  have AO10 := own_Ar_keep K10 (own_nin1 (by omega)) AO
  refine own_go (t' := T10.setTop (mkF m 94 #[.val (.ref t), .val (.int (Int32.ofNat (4 + k)))] [(.ref t)])) (fun _ k_ => XS.aloadN X10.here hx rfl (Jvm.hb hby d17_93) rfl rfl k_) ?_
  obtain ⟨T11, X11, e11, st11⟩ := getF X10 hx hZ hown (host := "") (Or.inl (hw _ (List.mem_of_getElem? (i := 14) rfl))) Via.refl e10 (TV10.2.2.1) (g := (mkF m 94 #[.val (.ref t), .val (.int (Int32.ofNat (4 + k)))] [(.ref t)])) rfl rfl (Jvm.hb hby d17_94)
  refine own_go (t' := T11.setTop (mkF m 97 #[.val (.ref t), .val (.int (Int32.ofNat (4 + k)))] [(.ref aO)])) st11 ?_
  refine own_go (t' := T11.setTop (mkF m 98 #[.val (.ref t), .val (.int (Int32.ofNat (4 + k)))] [(.ref t), (.ref aO)])) (fun _ k_ => XS.aloadN X11.here hx rfl (Jvm.hb hby d17_97) rfl rfl k_) ?_
  obtain ⟨T12, X12, e12, st12⟩ := getF X11 hx hZ hown (host := "") (Or.inl (hw _ (List.mem_of_getElem? (i := 120) rfl))) Via.refl e11 (TV10.2.2.2.2.2.2.2.2.1) (g := (mkF m 98 #[.val (.ref t), .val (.int (Int32.ofNat (4 + k)))] [(.ref t), (.ref aO)])) rfl rfl (Jvm.hb hby d17_98)
  refine own_go (t' := T12.setTop (mkF m 101 #[.val (.ref t), .val (.int (Int32.ofNat (4 + k)))] [(.int (Int32.ofNat sz)), (.ref aO)])) st12 ?_
  refine own_go (t' := T12.setTop (mkF m 102 #[.val (.ref t), .val (.int (Int32.ofNat (4 + k)))] [(.ref t), (.int (Int32.ofNat sz)), (.ref aO)])) (fun _ k_ => XS.aloadN X12.here hx rfl (Jvm.hb hby d17_101) rfl rfl k_) ?_
  obtain ⟨T13, X13, e13, st13⟩ := getF X12 hx hZ hown (host := "") (Or.inl (hw _ (List.mem_of_getElem? (i := 122) rfl))) Via.refl e12 (TV10.2.2.2.2.2.2.2.2.2.1) (g := (mkF m 102 #[.val (.ref t), .val (.int (Int32.ofNat (4 + k)))] [(.ref t), (.int (Int32.ofNat sz)), (.ref aO)])) rfl rfl (Jvm.hb hby d17_102)
  refine own_go (t' := T13.setTop (mkF m 105 #[.val (.ref t), .val (.int (Int32.ofNat (4 + k)))] [(.int (Int32.ofNat us)), (.int (Int32.ofNat sz)), (.ref aO)])) st13 ?_
  obtain ⟨T14, h14, X14, e14, W14, A14, st14⟩ := own_stI X13 hx hZ e13 AO10 (by decide) (show sz < 16 by omega) (g := (mkF m 105 #[.val (.ref t), .val (.int (Int32.ofNat (4 + k)))] [(.int (Int32.ofNat us)), (.int (Int32.ofNat sz)), (.ref aO)])) rfl rfl (Jvm.hb hby d17_105)
  refine own_go (t' := T14.setTop (mkF m 106 #[.val (.ref t), .val (.int (Int32.ofNat (4 + k)))] [])) st14 ?_
  have N14 := Fr.snoc X14 N10 (show n0 ≤ aO by omega)
  have TV14 := own_TV_keep TV10 (Keep.of_wr W14) (own_nin1 (by omega))
  have AR14 := own_Ar_oth W14 (by omega) A10
  refine own_go (t' := T14.setTop (mkF m 107 #[.val (.ref t), .val (.int (Int32.ofNat (4 + k)))] [(.ref t)])) (fun _ k_ => XS.aloadN X14.here hx rfl (Jvm.hb hby d17_106) rfl rfl k_) ?_
  refine own_go (t' := T14.setTop (mkF m 108 #[.val (.ref t), .val (.int (Int32.ofNat (4 + k)))] [(.ref t), (.ref t)])) (fun _ k_ => XS.dup X14.here hx rfl (Jvm.hb hby d17_107) rfl rfl k_) ?_
  obtain ⟨T15, X15, e15, st15⟩ := getF X14 hx hZ hown (host := "") (Or.inl (hw _ (List.mem_of_getElem? (i := 120) rfl))) Via.refl e14 (TV14.2.2.2.2.2.2.2.2.1) (g := (mkF m 108 #[.val (.ref t), .val (.int (Int32.ofNat (4 + k)))] [(.ref t), (.ref t)])) rfl rfl (Jvm.hb hby d17_108)
  refine own_go (t' := T15.setTop (mkF m 111 #[.val (.ref t), .val (.int (Int32.ofNat (4 + k)))] [(.int (Int32.ofNat sz)), (.ref t)])) st15 ?_
  refine own_go (t' := T15.setTop (mkF m 112 #[.val (.ref t), .val (.int (Int32.ofNat (4 + k)))] [(.int (1 : Int32)), (.int (Int32.ofNat sz)), (.ref t)])) (fun _ k_ => XS.iconst X15.here hx rfl (Jvm.hb hby d17_111) k_) ?_
  refine own_go (t' := T15.setTop (mkF m 113 #[.val (.ref t), .val (.int (Int32.ofNat (4 + k)))] [(.int ((Int32.ofNat sz) + (1 : Int32))), (.ref t)])) (fun _ k_ => XS.iadd X15.here hx rfl (Jvm.hb hby d17_112) rfl k_) ?_
  rw [own_succ sz]
  obtain ⟨T16, h16, X16, e16, W16, st16⟩ := putF X15 hx hZ hown (host := "") (Or.inl (hw _ (List.mem_of_getElem? (i := 120) rfl))) Via.refl e15 (TV14.2.2.2.2.2.2.2.2.1) TV14.1 (Or.inl (hw _ (List.mem_of_getElem? (i := 121) rfl))) (hw _ (List.mem_of_getElem? (i := 1) rfl)) (ty := .int) (by decide) rfl rfl (g := (mkF m 113 #[.val (.ref t), .val (.int (Int32.ofNat (4 + k)))] [(.int (Int32.ofNat (sz + 1))), (.ref t)])) rfl rfl (Jvm.hb hby d17_113)
  refine own_go (t' := T16.setTop (mkF m 116 #[.val (.ref t), .val (.int (Int32.ofNat (4 + k)))] [])) st16 ?_
  have N16 := Fr.snoc X16 N14 gt
  have TV16 : own_TV Z h16 t (.ref aR) (.ref aO) (.ref aS) (.ref aF) (.ref aA) (.ref aC) (.long (9223372036854775807 : Int64)) (.int (Int32.ofNat (sz + 1))) (.int (Int32.ofNat us)) (.long gr) := ⟨TV14.1.wr W16, (TV14.2.1).other W16 (Or.inr (slot_ne (C := "com/example/brisk_rules/briskrules/GroundRuleTable") (Or.inl (hw _ (List.mem_of_getElem? (i := 12) rfl))) (Or.inl (hw _ (List.mem_of_getElem? (i := 121) rfl))) (by decide) (t := (.array .long)) (t' := .int) (by decide) (by decide))), (TV14.2.2.1).other W16 (Or.inr (slot_ne (C := "com/example/brisk_rules/briskrules/GroundRuleTable") (Or.inl (hw _ (List.mem_of_getElem? (i := 15) rfl))) (Or.inl (hw _ (List.mem_of_getElem? (i := 121) rfl))) (by decide) (t := (.array .int)) (t' := .int) (by decide) (by decide))), (TV14.2.2.2.1).other W16 (Or.inr (slot_ne (C := "com/example/brisk_rules/briskrules/GroundRuleTable") (Or.inl (hw _ (List.mem_of_getElem? (i := 17) rfl))) (Or.inl (hw _ (List.mem_of_getElem? (i := 121) rfl))) (by decide) (t := (.array .long)) (t' := .int) (by decide) (by decide))), (TV14.2.2.2.2.1).other W16 (Or.inr (slot_ne (C := "com/example/brisk_rules/briskrules/GroundRuleTable") (Or.inl (hw _ (List.mem_of_getElem? (i := 19) rfl))) (Or.inl (hw _ (List.mem_of_getElem? (i := 121) rfl))) (by decide) (t := (.array .long)) (t' := .int) (by decide) (by decide))), (TV14.2.2.2.2.2.1).other W16 (Or.inr (slot_ne (C := "com/example/brisk_rules/briskrules/GroundRuleTable") (Or.inl (hw _ (List.mem_of_getElem? (i := 21) rfl))) (Or.inl (hw _ (List.mem_of_getElem? (i := 121) rfl))) (by decide) (t := (.array .int)) (t' := .int) (by decide) (by decide))), (TV14.2.2.2.2.2.2.1).other W16 (Or.inr (slot_ne (C := "com/example/brisk_rules/briskrules/GroundRuleTable") (Or.inl (hw _ (List.mem_of_getElem? (i := 23) rfl))) (Or.inl (hw _ (List.mem_of_getElem? (i := 121) rfl))) (by decide) (t := (.array .int)) (t' := .int) (by decide) (by decide))), (TV14.2.2.2.2.2.2.2.1).other W16 (Or.inr (slot_ne (C := "com/example/brisk_rules/briskrules/GroundRuleTable") (Or.inr (hw _ (List.mem_of_getElem? (i := 25) rfl))) (Or.inl (hw _ (List.mem_of_getElem? (i := 121) rfl))) (by decide) (t := .long) (t' := .int) (by decide) (by decide))), (TV14.2.2.2.2.2.2.2.2.1).same W16, (TV14.2.2.2.2.2.2.2.2.2.1).other W16 (Or.inr (slot_ne (C := "com/example/brisk_rules/briskrules/GroundRuleTable") (Or.inl (hw _ (List.mem_of_getElem? (i := 123) rfl))) (Or.inl (hw _ (List.mem_of_getElem? (i := 121) rfl))) (by decide) (t := .int) (t' := .int) (by decide) (by decide))), (TV14.2.2.2.2.2.2.2.2.2.2).other W16 (Or.inr (slot_ne (C := "com/example/brisk_rules/briskrules/GroundRuleTable") (Or.inl (hw _ (List.mem_of_getElem? (i := 129) rfl))) (Or.inl (hw _ (List.mem_of_getElem? (i := 121) rfl))) (by decide) (t := .long) (t' := .int) (by decide) (by decide)))⟩
  refine own_go (t' := T16.setTop (mkF m 117 #[.val (.ref t), .val (.int (Int32.ofNat (4 + k)))] [(.ref t)])) (fun _ k_ => XS.aloadN X16.here hx rfl (Jvm.hb hby d17_116) rfl rfl k_) ?_
  refine own_go (t' := T16.setTop (mkF m 118 #[.val (.ref t), .val (.int (Int32.ofNat (4 + k)))] [(.ref t), (.ref t)])) (fun _ k_ => XS.dup X16.here hx rfl (Jvm.hb hby d17_117) rfl rfl k_) ?_
  obtain ⟨T17, X17, e17, st17⟩ := getF X16 hx hZ hown (host := "") (Or.inl (hw _ (List.mem_of_getElem? (i := 122) rfl))) Via.refl e16 (TV16.2.2.2.2.2.2.2.2.2.1) (g := (mkF m 118 #[.val (.ref t), .val (.int (Int32.ofNat (4 + k)))] [(.ref t), (.ref t)])) rfl rfl (Jvm.hb hby d17_118)
  refine own_go (t' := T17.setTop (mkF m 121 #[.val (.ref t), .val (.int (Int32.ofNat (4 + k)))] [(.int (Int32.ofNat us)), (.ref t)])) st17 ?_
  refine own_go (t' := T17.setTop (mkF m 122 #[.val (.ref t), .val (.int (Int32.ofNat (4 + k)))] [(.int (Int32.ofNat (4 + k))), (.int (Int32.ofNat us)), (.ref t)])) (fun _ k_ => XS.iloadN X17.here hx rfl (Jvm.hb hby d17_121) rfl k_) ?_
  refine own_go (t' := T17.setTop (mkF m 123 #[.val (.ref t), .val (.int (Int32.ofNat (4 + k)))] [(.int ((Int32.ofNat us) + (Int32.ofNat (4 + k)))), (.ref t)])) (fun _ k_ => XS.iadd X17.here hx rfl (Jvm.hb hby d17_122) rfl k_) ?_
  rw [own_add us (4 + k)]
  obtain ⟨T18, h18, X18, e18, W18, st18⟩ := putF X17 hx hZ hown (host := "") (Or.inl (hw _ (List.mem_of_getElem? (i := 122) rfl))) Via.refl e17 (TV16.2.2.2.2.2.2.2.2.2.1) TV16.1 (Or.inl (hw _ (List.mem_of_getElem? (i := 123) rfl))) (hw _ (List.mem_of_getElem? (i := 1) rfl)) (ty := .int) (by decide) rfl rfl (g := (mkF m 123 #[.val (.ref t), .val (.int (Int32.ofNat (4 + k)))] [(.int (Int32.ofNat (us + (4 + k)))), (.ref t)])) rfl rfl (Jvm.hb hby d17_123)
  refine own_go (t' := T18.setTop (mkF m 126 #[.val (.ref t), .val (.int (Int32.ofNat (4 + k)))] [])) st18 ?_
  have N18 := Fr.snoc X18 N16 gt
  have TV18 : own_TV Z h18 t (.ref aR) (.ref aO) (.ref aS) (.ref aF) (.ref aA) (.ref aC) (.long (9223372036854775807 : Int64)) (.int (Int32.ofNat (sz + 1))) (.int (Int32.ofNat (us + (4 + k)))) (.long gr) := ⟨TV16.1.wr W18, (TV16.2.1).other W18 (Or.inr (slot_ne (C := "com/example/brisk_rules/briskrules/GroundRuleTable") (Or.inl (hw _ (List.mem_of_getElem? (i := 12) rfl))) (Or.inl (hw _ (List.mem_of_getElem? (i := 123) rfl))) (by decide) (t := (.array .long)) (t' := .int) (by decide) (by decide))), (TV16.2.2.1).other W18 (Or.inr (slot_ne (C := "com/example/brisk_rules/briskrules/GroundRuleTable") (Or.inl (hw _ (List.mem_of_getElem? (i := 15) rfl))) (Or.inl (hw _ (List.mem_of_getElem? (i := 123) rfl))) (by decide) (t := (.array .int)) (t' := .int) (by decide) (by decide))), (TV16.2.2.2.1).other W18 (Or.inr (slot_ne (C := "com/example/brisk_rules/briskrules/GroundRuleTable") (Or.inl (hw _ (List.mem_of_getElem? (i := 17) rfl))) (Or.inl (hw _ (List.mem_of_getElem? (i := 123) rfl))) (by decide) (t := (.array .long)) (t' := .int) (by decide) (by decide))), (TV16.2.2.2.2.1).other W18 (Or.inr (slot_ne (C := "com/example/brisk_rules/briskrules/GroundRuleTable") (Or.inl (hw _ (List.mem_of_getElem? (i := 19) rfl))) (Or.inl (hw _ (List.mem_of_getElem? (i := 123) rfl))) (by decide) (t := (.array .long)) (t' := .int) (by decide) (by decide))), (TV16.2.2.2.2.2.1).other W18 (Or.inr (slot_ne (C := "com/example/brisk_rules/briskrules/GroundRuleTable") (Or.inl (hw _ (List.mem_of_getElem? (i := 21) rfl))) (Or.inl (hw _ (List.mem_of_getElem? (i := 123) rfl))) (by decide) (t := (.array .int)) (t' := .int) (by decide) (by decide))), (TV16.2.2.2.2.2.2.1).other W18 (Or.inr (slot_ne (C := "com/example/brisk_rules/briskrules/GroundRuleTable") (Or.inl (hw _ (List.mem_of_getElem? (i := 23) rfl))) (Or.inl (hw _ (List.mem_of_getElem? (i := 123) rfl))) (by decide) (t := (.array .int)) (t' := .int) (by decide) (by decide))), (TV16.2.2.2.2.2.2.2.1).other W18 (Or.inr (slot_ne (C := "com/example/brisk_rules/briskrules/GroundRuleTable") (Or.inr (hw _ (List.mem_of_getElem? (i := 25) rfl))) (Or.inl (hw _ (List.mem_of_getElem? (i := 123) rfl))) (by decide) (t := .long) (t' := .int) (by decide) (by decide))), (TV16.2.2.2.2.2.2.2.2.1).other W18 (Or.inr (slot_ne (C := "com/example/brisk_rules/briskrules/GroundRuleTable") (Or.inl (hw _ (List.mem_of_getElem? (i := 121) rfl))) (Or.inl (hw _ (List.mem_of_getElem? (i := 123) rfl))) (by decide) (t := .int) (t' := .int) (by decide) (by decide))), (TV16.2.2.2.2.2.2.2.2.2.1).same W18, (TV16.2.2.2.2.2.2.2.2.2.2).other W18 (Or.inr (slot_ne (C := "com/example/brisk_rules/briskrules/GroundRuleTable") (Or.inl (hw _ (List.mem_of_getElem? (i := 129) rfl))) (Or.inl (hw _ (List.mem_of_getElem? (i := 123) rfl))) (by decide) (t := .long) (t' := .int) (by decide) (by decide)))⟩
  refine own_go (t' := T18.setTop (mkF m 127 #[.val (.ref t), .val (.int (Int32.ofNat (4 + k)))] [(.ref t)])) (fun _ k_ => XS.aloadN X18.here hx rfl (Jvm.hb hby d17_126) rfl rfl k_) ?_
  refine own_go (t' := T18.setTop (mkF m 128 #[.val (.ref t), .val (.int (Int32.ofNat (4 + k)))] [(.ref t), (.ref t)])) (fun _ k_ => XS.dup X18.here hx rfl (Jvm.hb hby d17_127) rfl rfl k_) ?_
  obtain ⟨T19, X19, e19, st19⟩ := getF X18 hx hZ hown (host := "") (Or.inl (hw _ (List.mem_of_getElem? (i := 128) rfl))) Via.refl e18 (TV18.2.2.2.2.2.2.2.2.2.2) (g := (mkF m 128 #[.val (.ref t), .val (.int (Int32.ofNat (4 + k)))] [(.ref t), (.ref t)])) rfl rfl (Jvm.hb hby d17_128)
  refine own_go (t' := T19.setTop (mkF m 131 #[.val (.ref t), .val (.int (Int32.ofNat (4 + k)))] [(.long gr), (.ref t)])) st19 ?_
  refine own_go (t' := T19.setTop (mkF m 132 #[.val (.ref t), .val (.int (Int32.ofNat (4 + k)))] [(.long (1 : Int64)), (.long gr), (.ref t)])) (fun _ k_ => XS.lconst X19.here hx rfl (Jvm.hb hby d17_131) k_) ?_
  refine own_go (t' := T19.setTop (mkF m 133 #[.val (.ref t), .val (.int (Int32.ofNat (4 + k)))] [(.long (gr + (1 : Int64))), (.ref t)])) (fun _ k_ => XS.ladd X19.here hx rfl (Jvm.hb hby d17_132) rfl k_) ?_
  obtain ⟨T20, h20, X20, e20, W20, st20⟩ := putF X19 hx hZ hown (host := "") (Or.inl (hw _ (List.mem_of_getElem? (i := 128) rfl))) Via.refl e19 (TV18.2.2.2.2.2.2.2.2.2.2) TV18.1 (Or.inl (hw _ (List.mem_of_getElem? (i := 129) rfl))) (hw _ (List.mem_of_getElem? (i := 1) rfl)) (ty := .long) (by decide) rfl rfl (g := (mkF m 133 #[.val (.ref t), .val (.int (Int32.ofNat (4 + k)))] [(.long (gr + (1 : Int64))), (.ref t)])) rfl rfl (Jvm.hb hby d17_133)
  refine own_go (t' := T20.setTop (mkF m 136 #[.val (.ref t), .val (.int (Int32.ofNat (4 + k)))] [])) st20 ?_
  have N20 := Fr.snoc X20 N18 gt
  have TV20 : own_TV Z h20 t (.ref aR) (.ref aO) (.ref aS) (.ref aF) (.ref aA) (.ref aC) (.long (9223372036854775807 : Int64)) (.int (Int32.ofNat (sz + 1))) (.int (Int32.ofNat (us + (4 + k)))) (.long (gr + 1)) := ⟨TV18.1.wr W20, (TV18.2.1).other W20 (Or.inr (slot_ne (C := "com/example/brisk_rules/briskrules/GroundRuleTable") (Or.inl (hw _ (List.mem_of_getElem? (i := 12) rfl))) (Or.inl (hw _ (List.mem_of_getElem? (i := 129) rfl))) (by decide) (t := (.array .long)) (t' := .long) (by decide) (by decide))), (TV18.2.2.1).other W20 (Or.inr (slot_ne (C := "com/example/brisk_rules/briskrules/GroundRuleTable") (Or.inl (hw _ (List.mem_of_getElem? (i := 15) rfl))) (Or.inl (hw _ (List.mem_of_getElem? (i := 129) rfl))) (by decide) (t := (.array .int)) (t' := .long) (by decide) (by decide))), (TV18.2.2.2.1).other W20 (Or.inr (slot_ne (C := "com/example/brisk_rules/briskrules/GroundRuleTable") (Or.inl (hw _ (List.mem_of_getElem? (i := 17) rfl))) (Or.inl (hw _ (List.mem_of_getElem? (i := 129) rfl))) (by decide) (t := (.array .long)) (t' := .long) (by decide) (by decide))), (TV18.2.2.2.2.1).other W20 (Or.inr (slot_ne (C := "com/example/brisk_rules/briskrules/GroundRuleTable") (Or.inl (hw _ (List.mem_of_getElem? (i := 19) rfl))) (Or.inl (hw _ (List.mem_of_getElem? (i := 129) rfl))) (by decide) (t := (.array .long)) (t' := .long) (by decide) (by decide))), (TV18.2.2.2.2.2.1).other W20 (Or.inr (slot_ne (C := "com/example/brisk_rules/briskrules/GroundRuleTable") (Or.inl (hw _ (List.mem_of_getElem? (i := 21) rfl))) (Or.inl (hw _ (List.mem_of_getElem? (i := 129) rfl))) (by decide) (t := (.array .int)) (t' := .long) (by decide) (by decide))), (TV18.2.2.2.2.2.2.1).other W20 (Or.inr (slot_ne (C := "com/example/brisk_rules/briskrules/GroundRuleTable") (Or.inl (hw _ (List.mem_of_getElem? (i := 23) rfl))) (Or.inl (hw _ (List.mem_of_getElem? (i := 129) rfl))) (by decide) (t := (.array .int)) (t' := .long) (by decide) (by decide))), (TV18.2.2.2.2.2.2.2.1).other W20 (Or.inr (slot_ne (C := "com/example/brisk_rules/briskrules/GroundRuleTable") (Or.inr (hw _ (List.mem_of_getElem? (i := 25) rfl))) (Or.inl (hw _ (List.mem_of_getElem? (i := 129) rfl))) (by decide) (t := .long) (t' := .long) (by decide) (by decide))), (TV18.2.2.2.2.2.2.2.2.1).other W20 (Or.inr (slot_ne (C := "com/example/brisk_rules/briskrules/GroundRuleTable") (Or.inl (hw _ (List.mem_of_getElem? (i := 121) rfl))) (Or.inl (hw _ (List.mem_of_getElem? (i := 129) rfl))) (by decide) (t := .int) (t' := .long) (by decide) (by decide))), (TV18.2.2.2.2.2.2.2.2.2.1).other W20 (Or.inr (slot_ne (C := "com/example/brisk_rules/briskrules/GroundRuleTable") (Or.inl (hw _ (List.mem_of_getElem? (i := 123) rfl))) (Or.inl (hw _ (List.mem_of_getElem? (i := 129) rfl))) (by decide) (t := .int) (t' := .long) (by decide) (by decide))), (TV18.2.2.2.2.2.2.2.2.2.2).same W20⟩
  have KK : Keep h0 h20 [t, aR, aO] := (((((Keep.refl h0 [t, aR, aO]).trans K10 (own_sub (by simp))).wr W14 (Or.inl (by simp))).wr W16 (Or.inl (by simp))).wr W18 (Or.inl (by simp))).wr W20 (Or.inl (by simp))
  exact own_retV X20 hx Bd.returns (BodyLoose.notSynchronized Bd) (Jvm.hb hby d17_136) (by decide) (by decide) ⟨rfl, N20, by rw [e20]; exact KK, by rw [e20]; exact TV20, by rw [e20]; exact own_Ar_oth W20 (by omega) (own_Ar_oth W18 (by omega) (own_Ar_oth W16 (by omega) AR14)), by rw [e20]; exact own_Ar_oth W20 (by omega) (own_Ar_oth W18 (by omega) (own_Ar_oth W16 (by omega) A14))⟩
theorem ef_rm_add (m : MethodId) (x0 : Addr) (x1 : Addr) : entryFrame m #[(.ref x0), (.ref x1)] 12 = mkF m 0 #[.val (.ref x0), .val (.ref x1), .unset, .unset, .unset, .unset, .unset, .unset, .unset, .unset, .unset, .unset] [] := by first | (simp [entryFrame, mkF, argsToLocals, Value.category]; done) | rfl
set_option maxRecDepth 65536 in
set_option maxHeartbeats 40000000 in
theorem rm_add (l : Launch) (Z : State) (a0 : Array Value) (hw : ∀ d ∈ tables_1, d.before a0 Z = true) (ws : List Jvm.Cond) (t aR aO aS aF aA aC b aa ac sz us k : Nat) (gr : Int64) (sq : Int32) (fF fA fC ga gc : Nat → Value) (at0 : Nat → Int32) (fR fO fS : Nat → Value) (i0 : Nat) (h0 : Heap) (n0 : Nat) (Z0 : n0 ≤ h0.size) (TV : own_TV Z h0 t (.ref aR) (.ref aO) (.ref aS) (.ref aF) (.ref aA) (.ref aC) (.long (9223372036854775807 : Int64)) (.int (Int32.ofNat sz)) (.int (Int32.ofNat us)) (.long gr)) (BV : own_BV Z h0 b (.double (4607182418800017408 : UInt64)) (.int sq) (.double (4607182418800017408 : UInt64)) (.ref aa) (.ref ac) (.int (Int32.ofNat k))) (AF : own_Ar Z h0 aF .long 8 fF) (AA : own_Ar Z h0 aA .int 4 fA) (AC : own_Ar Z h0 aC .int 4 fC) (Ba : own_Ar Z h0 aa .int 4 ga) (Bc : own_Ar Z h0 ac .double 4 gc) (ho : t < aR ∧ aR < aO ∧ aO < aS ∧ aS < aF ∧ aF < aA ∧ aA < aC ∧ aC < b ∧ b < aa ∧ aa < ac) (gt : n0 ≤ t) (hk : k ≤ 3) (hga : ∀ j, j < k → ga j = .int (at0 j)) (hgc : ∀ j, j < k → gc j = .double (13830554455654793216 : UInt64)) (asc : ∀ j, j < k → j + 1 < k → at0 j < at0 (j + 1)) (AR : own_Ar Z h0 aR .long 64 fR) (AO : own_Ar Z h0 aO .int 16 fO) (AS : own_Ar Z h0 aS .long 32 fS) (hla : ∀ j, j < k → (own_lit (at0 j)).toInt32 = -1) (hsq : sq = 0 ∨ sq = 1) (hsz : sz < 3) (hus : us + (4 + k) ≤ 64) (hi0 : i0 < 32) (hz0 : fS i0 = .long 0) (hfind : (own_hv k at0 sq) &&& 31 = Int32.ofNat i0 ∨ ∃ (i1 : Nat) (v1 : Int64), i1 < 32 ∧ (own_hv k at0 sq) &&& 31 = Int32.ofNat i1 ∧ fS i1 = .long v1 ∧ v1 ≠ 0 ∧ own_hi v1 ≠ (own_hv k at0 sq) ∧ (Int32.ofNat i1 + 1) &&& 31 = Int32.ofNat i0) :
    own_Ctr l Z (⟨"com/example/brisk_rules/briskrules/GroundRuleTable", "add", "(Lcom/example/brisk_rules/briskrules/GroundRule$Builder;)V"⟩ : MethodName) prog_11_method_3_code 12 none ws ({ frames := 2, cells := 0, slots := 0, locals := 36 } : Room) #[(.ref t), (.ref b)] h0 (fun v h L => v = none ∧ Fr n0 L ∧ Keep h0 h [t, aR, aO, aS, aF, aA, aC] ∧ own_TV Z h t (.ref aR) (.ref aO) (.ref aS) (.ref aF) (.ref aA) (.ref aC) (.long (9223372036854775807 : Int64)) (.int (Int32.ofNat (sz + 1))) (.int (Int32.ofNat (us + (4 + k)))) (.long (gr + 1)) ∧ ∃ fR' fF' fA' fC' : Nat → Value, own_Ar Z h aF .long 8 fF' ∧ own_Ar Z h aA .int 4 fA' ∧ own_Ar Z h aC .int 4 fC' ∧ own_Ar Z h aR .long 64 fR' ∧ (∀ j, j < us → fR' j = fR j) ∧ fR' (us + 3) = .long (own_f3 k sq) ∧ own_Ar Z h aO .int 16 (own_upd fO sz (.int (Int32.ofNat us))) ∧ own_Ar Z h aS .long 32 (own_upd fS i0 (.long (own_ent (own_hv k at0 sq) us)))) := by
  refine own_enter (plainFor_of_name pn_d5) ?_
  intro p e s m below meth c s₁ Bd hZ hml X0 e0
  have hx := Bd.exec
  have hby := Bd.bytes
  have hown : s.vm.findClass "com/example/brisk_rules/briskrules/GroundRuleTable" = some m.cls := findClass_of_methodNamed Bd.named
  have hnm := (name_of_methodNamed Bd.named Bd.method).1
  have N0 := Fr.nil n0
  refine own_go (t' := s₁.setTop (mkF m 0 #[.val (.ref t), .val (.ref b), .unset, .unset, .unset, .unset, .unset, .unset, .unset, .unset, .unset, .unset] [])) (fun _ k_ => castTop (ef_rm_add m t b) k_) ?_
  refine own_go (t' := s₁.setTop (mkF m 1 #[.val (.ref t), .val (.ref b), .unset, .unset, .unset, .unset, .unset, .unset, .unset, .unset, .unset, .unset] [(.ref b)])) (fun _ k_ => XS.aloadN X0.here hx rfl (Jvm.hb hby d5_0) rfl rfl k_) ?_
  obtain ⟨T1, L1, v1, X1, hQ1, st1⟩ := own_virtual X0 hx hZ (y := (⟨"com/example/brisk_rules/briskrules/GroundRule$Builder", "weight", "()D"⟩ : MethodName)) hown (hw _ (List.mem_of_getElem? (i := 58) rfl)) (hw _ (List.mem_of_getElem? (i := 59) rfl)) (hw _ (List.mem_of_getElem? (i := 61) rfl)) (hw _ (List.mem_of_getElem? (i := 60) rfl)) (hw _ (List.mem_of_getElem? (i := 62) rfl)) (hw _ (List.mem_of_getElem? (i := 28) rfl)) (by decide) BV.1 (rm_weight l Z a0 hw [] b _ h0 n0 Z0 (BV.2.1)) e0 (g := (mkF m 1 #[.val (.ref t), .val (.ref b), .unset, .unset, .unset, .unset, .unset, .unset, .unset, .unset, .unset, .unset] [(.ref b)])) rfl (by rw [hml]; rfl) (argsL := []) (rest := []) (lenOf pd_d6 rfl) rfl (W := 0) (by show 2 * 0 + _ ≤ _; exact Nat.le_of_eq rfl) (Jvm.hb hby d5_1) (by decide) (by decide) (by decide) (by decide)
  obtain ⟨rfl, Nq1, e1⟩ := hQ1
  have N1 := Fr.app N0 Nq1
  refine own_go (t' := T1.setTop (mkF m 4 #[.val (.ref t), .val (.ref b), .unset, .unset, .unset, .unset, .unset, .unset, .unset, .unset, .unset, .unset] [(.double (4607182418800017408 : UInt64))])) st1 ?_
  refine own_go (t' := T1.setTop (mkF m 5 #[.val (.ref t), .val (.ref b), .unset, .unset, .unset, .unset, .unset, .unset, .unset, .unset, .unset, .unset] [(.double (0 : UInt64)), (.double (4607182418800017408 : UInt64))])) (fun _ k_ => XS.dconst0 X1.here hx rfl (Jvm.hb hby d5_4) rfl k_) ?_
  refine own_go (t' := T1.setTop (mkF m 6 #[.val (.ref t), .val (.ref b), .unset, .unset, .unset, .unset, .unset, .unset, .unset, .unset, .unset, .unset] [(.int (cmpValue (FP.dcmp (4607182418800017408 : UInt64) (0 : UInt64)) CmpOp.l))])) (fun _ k_ => XS.dcmpS X1.here hx rfl (Jvm.hb hby d5_5) rfl rfl k_) ?_
  refine own_go (t' := T1.setTop (mkF m 10 #[.val (.ref t), .val (.ref b), .unset, .unset, .unset, .unset, .unset, .unset, .unset, .unset, .unset, .unset] [])) (fun _ k_ => XS.ifYes X1.here hx rfl (pc0 := 6) (pc' := 10) rfl (Jvm.hb hby d5_6) rfl ((if0 _ _).trans (feq (by decide +kernel)).2) (by decide) (by decide) k_) ?_
  refine own_go (t' := T1.setTop (mkF m 11 #[.val (.ref t), .val (.ref b), .unset, .unset, .unset, .unset, .unset, .unset, .unset, .unset, .unset, .unset] [(.ref t)])) (fun _ k_ => XS.aloadN X1.here hx rfl (Jvm.hb hby d5_10) rfl rfl k_) ?_
  refine own_go (t' := T1.setTop (mkF m 12 #[.val (.ref t), .val (.ref b), .unset, .unset, .unset, .unset, .unset, .unset, .unset, .unset, .unset, .unset] [(.ref b), (.ref t)])) (fun _ k_ => XS.aloadN X1.here hx rfl (Jvm.hb hby d5_11) rfl rfl k_) ?_
  obtain ⟨T2, L2, v2, X2, hQ2, st2⟩ := own_private X1 hx hZ (y := (⟨"com/example/brisk_rules/briskrules/GroundRuleTable", "canonical", "(Lcom/example/brisk_rules/briskrules/GroundRule$Builder;)I"⟩ : MethodName)) hown (hw _ (List.mem_of_getElem? (i := 63) rfl)) (hw _ (List.mem_of_getElem? (i := 64) rfl)) (hw _ (List.mem_of_getElem? (i := 56) rfl)) rfl (hw _ (List.mem_of_getElem? (i := 65) rfl)) (hw _ (List.mem_of_getElem? (i := 66) rfl)) (hw _ (List.mem_of_getElem? (i := 2) rfl)) (by decide) TV.1 (rm_canon l Z a0 hw [] t aR aO aS aF aA aC b aa ac sz us k gr sq fF fA fC ga gc at0 h0 n0 Z0 TV BV AF AA AC Ba Bc ho gt hk hga hgc asc) e1 (g := (mkF m 12 #[.val (.ref t), .val (.ref b), .unset, .unset, .unset, .unset, .unset, .unset, .unset, .unset, .unset, .unset] [(.ref b), (.ref t)])) rfl (by rw [hml]; rfl) (argsL := [(.ref b)]) (rest := []) (lenOf pd_d7 rfl) rfl (W := 0) (by show 2 * 0 + _ ≤ _; exact Nat.le_of_eq rfl) (Jvm.hb hby d5_12) (by decide) (by decide) (by decide) (by decide)
  obtain ⟨rfl, Nq2, K1, fA1, fC1, fF1, AA1, AC1, AF1, qF1⟩ := hQ2
  have N2 := Fr.app N1 Nq2
  refine own_go (t' := T2.setTop (mkF m 15 #[.val (.ref t), .val (.ref b), .unset, .unset, .unset, .unset, .unset, .unset, .unset, .unset, .unset, .unset] [(.int (Int32.ofNat k))])) st2 ?_
  have TV1 := own_TV_keep TV K1 (own_nin3 (by omega))
  have BV1 := own_BV_keep BV K1 (own_nin3 (by omega))
  have Z1 : n0 ≤ T2.heap.size := Nat.le_trans Z0 K1.1
  refine own_go (t' := T2.setTop (mkF m 16 #[.val (.ref t), .val (.ref b), .val (.int (Int32.ofNat k)), .unset, .unset, .unset, .unset, .unset, .unset, .unset, .unset, .unset] [])) (fun _ k_ => XS.istoreN X2.here hx rfl (Jvm.hb hby d5_15) rfl (l' := #[.val (.ref t), .val (.ref b), .val (.int (Int32.ofNat k)), .unset, .unset, .unset, .unset, .unset, .unset, .unset, .unset, .unset]) rfl k_) ?_
  refine own_go (t' := T2.setTop (mkF m 17 #[.val (.ref t), .val (.ref b), .val (.int (Int32.ofNat k)), .unset, .unset, .unset, .unset, .unset, .unset, .unset, .unset, .unset] [(.ref b)])) (fun _ k_ => XS.aloadN X2.here hx rfl (Jvm.hb hby d5_16) rfl rfl k_) ?_
  obtain ⟨T3, L3, v3, X3, hQ3, st3⟩ := own_virtual X2 hx hZ (y := (⟨"com/example/brisk_rules/briskrules/GroundRule$Builder", "constant", "()D"⟩ : MethodName)) hown (hw _ (List.mem_of_getElem? (i := 87) rfl)) (hw _ (List.mem_of_getElem? (i := 88) rfl)) (hw _ (List.mem_of_getElem? (i := 90) rfl)) (hw _ (List.mem_of_getElem? (i := 89) rfl)) (hw _ (List.mem_of_getElem? (i := 91) rfl)) (hw _ (List.mem_of_getElem? (i := 28) rfl)) (by decide) BV1.1 (rm_const l Z a0 hw [] b _ T2.heap n0 Z1 (BV1.2.2.2.1)) (rfl : T2.heap = T2.heap) (g := (mkF m 17 #[.val (.ref t), .val (.ref b), .val (.int (Int32.ofNat k)), .unset, .unset, .unset, .unset, .unset, .unset, .unset, .unset, .unset] [(.ref b)])) rfl (by rw [hml]; rfl) (argsL := []) (rest := []) (lenOf pd_d11 rfl) rfl (W := 0) (by show 2 * 0 + _ ≤ _; exact Nat.le_of_eq rfl) (Jvm.hb hby d5_17) (by decide) (by decide) (by decide) (by decide)
  obtain ⟨rfl, Nq3, e3⟩ := hQ3
  have N3 := Fr.app N2 Nq3
  refine own_go (t' := T3.setTop (mkF m 20 #[.val (.ref t), .val (.ref b), .val (.int (Int32.ofNat k)), .unset, .unset, .unset, .unset, .unset, .unset, .unset, .unset, .unset] [(.double (4607182418800017408 : UInt64))])) st3 ?_
  refine own_go (t' := T3.setTop (mkF m 21 #[.val (.ref t), .val (.ref b), .val (.int (Int32.ofNat k)), .unset, .unset, .unset, .unset, .unset, .unset, .unset, .unset, .unset] [(.double (0 : UInt64)), (.double (4607182418800017408 : UInt64))])) (fun _ k_ => XS.dconst0 X3.here hx rfl (Jvm.hb hby d5_20) rfl k_) ?_
  refine own_go (t' := T3.setTop (mkF m 22 #[.val (.ref t), .val (.ref b), .val (.int (Int32.ofNat k)), .unset, .unset, .unset, .unset, .unset, .unset, .unset, .unset, .unset] [(.double (FP.dadd (4607182418800017408 : UInt64) (0 : UInt64)))])) (fun _ k_ => XS.daddS X3.here hx rfl (Jvm.hb hby d5_21) rfl (by unfold Jvm.Free.Fl.NoNaN64; decide +kernel) rfl k_) ?_
  rw [show FP.dadd (4607182418800017408 : UInt64) (0 : UInt64) = (4607182418800017408 : UInt64) from by decide +kernel]
  refine own_go (t' := T3.setTop (mkF m 23 #[.val (.ref t), .val (.ref b), .val (.int (Int32.ofNat k)), .val (.double (4607182418800017408 : UInt64)), .second, .unset, .unset, .unset, .unset, .unset, .unset, .unset] [])) (fun _ k_ => XS.dstoreN X3.here hx rfl (Jvm.hb hby d5_22) rfl (l' := #[.val (.ref t), .val (.ref b), .val (.int (Int32.ofNat k)), .val (.double (4607182418800017408 : UInt64)), .second, .unset, .unset, .unset, .unset, .unset, .unset, .unset]) rfl k_) ?_
  refine own_go (t' := T3.setTop (mkF m 24 #[.val (.ref t), .val (.ref b), .val (.int (Int32.ofNat k)), .val (.double (4607182418800017408 : UInt64)), .second, .unset, .unset, .unset, .unset, .unset, .unset, .unset] [(.ref t)])) (fun _ k_ => XS.aloadN X3.here hx rfl (Jvm.hb hby d5_23) rfl rfl k_) ?_
  refine own_go (t' := T3.setTop (mkF m 25 #[.val (.ref t), .val (.ref b), .val (.int (Int32.ofNat k)), .val (.double (4607182418800017408 : UInt64)), .second, .unset, .unset, .unset, .unset, .unset, .unset, .unset] [(.double (4607182418800017408 : UInt64)), (.ref t)])) (fun _ k_ => XS.dloadN X3.here hx rfl (Jvm.hb hby d5_24) rfl k_) ?_
  refine own_go (t' := T3.setTop (mkF m 26 #[.val (.ref t), .val (.ref b), .val (.int (Int32.ofNat k)), .val (.double (4607182418800017408 : UInt64)), .second, .unset, .unset, .unset, .unset, .unset, .unset, .unset] [(.int (Int32.ofNat k)), (.double (4607182418800017408 : UInt64)), (.ref t)])) (fun _ k_ => XS.iloadN X3.here hx rfl (Jvm.hb hby d5_25) rfl k_) ?_
  obtain ⟨T4, L4, v4, X4, hQ4, st4⟩ := own_private X3 hx hZ (y := (⟨"com/example/brisk_rules/briskrules/GroundRuleTable", "canBeUnsatisfied", "(DI)Z"⟩ : MethodName)) hown (hw _ (List.mem_of_getElem? (i := 92) rfl)) (hw _ (List.mem_of_getElem? (i := 93) rfl)) (hw _ (List.mem_of_getElem? (i := 56) rfl)) rfl (hw _ (List.mem_of_getElem? (i := 94) rfl)) (hw _ (List.mem_of_getElem? (i := 95) rfl)) (hw _ (List.mem_of_getElem? (i := 2) rfl)) (by decide) TV1.1 (rm_cbu l Z a0 hw [] t aF k fF1 (fun j => own_lit (at0 j)) T2.heap n0 Z1 (TV1.2.2.2.2.1) AF1 qF1 hk hla) e3 (g := (mkF m 26 #[.val (.ref t), .val (.ref b), .val (.int (Int32.ofNat k)), .val (.double (4607182418800017408 : UInt64)), .second, .unset, .unset, .unset, .unset, .unset, .unset, .unset] [(.int (Int32.ofNat k)), (.double (4607182418800017408 : UInt64)), (.ref t)])) rfl (by rw [hml]; rfl) (argsL := [(.double (4607182418800017408 : UInt64)), (.int (Int32.ofNat k))]) (rest := []) (lenOf pd_d12 rfl) rfl (W := 0) (by show 2 * 0 + _ ≤ _; exact Nat.le_of_eq rfl) (Jvm.hb hby d5_26) (by decide) (by decide) (by decide) (by decide)
  obtain ⟨rfl, Nq4, e4⟩ := hQ4
  have N4 := Fr.app N3 Nq4
  refine own_go (t' := T4.setTop (mkF m 29 #[.val (.ref t), .val (.ref b), .val (.int (Int32.ofNat k)), .val (.double (4607182418800017408 : UInt64)), .second, .unset, .unset, .unset, .unset, .unset, .unset, .unset] [(.int (1 : Int32))])) st4 ?_
  refine own_go (t' := T4.setTop (mkF m 33 #[.val (.ref t), .val (.ref b), .val (.int (Int32.ofNat k)), .val (.double (4607182418800017408 : UInt64)), .second, .unset, .unset, .unset, .unset, .unset, .unset, .unset] [])) (fun _ k_ => XS.ifYes X4.here hx rfl (pc0 := 29) (pc' := 33) rfl (Jvm.hb hby d5_29) rfl ((if0 _ _).trans (feq (by decide)).2) (by decide) (by decide) k_) ?_
  have gF : n0 ≤ aF := by omega
  refine own_go (t' := T4.setTop (mkF m 34 #[.val (.ref t), .val (.ref b), .val (.int (Int32.ofNat k)), .val (.double (4607182418800017408 : UInt64)), .second, .unset, .unset, .unset, .unset, .unset, .unset, .unset] [(.ref t)])) (fun _ k_ => XS.aloadN X4.here hx rfl (Jvm.hb hby d5_33) rfl rfl k_) ?_
  obtain ⟨T5, X5, e5, st5⟩ := getF X4 hx hZ hown (host := "") (Or.inl (hw _ (List.mem_of_getElem? (i := 18) rfl))) Via.refl e4 (TV1.2.2.2.2.1) (g := (mkF m 34 #[.val (.ref t), .val (.ref b), .val (.int (Int32.ofNat k)), .val (.double (4607182418800017408 : UInt64)), .second, .unset, .unset, .unset, .unset, .unset, .unset, .unset] [(.ref t)])) rfl rfl (Jvm.hb hby d5_34)
  refine own_go (t' := T5.setTop (mkF m 37 #[.val (.ref t), .val (.ref b), .val (.int (Int32.ofNat k)), .val (.double (4607182418800017408 : UInt64)), .second, .unset, .unset, .unset, .unset, .unset, .unset, .unset] [(.ref aF)])) st5 ?_
  refine own_go (t' := T5.setTop (mkF m 38 #[.val (.ref t), .val (.ref b), .val (.int (Int32.ofNat k)), .val (.double (4607182418800017408 : UInt64)), .second, .unset, .unset, .unset, .unset, .unset, .unset, .unset] [(.int (0 : Int32)), (.ref aF)])) (fun _ k_ => XS.iconst X5.here hx rfl (Jvm.hb hby d5_37) k_) ?_
  refine own_go (t' := T5.setTop (mkF m 39 #[.val (.ref t), .val (.ref b), .val (.int (Int32.ofNat k)), .val (.double (4607182418800017408 : UInt64)), .second, .unset, .unset, .unset, .unset, .unset, .unset, .unset] [(.double (4607182418800017408 : UInt64)), (.int (0 : Int32)), (.ref aF)])) (fun _ k_ => XS.dloadN X5.here hx rfl (Jvm.hb hby d5_38) rfl k_) ?_
  obtain ⟨vm6, X6, st6⟩ := X5.doubleToRawLongBits hx hown (mvT hZ (hw _ (List.mem_of_getElem? (i := 100) rfl))) (mvT hZ (hw _ (List.mem_of_getElem? (i := 103) rfl))) (mvT hZ (hw _ (List.mem_of_getElem? (i := 101) rfl))) (mvT hZ (hw _ (List.mem_of_getElem? (i := 102) rfl))) (g := (mkF m 39 #[.val (.ref t), .val (.ref b), .val (.int (Int32.ofNat k)), .val (.double (4607182418800017408 : UInt64)), .second, .unset, .unset, .unset, .unset, .unset, .unset, .unset] [(.double (4607182418800017408 : UInt64)), (.int (0 : Int32)), (.ref aF)])) rfl (by rw [hml]; rfl) rfl (Jvm.hb hby d5_39) (by decide) (by rw [Jvm.Free.nativeFrameWords_plain 2 (by decide)]; show 2 * 0 + 2 + (2 + 2 + 11) ≤ 36; decide)
  refine own_go (t' := (T5.setVm vm6).setTop (mkF m 42 #[.val (.ref t), .val (.ref b), .val (.int (Int32.ofNat k)), .val (.double (4607182418800017408 : UInt64)), .second, .unset, .unset, .unset, .unset, .unset, .unset, .unset] [(.long own_one), (.int (0 : Int32)), (.ref aF)])) st6 ?_
  obtain ⟨T6, hT6⟩ : ∃ z, z = (T5.setVm vm6) := ⟨_, rfl⟩
  have e6 : T6.heap = T2.heap := by rw [hT6]; exact e5
  rw [← hT6] at X6 ⊢
  obtain ⟨T7, h7, X7, e7, W7, A7, st7⟩ := own_stJ X6 hx hZ e6 AF1 (by decide) (show 0 < 8 by decide) (g := (mkF m 42 #[.val (.ref t), .val (.ref b), .val (.int (Int32.ofNat k)), .val (.double (4607182418800017408 : UInt64)), .second, .unset, .unset, .unset, .unset, .unset, .unset, .unset] [(.long own_one), (.int (0 : Int32)), (.ref aF)])) rfl rfl (Jvm.hb hby d5_42)
  refine own_go (t' := T7.setTop (mkF m 43 #[.val (.ref t), .val (.ref b), .val (.int (Int32.ofNat k)), .val (.double (4607182418800017408 : UInt64)), .second, .unset, .unset, .unset, .unset, .unset, .unset, .unset] [])) st7 ?_
  have N7 := Fr.snoc X7 N4 gF
  have TVw7 := own_TV_keep TV1 (Keep.of_wr W7) (own_nin1 (by omega))
  have BVw7 := own_BV_keep BV1 (Keep.of_wr W7) (own_nin1 (by omega))
  refine own_go (t' := T7.setTop (mkF m 44 #[.val (.ref t), .val (.ref b), .val (.int (Int32.ofNat k)), .val (.double (4607182418800017408 : UInt64)), .second, .unset, .unset, .unset, .unset, .unset, .unset, .unset] [(.ref t)])) (fun _ k_ => XS.aloadN X7.here hx rfl (Jvm.hb hby d5_43) rfl rfl k_) ?_
  obtain ⟨T8, X8, e8, st8⟩ := getF X7 hx hZ hown (host := "") (Or.inl (hw _ (List.mem_of_getElem? (i := 18) rfl))) Via.refl e7 (TVw7.2.2.2.2.1) (g := (mkF m 44 #[.val (.ref t), .val (.ref b), .val (.int (Int32.ofNat k)), .val (.double (4607182418800017408 : UInt64)), .second, .unset, .unset, .unset, .unset, .unset, .unset, .unset] [(.ref t)])) rfl rfl (Jvm.hb hby d5_44)
  refine own_go (t' := T8.setTop (mkF m 47 #[.val (.ref t), .val (.ref b), .val (.int (Int32.ofNat k)), .val (.double (4607182418800017408 : UInt64)), .second, .unset, .unset, .unset, .unset, .unset, .unset, .unset] [(.ref aF)])) st8 ?_
  refine own_go (t' := T8.setTop (mkF m 48 #[.val (.ref t), .val (.ref b), .val (.int (Int32.ofNat k)), .val (.double (4607182418800017408 : UInt64)), .second, .unset, .unset, .unset, .unset, .unset, .unset, .unset] [(.int (1 : Int32)), (.ref aF)])) (fun _ k_ => XS.iconst X8.here hx rfl (Jvm.hb hby d5_47) k_) ?_
  refine own_go (t' := T8.setTop (mkF m 49 #[.val (.ref t), .val (.ref b), .val (.int (Int32.ofNat k)), .val (.double (4607182418800017408 : UInt64)), .second, .unset, .unset, .unset, .unset, .unset, .unset, .unset] [(.ref b), (.int (1 : Int32)), (.ref aF)])) (fun _ k_ => XS.aloadN X8.here hx rfl (Jvm.hb hby d5_48) rfl rfl k_) ?_
  have Z2 : n0 ≤ h7.size := Nat.le_trans Z1 (Keep.of_wr W7).1
  obtain ⟨T9, L9, v9, X9, hQ9, st9⟩ := own_virtual X8 hx hZ (y := (⟨"com/example/brisk_rules/briskrules/GroundRule$Builder", "weight", "()D"⟩ : MethodName)) hown (hw _ (List.mem_of_getElem? (i := 58) rfl)) (hw _ (List.mem_of_getElem? (i := 59) rfl)) (hw _ (List.mem_of_getElem? (i := 61) rfl)) (hw _ (List.mem_of_getElem? (i := 60) rfl)) (hw _ (List.mem_of_getElem? (i := 62) rfl)) (hw _ (List.mem_of_getElem? (i := 28) rfl)) (by decide) BVw7.1 (rm_weight l Z a0 hw [] b _ h7 n0 Z2 (BVw7.2.1)) e8 (g := (mkF m 49 #[.val (.ref t), .val (.ref b), .val (.int (Int32.ofNat k)), .val (.double (4607182418800017408 : UInt64)), .second, .unset, .unset, .unset, .unset, .unset, .unset, .unset] [(.ref b), (.int (1 : Int32)), (.ref aF)])) rfl (by rw [hml]; rfl) (argsL := []) (rest := [(.int (1 : Int32)), (.ref aF)]) (lenOf pd_d6 rfl) rfl (W := 2) (by show 2 * 0 + _ ≤ _; exact Nat.le_of_eq rfl) (Jvm.hb hby d5_49) (by decide) (by decide) (by decide) (by decide)
  obtain ⟨rfl, Nq9, e9⟩ := hQ9
  have N9 := Fr.app N7 Nq9
  refine own_go (t' := T9.setTop (mkF m 52 #[.val (.ref t), .val (.ref b), .val (.int (Int32.ofNat k)), .val (.double (4607182418800017408 : UInt64)), .second, .unset, .unset, .unset, .unset, .unset, .unset, .unset] [(.double (4607182418800017408 : UInt64)), (.int (1 : Int32)), (.ref aF)])) st9 ?_
  obtain ⟨vm10, X10, st10⟩ := X9.doubleToRawLongBits hx hown (mvT hZ (hw _ (List.mem_of_getElem? (i := 100) rfl))) (mvT hZ (hw _ (List.mem_of_getElem? (i := 103) rfl))) (mvT hZ (hw _ (List.mem_of_getElem? (i := 101) rfl))) (mvT hZ (hw _ (List.mem_of_getElem? (i := 102) rfl))) (g := (mkF m 52 #[.val (.ref t), .val (.ref b), .val (.int (Int32.ofNat k)), .val (.double (4607182418800017408 : UInt64)), .second, .unset, .unset, .unset, .unset, .unset, .unset, .unset] [(.double (4607182418800017408 : UInt64)), (.int (1 : Int32)), (.ref aF)])) rfl (by rw [hml]; rfl) rfl (Jvm.hb hby d5_52) (by decide) (by rw [Jvm.Free.nativeFrameWords_plain 2 (by decide)]; show 2 * 0 + 2 + (2 + 2 + 11) ≤ 36; decide)
  refine own_go (t' := (T9.setVm vm10).setTop (mkF m 55 #[.val (.ref t), .val (.ref b), .val (.int (Int32.ofNat k)), .val (.double (4607182418800017408 : UInt64)), .second, .unset, .unset, .unset, .unset, .unset, .unset, .unset] [(.long own_one), (.int (1 : Int32)), (.ref aF)])) st10 ?_
  obtain ⟨T10, hT10⟩ : ∃ z, z = (T9.setVm vm10) := ⟨_, rfl⟩
  have e10 : T10.heap = h7 := by rw [hT10]; exact e9
  rw [← hT10] at X10 ⊢
  obtain ⟨T11, h11, X11, e11, W11, A11, st11⟩ := own_stJ X10 hx hZ e10 A7 (by decide) (show 1 < 8 by decide) (g := (mkF m 55 #[.val (.ref t), .val (.ref b), .val (.int (Int32.ofNat k)), .val (.double (4607182418800017408 : UInt64)), .second, .unset, .unset, .unset, .unset, .unset, .unset, .unset] [(.long own_one), (.int (1 : Int32)), (.ref aF)])) rfl rfl (Jvm.hb hby d5_55)
  refine own_go (t' := T11.setTop (mkF m 56 #[.val (.ref t), .val (.ref b), .val (.int (Int32.ofNat k)), .val (.double (4607182418800017408 : UInt64)), .second, .unset, .unset, .unset, .unset, .unset, .unset, .unset] [])) st11 ?_
  have N11 := Fr.snoc X11 N9 gF
  have TVw11 := own_TV_keep TVw7 (Keep.of_wr W11) (own_nin1 (by omega))
  have BVw11 := own_BV_keep BVw7 (Keep.of_wr W11) (own_nin1 (by omega))
  refine own_go (t' := T11.setTop (mkF m 57 #[.val (.ref t), .val (.ref b), .val (.int (Int32.ofNat k)), .val (.double (4607182418800017408 : UInt64)), .second, .unset, .unset, .unset, .unset, .unset, .unset, .unset] [(.ref t)])) (fun _ k_ => XS.aloadN X11.here hx rfl (Jvm.hb hby d5_56) rfl rfl k_) ?_
  obtain ⟨T12, X12, e12, st12⟩ := getF X11 hx hZ hown (host := "") (Or.inl (hw _ (List.mem_of_getElem? (i := 18) rfl))) Via.refl e11 (TVw11.2.2.2.2.1) (g := (mkF m 57 #[.val (.ref t), .val (.ref b), .val (.int (Int32.ofNat k)), .val (.double (4607182418800017408 : UInt64)), .second, .unset, .unset, .unset, .unset, .unset, .unset, .unset] [(.ref t)])) rfl rfl (Jvm.hb hby d5_57)
  refine own_go (t' := T12.setTop (mkF m 60 #[.val (.ref t), .val (.ref b), .val (.int (Int32.ofNat k)), .val (.double (4607182418800017408 : UInt64)), .second, .unset, .unset, .unset, .unset, .unset, .unset, .unset] [(.ref aF)])) st12 ?_
  refine own_go (t' := T12.setTop (mkF m 61 #[.val (.ref t), .val (.ref b), .val (.int (Int32.ofNat k)), .val (.double (4607182418800017408 : UInt64)), .second, .unset, .unset, .unset, .unset, .unset, .unset, .unset] [(.int (2 : Int32)), (.ref aF)])) (fun _ k_ => XS.iconst X12.here hx rfl (Jvm.hb hby d5_60) k_) ?_
  refine own_go (t' := T12.setTop (mkF m 62 #[.val (.ref t), .val (.ref b), .val (.int (Int32.ofNat k)), .val (.double (4607182418800017408 : UInt64)), .second, .unset, .unset, .unset, .unset, .unset, .unset, .unset] [(.long (1 : Int64)), (.int (2 : Int32)), (.ref aF)])) (fun _ k_ => XS.lconst X12.here hx rfl (Jvm.hb hby d5_61) k_) ?_
  obtain ⟨T13, h13, X13, e13, W13, A13, st13⟩ := own_stJ X12 hx hZ e12 A11 (by decide) (show 2 < 8 by decide) (g := (mkF m 62 #[.val (.ref t), .val (.ref b), .val (.int (Int32.ofNat k)), .val (.double (4607182418800017408 : UInt64)), .second, .unset, .unset, .unset, .unset, .unset, .unset, .unset] [(.long (1 : Int64)), (.int (2 : Int32)), (.ref aF)])) rfl rfl (Jvm.hb hby d5_62)
  refine own_go (t' := T13.setTop (mkF m 63 #[.val (.ref t), .val (.ref b), .val (.int (Int32.ofNat k)), .val (.double (4607182418800017408 : UInt64)), .second, .unset, .unset, .unset, .unset, .unset, .unset, .unset] [])) st13 ?_
  have N13 := Fr.snoc X13 N11 gF
  have TVw13 := own_TV_keep TVw11 (Keep.of_wr W13) (own_nin1 (by omega))
  have BVw13 := own_BV_keep BVw11 (Keep.of_wr W13) (own_nin1 (by omega))
  refine own_go (t' := T13.setTop (mkF m 64 #[.val (.ref t), .val (.ref b), .val (.int (Int32.ofNat k)), .val (.double (4607182418800017408 : UInt64)), .second, .unset, .unset, .unset, .unset, .unset, .unset, .unset] [(.ref t)])) (fun _ k_ => XS.aloadN X13.here hx rfl (Jvm.hb hby d5_63) rfl rfl k_) ?_
  obtain ⟨T14, X14, e14, st14⟩ := getF X13 hx hZ hown (host := "") (Or.inl (hw _ (List.mem_of_getElem? (i := 18) rfl))) Via.refl e13 (TVw13.2.2.2.2.1) (g := (mkF m 64 #[.val (.ref t), .val (.ref b), .val (.int (Int32.ofNat k)), .val (.double (4607182418800017408 : UInt64)), .second, .unset, .unset, .unset, .unset, .unset, .unset, .unset] [(.ref t)])) rfl rfl (Jvm.hb hby d5_64)
  refine own_go (t' := T14.setTop (mkF m 67 #[.val (.ref t), .val (.ref b), .val (.int (Int32.ofNat k)), .val (.double (4607182418800017408 : UInt64)), .second, .unset, .unset, .unset, .unset, .unset, .unset, .unset] [(.ref aF)])) st14 ?_
  refine own_go (t' := T14.setTop (mkF m 68 #[.val (.ref t), .val (.ref b), .val (.int (Int32.ofNat k)), .val (.double (4607182418800017408 : UInt64)), .second, .unset, .unset, .unset, .unset, .unset, .unset, .unset] [(.int (3 : Int32)), (.ref aF)])) (fun _ k_ => XS.iconst X14.here hx rfl (Jvm.hb hby d5_67) k_) ?_
  refine own_go (t' := T14.setTop (mkF m 71 #[.val (.ref t), .val (.ref b), .val (.int (Int32.ofNat k)), .val (.double (4607182418800017408 : UInt64)), .second, .unset, .unset, .unset, .unset, .unset, .unset, .unset] [(.long (2 : Int64)), (.int (3 : Int32)), (.ref aF)])) (fun _ k_ => X14.ldc2J (own := "com/example/brisk_rules/briskrules/GroundRuleTable") (index := 63) (v := (2 : Int64)) hx hown (mvT hZ (hw _ (List.mem_of_getElem? (i := 104) rfl))) rfl (Jvm.hb hby d5_68) k_) ?_
  refine own_go (t' := T14.setTop (mkF m 72 #[.val (.ref t), .val (.ref b), .val (.int (Int32.ofNat k)), .val (.double (4607182418800017408 : UInt64)), .second, .unset, .unset, .unset, .unset, .unset, .unset, .unset] [(.int (Int32.ofNat k)), (.long (2 : Int64)), (.int (3 : Int32)), (.ref aF)])) (fun _ k_ => XS.iloadN X14.here hx rfl (Jvm.hb hby d5_71) rfl k_) ?_
  refine own_go (t' := T14.setTop (mkF m 73 #[.val (.ref t), .val (.ref b), .val (.int (Int32.ofNat k)), .val (.double (4607182418800017408 : UInt64)), .second, .unset, .unset, .unset, .unset, .unset, .unset, .unset] [(.long (Int32.ofNat k).toInt64), (.long (2 : Int64)), (.int (3 : Int32)), (.ref aF)])) (fun _ k_ => XS.i2l X14.here hx rfl (Jvm.hb hby d5_72) rfl k_) ?_
  refine own_go (t' := T14.setTop (mkF m 74 #[.val (.ref t), .val (.ref b), .val (.int (Int32.ofNat k)), .val (.double (4607182418800017408 : UInt64)), .second, .unset, .unset, .unset, .unset, .unset, .unset, .unset] [(.long ((2 : Int64) * (Int32.ofNat k).toInt64)), (.int (3 : Int32)), (.ref aF)])) (fun _ k_ => XS.lmul X14.here hx rfl (Jvm.hb hby d5_73) rfl k_) ?_
  obtain ⟨T15, h15, X15, e15, W15, A15, st15⟩ := own_stJ X14 hx hZ e14 A13 (by decide) (show 3 < 8 by decide) (g := (mkF m 74 #[.val (.ref t), .val (.ref b), .val (.int (Int32.ofNat k)), .val (.double (4607182418800017408 : UInt64)), .second, .unset, .unset, .unset, .unset, .unset, .unset, .unset] [(.long ((2 : Int64) * (Int32.ofNat k).toInt64)), (.int (3 : Int32)), (.ref aF)])) rfl rfl (Jvm.hb hby d5_74)
  refine own_go (t' := T15.setTop (mkF m 75 #[.val (.ref t), .val (.ref b), .val (.int (Int32.ofNat k)), .val (.double (4607182418800017408 : UInt64)), .second, .unset, .unset, .unset, .unset, .unset, .unset, .unset] [])) st15 ?_
  have N15 := Fr.snoc X15 N13 gF
  have TVw15 := own_TV_keep TVw13 (Keep.of_wr W15) (own_nin1 (by omega))
  have BVw15 := own_BV_keep BVw13 (Keep.of_wr W15) (own_nin1 (by omega))
  have K2 : Keep h0 h15 [aF, aA, aC] := ((((K1.wr W7 (Or.inl (by simp))).wr W11 (Or.inl (by simp))).wr W13 (Or.inl (by simp))).wr W15 (Or.inl (by simp)))
  have AA2 := own_Ar_oth W15 (by omega) (own_Ar_oth W13 (by omega) (own_Ar_oth W11 (by omega) (own_Ar_oth W7 (by omega) AA1)))
  have AC2 := own_Ar_oth W15 (by omega) (own_Ar_oth W13 (by omega) (own_Ar_oth W11 (by omega) (own_Ar_oth W7 (by omega) AC1)))
  have Z3 : n0 ≤ h15.size := Nat.le_trans Z0 K2.1
  refine own_go (t' := T15.setTop (mkF m 76 #[.val (.ref t), .val (.ref b), .val (.int (Int32.ofNat k)), .val (.double (4607182418800017408 : UInt64)), .second, .unset, .unset, .unset, .unset, .unset, .unset, .unset] [(.ref b)])) (fun _ k_ => XS.aloadN X15.here hx rfl (Jvm.hb hby d5_75) rfl rfl k_) ?_
  obtain ⟨T16, L16, v16, X16, hQ16, st16⟩ := own_virtual X15 hx hZ (y := (⟨"com/example/brisk_rules/briskrules/GroundRule$Builder", "isSquared", "()Z"⟩ : MethodName)) hown (hw _ (List.mem_of_getElem? (i := 105) rfl)) (hw _ (List.mem_of_getElem? (i := 106) rfl)) (hw _ (List.mem_of_getElem? (i := 108) rfl)) (hw _ (List.mem_of_getElem? (i := 107) rfl)) (hw _ (List.mem_of_getElem? (i := 109) rfl)) (hw _ (List.mem_of_getElem? (i := 28) rfl)) (by decide) BVw15.1 (rm_bisq l Z a0 hw [] b _ h15 n0 Z3 (BVw15.2.2.1) hsq) e15 (g := (mkF m 76 #[.val (.ref t), .val (.ref b), .val (.int (Int32.ofNat k)), .val (.double (4607182418800017408 : UInt64)), .second, .unset, .unset, .unset, .unset, .unset, .unset, .unset] [(.ref b)])) rfl (by rw [hml]; rfl) (argsL := []) (rest := []) (lenOf pd_d14 rfl) rfl (W := 0) (by show 2 * 0 + _ ≤ _; exact Nat.le_of_eq rfl) (Jvm.hb hby d5_76) (by decide) (by decide) (by decide) (by decide)
  obtain ⟨rfl, Nq16, e16⟩ := hQ16
  have N16 := Fr.app N15 Nq16
  refine own_go (t' := T16.setTop (mkF m 79 #[.val (.ref t), .val (.ref b), .val (.int (Int32.ofNat k)), .val (.double (4607182418800017408 : UInt64)), .second, .unset, .unset, .unset, .unset, .unset, .unset, .unset] [(.int sq)])) st16 ?_
  have J92 : ∀ (Tj17 : State) (lj17 : List Loc) (hj17 : Heap) (fF2 fA2 fC2 : Nat → Value), Stand p l e ({ frames := 2, cells := 0, slots := 0, locals := 36 } : Room) s m #[(.ref t), (.ref b)] below meth c Tj17 lj17 0 0 → Tj17.heap = hj17 → Fr n0 lj17 → (Keep h0 hj17 [aF, aA, aC]) → (own_Ar Z hj17 aF .long 8 fF2) → (own_Ar Z hj17 aA .int 4 fA2) → (own_Ar Z hj17 aC .int 4 fC2) → (∀ j, j < 4 + k → fF2 j = .long (own_Fm k at0 sq j)) → own_Ends p.tables e below (own_F s (fun v h L => v = none ∧ Fr n0 L ∧ Keep h0 h [t, aR, aO, aS, aF, aA, aC] ∧ own_TV Z h t (.ref aR) (.ref aO) (.ref aS) (.ref aF) (.ref aA) (.ref aC) (.long (9223372036854775807 : Int64)) (.int (Int32.ofNat (sz + 1))) (.int (Int32.ofNat (us + (4 + k)))) (.long (gr + 1)) ∧ ∃ fR' fF' fA' fC' : Nat → Value, own_Ar Z h aF .long 8 fF' ∧ own_Ar Z h aA .int 4 fA' ∧ own_Ar Z h aC .int 4 fC' ∧ own_Ar Z h aR .long 64 fR' ∧ (∀ j, j < us → fR' j = fR j) ∧ fR' (us + 3) = .long (own_f3 k sq) ∧ own_Ar Z h aO .int 16 (own_upd fO sz (.int (Int32.ofNat us))) ∧ own_Ar Z h aS .long 32 (own_upd fS i0 (.long (own_ent (own_hv k at0 sq) us)))) ({ frames := 2, cells := 0, slots := 0, locals := 36 } : Room).cells ({ frames := 2, cells := 0, slots := 0, locals := 36 } : Room).slots) (Tj17.setTop (mkF m 92 #[.val (.ref t), .val (.ref b), .val (.int (Int32.ofNat k)), .val (.double (4607182418800017408 : UInt64)), .second, .unset, .unset, .unset, .unset, .unset, .unset, .unset] [])) := by
    intro Tj17 lj17 hj17 fF2 fA2 fC2 Xj17 ej17 Nj17  Kj AFj AAj ACj qFj
    have TVj := own_TV_keep TV Kj (own_nin3 (by omega))
    have Zj : n0 ≤ hj17.size := Nat.le_trans Z0 Kj.1
    have ARj := own_Ar_keep Kj (own_nin3 (by omega)) AR
    have AOj := own_Ar_keep Kj (own_nin3 (by omega)) AO
    have ASj := own_Ar_keep Kj (own_nin3 (by omega)) AS
    have hcn : own_cnt (own_Fm k at0 sq 3) = Int32.ofNat k := own_f3_cnt hk hsq
    refine own_go (t' := Tj17.setTop (mkF m 93 #[.val (.ref t), .val (.ref b), .val (.int (Int32.ofNat k)), .val (.double (4607182418800017408 : UInt64)), .second, .unset, .unset, .unset, .unset, .unset, .unset, .unset] [(.ref t)])) (fun _ k_ => XS.aloadN Xj17.here hx rfl (Jvm.hb hby d5_92) rfl rfl k_) ?_
    obtain ⟨T18, L18, v18, X18, hQ18, st18⟩ := own_private Xj17 hx hZ (y := (⟨"com/example/brisk_rules/briskrules/GroundRuleTable", "hash", "()I"⟩ : MethodName)) hown (hw _ (List.mem_of_getElem? (i := 110) rfl)) (hw _ (List.mem_of_getElem? (i := 111) rfl)) (hw _ (List.mem_of_getElem? (i := 56) rfl)) rfl (hw _ (List.mem_of_getElem? (i := 112) rfl)) (hw _ (List.mem_of_getElem? (i := 113) rfl)) (hw _ (List.mem_of_getElem? (i := 2) rfl)) (by decide) TVj.1 (rm_hash l Z a0 hw [] t aF k fF2 (own_Fm k at0 sq) hj17 n0 Zj (TVj.2.2.2.2.1) AFj qFj hk hcn) ej17 (g := (mkF m 93 #[.val (.ref t), .val (.ref b), .val (.int (Int32.ofNat k)), .val (.double (4607182418800017408 : UInt64)), .second, .unset, .unset, .unset, .unset, .unset, .unset, .unset] [(.ref t)])) rfl (by rw [hml]; rfl) (argsL := []) (rest := []) (lenOf pd_d15 rfl) rfl (W := 0) (by show 2 * 0 + _ ≤ _; exact Nat.le_of_eq rfl) (Jvm.hb hby d5_93) (by decide) (by decide) (by decide) (by decide)
    obtain ⟨rfl, Nq18, e18⟩ := hQ18
    have N18 := Fr.app Nj17 Nq18
    refine own_go (t' := T18.setTop (mkF m 96 #[.val (.ref t), .val (.ref b), .val (.int (Int32.ofNat k)), .val (.double (4607182418800017408 : UInt64)), .second, .unset, .unset, .unset, .unset, .unset, .unset, .unset] [(.int (own_mix (own_acc (own_Fm k at0 sq) k)))])) st18 ?_
    rw [show own_mix (own_acc (own_Fm k at0 sq) k) = own_hv k at0 sq from rfl]
    refine own_go (t' := T18.setTop (mkF m 98 #[.val (.ref t), .val (.ref b), .val (.int (Int32.ofNat k)), .val (.double (4607182418800017408 : UInt64)), .second, .val (.int (own_hv k at0 sq)), .unset, .unset, .unset, .unset, .unset, .unset] [])) (fun _ k_ => XS.istore X18.here hx rfl (Jvm.hb hby d5_96) rfl (l' := #[.val (.ref t), .val (.ref b), .val (.int (Int32.ofNat k)), .val (.double (4607182418800017408 : UInt64)), .second, .val (.int (own_hv k at0 sq)), .unset, .unset, .unset, .unset, .unset, .unset]) rfl k_) ?_
    refine own_go (t' := T18.setTop (mkF m 100 #[.val (.ref t), .val (.ref b), .val (.int (Int32.ofNat k)), .val (.double (4607182418800017408 : UInt64)), .second, .val (.int (own_hv k at0 sq)), .unset, .unset, .unset, .unset, .unset, .unset] [(.int (own_hv k at0 sq))])) (fun _ k_ => XS.iload X18.here hx rfl (Jvm.hb hby d5_98) rfl k_) ?_
    refine own_go (t' := T18.setTop (mkF m 101 #[.val (.ref t), .val (.ref b), .val (.int (Int32.ofNat k)), .val (.double (4607182418800017408 : UInt64)), .second, .val (.int (own_hv k at0 sq)), .unset, .unset, .unset, .unset, .unset, .unset] [(.ref t), (.int (own_hv k at0 sq))])) (fun _ k_ => XS.aloadN X18.here hx rfl (Jvm.hb hby d5_100) rfl rfl k_) ?_
    obtain ⟨T19, X19, e19, st19⟩ := getF X18 hx hZ hown (host := "") (Or.inl (hw _ (List.mem_of_getElem? (i := 16) rfl))) Via.refl e18 (TVj.2.2.2.1) (g := (mkF m 101 #[.val (.ref t), .val (.ref b), .val (.int (Int32.ofNat k)), .val (.double (4607182418800017408 : UInt64)), .second, .val (.int (own_hv k at0 sq)), .unset, .unset, .unset, .unset, .unset, .unset] [(.ref t), (.int (own_hv k at0 sq))])) rfl rfl (Jvm.hb hby d5_101)
    refine own_go (t' := T19.setTop (mkF m 104 #[.val (.ref t), .val (.ref b), .val (.int (Int32.ofNat k)), .val (.double (4607182418800017408 : UInt64)), .second, .val (.int (own_hv k at0 sq)), .unset, .unset, .unset, .unset, .unset, .unset] [(.ref aS), (.int (own_hv k at0 sq))])) st19 ?_
    refine own_go (t' := T19.setTop (mkF m 105 #[.val (.ref t), .val (.ref b), .val (.int (Int32.ofNat k)), .val (.double (4607182418800017408 : UInt64)), .second, .val (.int (own_hv k at0 sq)), .unset, .unset, .unset, .unset, .unset, .unset] [(.int (Int32.ofNat 32)), (.int (own_hv k at0 sq))])) (own_alen X19 hx hZ e19 ASj (g := (mkF m 104 #[.val (.ref t), .val (.ref b), .val (.int (Int32.ofNat k)), .val (.double (4607182418800017408 : UInt64)), .second, .val (.int (own_hv k at0 sq)), .unset, .unset, .unset, .unset, .unset, .unset] [(.ref aS), (.int (own_hv k at0 sq))])) rfl rfl (Jvm.hb hby d5_104)) ?_
    refine own_go (t' := T19.setTop (mkF m 106 #[.val (.ref t), .val (.ref b), .val (.int (Int32.ofNat k)), .val (.double (4607182418800017408 : UInt64)), .second, .val (.int (own_hv k at0 sq)), .unset, .unset, .unset, .unset, .unset, .unset] [(.int (1 : Int32)), (.int (Int32.ofNat 32)), (.int (own_hv k at0 sq))])) (fun _ k_ => XS.iconst X19.here hx rfl (Jvm.hb hby d5_105) k_) ?_
    refine own_go (t' := T19.setTop (mkF m 107 #[.val (.ref t), .val (.ref b), .val (.int (Int32.ofNat k)), .val (.double (4607182418800017408 : UInt64)), .second, .val (.int (own_hv k at0 sq)), .unset, .unset, .unset, .unset, .unset, .unset] [(.int ((Int32.ofNat 32) - (1 : Int32))), (.int (own_hv k at0 sq))])) (fun _ k_ => XS.isub X19.here hx rfl (Jvm.hb hby d5_106) rfl k_) ?_
    rw [show (Int32.ofNat 32) - (1 : Int32) = (31 : Int32) from by decide]
    refine own_go (t' := T19.setTop (mkF m 108 #[.val (.ref t), .val (.ref b), .val (.int (Int32.ofNat k)), .val (.double (4607182418800017408 : UInt64)), .second, .val (.int (own_hv k at0 sq)), .unset, .unset, .unset, .unset, .unset, .unset] [(.int ((own_hv k at0 sq) &&& (31 : Int32)))])) (fun _ k_ => XS.iand X19.here hx rfl (Jvm.hb hby d5_107) rfl k_) ?_
    have J245 : ∀ (Tj20 : State) (lj20 : List Loc) (lv : Int64) (sl9 : Slot), Stand p l e ({ frames := 2, cells := 0, slots := 0, locals := 36 } : Room) s m #[(.ref t), (.ref b)] below meth c Tj20 lj20 0 0 → Tj20.heap = hj17 → Fr n0 lj20 → own_Ends p.tables e below (own_F s (fun v h L => v = none ∧ Fr n0 L ∧ Keep h0 h [t, aR, aO, aS, aF, aA, aC] ∧ own_TV Z h t (.ref aR) (.ref aO) (.ref aS) (.ref aF) (.ref aA) (.ref aC) (.long (9223372036854775807 : Int64)) (.int (Int32.ofNat (sz + 1))) (.int (Int32.ofNat (us + (4 + k)))) (.long (gr + 1)) ∧ ∃ fR' fF' fA' fC' : Nat → Value, own_Ar Z h aF .long 8 fF' ∧ own_Ar Z h aA .int 4 fA' ∧ own_Ar Z h aC .int 4 fC' ∧ own_Ar Z h aR .long 64 fR' ∧ (∀ j, j < us → fR' j = fR j) ∧ fR' (us + 3) = .long (own_f3 k sq) ∧ own_Ar Z h aO .int 16 (own_upd fO sz (.int (Int32.ofNat us))) ∧ own_Ar Z h aS .long 32 (own_upd fS i0 (.long (own_ent (own_hv k at0 sq) us)))) ({ frames := 2, cells := 0, slots := 0, locals := 36 } : Room).cells ({ frames := 2, cells := 0, slots := 0, locals := 36 } : Room).slots) (Tj20.setTop (mkF m 245 #[.val (.ref t), .val (.ref b), .val (.int (Int32.ofNat k)), .val (.double (4607182418800017408 : UInt64)), .second, .val (.int (own_hv k at0 sq)), .val (.int (Int32.ofNat i0)), .val (.long lv), .second, sl9, .unset, .unset] [])) := by
      intro Tj20 lj20 lv sl9 Xj20 ej20 Nj20  
      refine own_go (t' := Tj20.setTop (mkF m 246 #[.val (.ref t), .val (.ref b), .val (.int (Int32.ofNat k)), .val (.double (4607182418800017408 : UInt64)), .second, .val (.int (own_hv k at0 sq)), .val (.int (Int32.ofNat i0)), .val (.long lv), .second, sl9, .unset, .unset] [(.ref t)])) (fun _ k_ => XS.aloadN Xj20.here hx rfl (Jvm.hb hby d5_245) rfl rfl k_) ?_
      obtain ⟨T21, X21, e21, st21⟩ := getF Xj20 hx hZ hown (host := "") (Or.inl (hw _ (List.mem_of_getElem? (i := 120) rfl))) Via.refl ej20 (TVj.2.2.2.2.2.2.2.2.1) (g := (mkF m 246 #[.val (.ref t), .val (.ref b), .val (.int (Int32.ofNat k)), .val (.double (4607182418800017408 : UInt64)), .second, .val (.int (own_hv k at0 sq)), .val (.int (Int32.ofNat i0)), .val (.long lv), .second, sl9, .unset, .unset] [(.ref t)])) rfl rfl (Jvm.hb hby d5_246)
      refine own_go (t' := T21.setTop (mkF m 249 #[.val (.ref t), .val (.ref b), .val (.int (Int32.ofNat k)), .val (.double (4607182418800017408 : UInt64)), .second, .val (.int (own_hv k at0 sq)), .val (.int (Int32.ofNat i0)), .val (.long lv), .second, sl9, .unset, .unset] [(.int (Int32.ofNat sz))])) st21 ?_
      refine own_go (t' := T21.setTop (mkF m 250 #[.val (.ref t), .val (.ref b), .val (.int (Int32.ofNat k)), .val (.double (4607182418800017408 : UInt64)), .second, .val (.int (own_hv k at0 sq)), .val (.int (Int32.ofNat i0)), .val (.long lv), .second, sl9, .unset, .unset] [(.long (Int32.ofNat sz).toInt64)])) (fun _ k_ => XS.i2l X21.here hx rfl (Jvm.hb hby d5_249) rfl k_) ?_
      refine own_go (t' := T21.setTop (mkF m 251 #[.val (.ref t), .val (.ref b), .val (.int (Int32.ofNat k)), .val (.double (4607182418800017408 : UInt64)), .second, .val (.int (own_hv k at0 sq)), .val (.int (Int32.ofNat i0)), .val (.long lv), .second, sl9, .unset, .unset] [(.ref t), (.long (Int32.ofNat sz).toInt64)])) (fun _ k_ => XS.aloadN X21.here hx rfl (Jvm.hb hby d5_250) rfl rfl k_) ?_
      obtain ⟨T22, X22, e22, st22⟩ := getF X21 hx hZ hown (host := "") (Or.inl (hw _ (List.mem_of_getElem? (i := 24) rfl))) Via.refl e21 (TVj.2.2.2.2.2.2.2.1) (g := (mkF m 251 #[.val (.ref t), .val (.ref b), .val (.int (Int32.ofNat k)), .val (.double (4607182418800017408 : UInt64)), .second, .val (.int (own_hv k at0 sq)), .val (.int (Int32.ofNat i0)), .val (.long lv), .second, sl9, .unset, .unset] [(.ref t), (.long (Int32.ofNat sz).toInt64)])) rfl rfl (Jvm.hb hby d5_251)
      refine own_go (t' := T22.setTop (mkF m 254 #[.val (.ref t), .val (.ref b), .val (.int (Int32.ofNat k)), .val (.double (4607182418800017408 : UInt64)), .second, .val (.int (own_hv k at0 sq)), .val (.int (Int32.ofNat i0)), .val (.long lv), .second, sl9, .unset, .unset] [(.long (9223372036854775807 : Int64)), (.long (Int32.ofNat sz).toInt64)])) st22 ?_
      refine own_go (t' := T22.setTop (mkF m 255 #[.val (.ref t), .val (.ref b), .val (.int (Int32.ofNat k)), .val (.double (4607182418800017408 : UInt64)), .second, .val (.int (own_hv k at0 sq)), .val (.int (Int32.ofNat i0)), .val (.long lv), .second, sl9, .unset, .unset] [(.int (lcmpW (Int32.ofNat sz).toInt64 (9223372036854775807 : Int64)))])) (fun _ k_ => XS.lcmp X22.here hx rfl (Jvm.hb hby d5_254) rfl k_) ?_
      refine own_go (t' := T22.setTop (mkF m 264 #[.val (.ref t), .val (.ref b), .val (.int (Int32.ofNat k)), .val (.double (4607182418800017408 : UInt64)), .second, .val (.int (own_hv k at0 sq)), .val (.int (Int32.ofNat i0)), .val (.long lv), .second, sl9, .unset, .unset] [])) (fun _ k_ => XS.ifYes X22.here hx rfl (pc0 := 255) (pc' := 264) rfl (Jvm.hb hby d5_255) rfl ((if0 _ _).trans (tlt ((lw_lt _ _).mpr (by rcases (by omega : sz = 0 ∨ sz = 1 ∨ sz = 2) with rfl | rfl | rfl <;> decide))).1) (by decide) (by decide) k_) ?_
      refine own_go (t' := T22.setTop (mkF m 265 #[.val (.ref t), .val (.ref b), .val (.int (Int32.ofNat k)), .val (.double (4607182418800017408 : UInt64)), .second, .val (.int (own_hv k at0 sq)), .val (.int (Int32.ofNat i0)), .val (.long lv), .second, sl9, .unset, .unset] [(.ref t)])) (fun _ k_ => XS.aloadN X22.here hx rfl (Jvm.hb hby d5_264) rfl rfl k_) ?_
      obtain ⟨T23, X23, e23, st23⟩ := getF X22 hx hZ hown (host := "") (Or.inl (hw _ (List.mem_of_getElem? (i := 16) rfl))) Via.refl e22 (TVj.2.2.2.1) (g := (mkF m 265 #[.val (.ref t), .val (.ref b), .val (.int (Int32.ofNat k)), .val (.double (4607182418800017408 : UInt64)), .second, .val (.int (own_hv k at0 sq)), .val (.int (Int32.ofNat i0)), .val (.long lv), .second, sl9, .unset, .unset] [(.ref t)])) rfl rfl (Jvm.hb hby d5_265)
      refine own_go (t' := T23.setTop (mkF m 268 #[.val (.ref t), .val (.ref b), .val (.int (Int32.ofNat k)), .val (.double (4607182418800017408 : UInt64)), .second, .val (.int (own_hv k at0 sq)), .val (.int (Int32.ofNat i0)), .val (.long lv), .second, sl9, .unset, .unset] [(.ref aS)])) st23 ?_
      refine own_go (t' := T23.setTop (mkF m 270 #[.val (.ref t), .val (.ref b), .val (.int (Int32.ofNat k)), .val (.double (4607182418800017408 : UInt64)), .second, .val (.int (own_hv k at0 sq)), .val (.int (Int32.ofNat i0)), .val (.long lv), .second, sl9, .unset, .unset] [(.int (Int32.ofNat i0)), (.ref aS)])) (fun _ k_ => XS.iload X23.here hx rfl (Jvm.hb hby d5_268) rfl k_) ?_
      refine own_go (t' := T23.setTop (mkF m 272 #[.val (.ref t), .val (.ref b), .val (.int (Int32.ofNat k)), .val (.double (4607182418800017408 : UInt64)), .second, .val (.int (own_hv k at0 sq)), .val (.int (Int32.ofNat i0)), .val (.long lv), .second, sl9, .unset, .unset] [(.int (own_hv k at0 sq)), (.int (Int32.ofNat i0)), (.ref aS)])) (fun _ k_ => XS.iload X23.here hx rfl (Jvm.hb hby d5_270) rfl k_) ?_
      refine own_go (t' := T23.setTop (mkF m 273 #[.val (.ref t), .val (.ref b), .val (.int (Int32.ofNat k)), .val (.double (4607182418800017408 : UInt64)), .second, .val (.int (own_hv k at0 sq)), .val (.int (Int32.ofNat i0)), .val (.long lv), .second, sl9, .unset, .unset] [(.long (own_hv k at0 sq).toInt64), (.int (Int32.ofNat i0)), (.ref aS)])) (fun _ k_ => XS.i2l X23.here hx rfl (Jvm.hb hby d5_272) rfl k_) ?_
      refine own_go (t' := T23.setTop (mkF m 275 #[.val (.ref t), .val (.ref b), .val (.int (Int32.ofNat k)), .val (.double (4607182418800017408 : UInt64)), .second, .val (.int (own_hv k at0 sq)), .val (.int (Int32.ofNat i0)), .val (.long lv), .second, sl9, .unset, .unset] [(.int (32 : Int32)), (.long (own_hv k at0 sq).toInt64), (.int (Int32.ofNat i0)), (.ref aS)])) (fun _ k_ => XS.bipush X23.here hx rfl (Jvm.hb hby d5_273) k_) ?_
      refine own_go (t' := T23.setTop (mkF m 276 #[.val (.ref t), .val (.ref b), .val (.int (Int32.ofNat k)), .val (.double (4607182418800017408 : UInt64)), .second, .val (.int (own_hv k at0 sq)), .val (.int (Int32.ofNat i0)), .val (.long lv), .second, sl9, .unset, .unset] [(.long ((own_hv k at0 sq).toInt64 <<< ((32 : Int32) &&& 0x3f).toInt64)), (.int (Int32.ofNat i0)), (.ref aS)])) (fun _ k_ => XS.lshl X23.here hx rfl (Jvm.hb hby d5_275) rfl k_) ?_
      refine own_go (t' := T23.setTop (mkF m 277 #[.val (.ref t), .val (.ref b), .val (.int (Int32.ofNat k)), .val (.double (4607182418800017408 : UInt64)), .second, .val (.int (own_hv k at0 sq)), .val (.int (Int32.ofNat i0)), .val (.long lv), .second, sl9, .unset, .unset] [(.ref t), (.long ((own_hv k at0 sq).toInt64 <<< ((32 : Int32) &&& 0x3f).toInt64)), (.int (Int32.ofNat i0)), (.ref aS)])) (fun _ k_ => XS.aloadN X23.here hx rfl (Jvm.hb hby d5_276) rfl rfl k_) ?_
      obtain ⟨T24, X24, e24, st24⟩ := getF X23 hx hZ hown (host := "") (Or.inl (hw _ (List.mem_of_getElem? (i := 122) rfl))) Via.refl e23 (TVj.2.2.2.2.2.2.2.2.2.1) (g := (mkF m 277 #[.val (.ref t), .val (.ref b), .val (.int (Int32.ofNat k)), .val (.double (4607182418800017408 : UInt64)), .second, .val (.int (own_hv k at0 sq)), .val (.int (Int32.ofNat i0)), .val (.long lv), .second, sl9, .unset, .unset] [(.ref t), (.long ((own_hv k at0 sq).toInt64 <<< ((32 : Int32) &&& 0x3f).toInt64)), (.int (Int32.ofNat i0)), (.ref aS)])) rfl rfl (Jvm.hb hby d5_277)
      refine own_go (t' := T24.setTop (mkF m 280 #[.val (.ref t), .val (.ref b), .val (.int (Int32.ofNat k)), .val (.double (4607182418800017408 : UInt64)), .second, .val (.int (own_hv k at0 sq)), .val (.int (Int32.ofNat i0)), .val (.long lv), .second, sl9, .unset, .unset] [(.int (Int32.ofNat us)), (.long ((own_hv k at0 sq).toInt64 <<< ((32 : Int32) &&& 0x3f).toInt64)), (.int (Int32.ofNat i0)), (.ref aS)])) st24 ?_
      refine own_go (t' := T24.setTop (mkF m 281 #[.val (.ref t), .val (.ref b), .val (.int (Int32.ofNat k)), .val (.double (4607182418800017408 : UInt64)), .second, .val (.int (own_hv k at0 sq)), .val (.int (Int32.ofNat i0)), .val (.long lv), .second, sl9, .unset, .unset] [(.int (1 : Int32)), (.int (Int32.ofNat us)), (.long ((own_hv k at0 sq).toInt64 <<< ((32 : Int32) &&& 0x3f).toInt64)), (.int (Int32.ofNat i0)), (.ref aS)])) (fun _ k_ => XS.iconst X24.here hx rfl (Jvm.hb hby d5_280) k_) ?_
      refine own_go (t' := T24.setTop (mkF m 282 #[.val (.ref t), .val (.ref b), .val (.int (Int32.ofNat k)), .val (.double (4607182418800017408 : UInt64)), .second, .val (.int (own_hv k at0 sq)), .val (.int (Int32.ofNat i0)), .val (.long lv), .second, sl9, .unset, .unset] [(.int ((Int32.ofNat us) + (1 : Int32))), (.long ((own_hv k at0 sq).toInt64 <<< ((32 : Int32) &&& 0x3f).toInt64)), (.int (Int32.ofNat i0)), (.ref aS)])) (fun _ k_ => XS.iadd X24.here hx rfl (Jvm.hb hby d5_281) rfl k_) ?_
      refine own_go (t' := T24.setTop (mkF m 283 #[.val (.ref t), .val (.ref b), .val (.int (Int32.ofNat k)), .val (.double (4607182418800017408 : UInt64)), .second, .val (.int (own_hv k at0 sq)), .val (.int (Int32.ofNat i0)), .val (.long lv), .second, sl9, .unset, .unset] [(.long ((Int32.ofNat us) + (1 : Int32)).toInt64), (.long ((own_hv k at0 sq).toInt64 <<< ((32 : Int32) &&& 0x3f).toInt64)), (.int (Int32.ofNat i0)), (.ref aS)])) (fun _ k_ => XS.i2l X24.here hx rfl (Jvm.hb hby d5_282) rfl k_) ?_
      refine own_go (t' := T24.setTop (mkF m 284 #[.val (.ref t), .val (.ref b), .val (.int (Int32.ofNat k)), .val (.double (4607182418800017408 : UInt64)), .second, .val (.int (own_hv k at0 sq)), .val (.int (Int32.ofNat i0)), .val (.long lv), .second, sl9, .unset, .unset] [(.long (((own_hv k at0 sq).toInt64 <<< ((32 : Int32) &&& 0x3f).toInt64) ||| ((Int32.ofNat us) + (1 : Int32)).toInt64)), (.int (Int32.ofNat i0)), (.ref aS)])) (fun _ k_ => XS.lor X24.here hx rfl (Jvm.hb hby d5_283) rfl k_) ?_
      obtain ⟨T25, h25, X25, e25, W25, A25, st25⟩ := own_stJ X24 hx hZ e24 ASj (by decide) hi0 (g := (mkF m 284 #[.val (.ref t), .val (.ref b), .val (.int (Int32.ofNat k)), .val (.double (4607182418800017408 : UInt64)), .second, .val (.int (own_hv k at0 sq)), .val (.int (Int32.ofNat i0)), .val (.long lv), .second, sl9, .unset, .unset] [(.long (((own_hv k at0 sq).toInt64 <<< ((32 : Int32) &&& 0x3f).toInt64) ||| ((Int32.ofNat us) + (1 : Int32)).toInt64)), (.int (Int32.ofNat i0)), (.ref aS)])) rfl rfl (Jvm.hb hby d5_284)
      refine own_go (t' := T25.setTop (mkF m 285 #[.val (.ref t), .val (.ref b), .val (.int (Int32.ofNat k)), .val (.double (4607182418800017408 : UInt64)), .second, .val (.int (own_hv k at0 sq)), .val (.int (Int32.ofNat i0)), .val (.long lv), .second, sl9, .unset, .unset] [])) st25 ?_
      have N25 := Fr.snoc X25 Nj20 (show n0 ≤ aS by omega)
      have ASn : own_Ar Z h25 aS .long 32 (own_upd fS i0 (.long (own_ent (own_hv k at0 sq) us))) := A25
      have TVs := own_TV_keep TVj (Keep.of_wr W25) (own_nin1 (by omega))
      have Zs : n0 ≤ h25.size := Nat.le_trans Zj (Keep.of_wr W25).1
      refine own_go (t' := T25.setTop (mkF m 286 #[.val (.ref t), .val (.ref b), .val (.int (Int32.ofNat k)), .val (.double (4607182418800017408 : UInt64)), .second, .val (.int (own_hv k at0 sq)), .val (.int (Int32.ofNat i0)), .val (.long lv), .second, sl9, .unset, .unset] [(.ref t)])) (fun _ k_ => XS.aloadN X25.here hx rfl (Jvm.hb hby d5_285) rfl rfl k_) ?_
      obtain ⟨T26, L26, v26, X26, hQ26, st26⟩ := own_private X25 hx hZ (y := (⟨"com/example/brisk_rules/briskrules/GroundRuleTable", "appendForm", "()V"⟩ : MethodName)) hown (hw _ (List.mem_of_getElem? (i := 124) rfl)) (hw _ (List.mem_of_getElem? (i := 125) rfl)) (hw _ (List.mem_of_getElem? (i := 56) rfl)) rfl (hw _ (List.mem_of_getElem? (i := 126) rfl)) (hw _ (List.mem_of_getElem? (i := 127) rfl)) (hw _ (List.mem_of_getElem? (i := 2) rfl)) (by decide) TVs.1 (rm_app l Z a0 hw [] t aR aO aS aF aA aC sz us k gr fR fO fF2 (own_Fm k at0 sq) h25 n0 Zs TVs (own_Ar_oth W25 (by omega) ARj) (own_Ar_oth W25 (by omega) AOj) (own_Ar_oth W25 (by omega) AFj) (by omega) gt hk hsz hus qFj hcn) e25 (g := (mkF m 286 #[.val (.ref t), .val (.ref b), .val (.int (Int32.ofNat k)), .val (.double (4607182418800017408 : UInt64)), .second, .val (.int (own_hv k at0 sq)), .val (.int (Int32.ofNat i0)), .val (.long lv), .second, sl9, .unset, .unset] [(.ref t)])) rfl (by rw [hml]; rfl) (argsL := []) (rest := []) (lenOf pd_d17 rfl) rfl (W := 0) (by show 2 * 0 + _ ≤ _; exact Nat.le_of_eq rfl) (Jvm.hb hby d5_286) (by decide) (by decide) (by decide) (by decide)
      obtain ⟨rfl, Nq26, Kp, TVp, ARp, AOp⟩ := hQ26
      have N26 := Fr.app N25 Nq26
      refine own_go (t' := T26.setTop (mkF m 289 #[.val (.ref t), .val (.ref b), .val (.int (Int32.ofNat k)), .val (.double (4607182418800017408 : UInt64)), .second, .val (.int (own_hv k at0 sq)), .val (.int (Int32.ofNat i0)), .val (.long lv), .second, sl9, .unset, .unset] [])) st26 ?_
      refine own_go (t' := T26.setTop (mkF m 290 #[.val (.ref t), .val (.ref b), .val (.int (Int32.ofNat k)), .val (.double (4607182418800017408 : UInt64)), .second, .val (.int (own_hv k at0 sq)), .val (.int (Int32.ofNat i0)), .val (.long lv), .second, sl9, .unset, .unset] [(.int (2 : Int32))])) (fun _ k_ => XS.iconst X26.here hx rfl (Jvm.hb hby d5_289) k_) ?_
      refine own_go (t' := T26.setTop (mkF m 291 #[.val (.ref t), .val (.ref b), .val (.int (Int32.ofNat k)), .val (.double (4607182418800017408 : UInt64)), .second, .val (.int (own_hv k at0 sq)), .val (.int (Int32.ofNat i0)), .val (.long lv), .second, sl9, .unset, .unset] [(.ref t), (.int (2 : Int32))])) (fun _ k_ => XS.aloadN X26.here hx rfl (Jvm.hb hby d5_290) rfl rfl k_) ?_
      obtain ⟨T27, X27, e27, st27⟩ := getF X26 hx hZ hown (host := "") (Or.inl (hw _ (List.mem_of_getElem? (i := 120) rfl))) Via.refl (rfl : T26.heap = T26.heap) (TVp.2.2.2.2.2.2.2.2.1) (g := (mkF m 291 #[.val (.ref t), .val (.ref b), .val (.int (Int32.ofNat k)), .val (.double (4607182418800017408 : UInt64)), .second, .val (.int (own_hv k at0 sq)), .val (.int (Int32.ofNat i0)), .val (.long lv), .second, sl9, .unset, .unset] [(.ref t), (.int (2 : Int32))])) rfl rfl (Jvm.hb hby d5_291)
      refine own_go (t' := T27.setTop (mkF m 294 #[.val (.ref t), .val (.ref b), .val (.int (Int32.ofNat k)), .val (.double (4607182418800017408 : UInt64)), .second, .val (.int (own_hv k at0 sq)), .val (.int (Int32.ofNat i0)), .val (.long lv), .second, sl9, .unset, .unset] [(.int (Int32.ofNat (sz + 1))), (.int (2 : Int32))])) st27 ?_
      refine own_go (t' := T27.setTop (mkF m 295 #[.val (.ref t), .val (.ref b), .val (.int (Int32.ofNat k)), .val (.double (4607182418800017408 : UInt64)), .second, .val (.int (own_hv k at0 sq)), .val (.int (Int32.ofNat i0)), .val (.long lv), .second, sl9, .unset, .unset] [(.int ((2 : Int32) * (Int32.ofNat (sz + 1))))])) (fun _ k_ => XS.imul X27.here hx rfl (Jvm.hb hby d5_294) rfl k_) ?_
      refine own_go (t' := T27.setTop (mkF m 296 #[.val (.ref t), .val (.ref b), .val (.int (Int32.ofNat k)), .val (.double (4607182418800017408 : UInt64)), .second, .val (.int (own_hv k at0 sq)), .val (.int (Int32.ofNat i0)), .val (.long lv), .second, sl9, .unset, .unset] [(.ref t), (.int ((2 : Int32) * (Int32.ofNat (sz + 1))))])) (fun _ k_ => XS.aloadN X27.here hx rfl (Jvm.hb hby d5_295) rfl rfl k_) ?_
      obtain ⟨T28, X28, e28, st28⟩ := getF X27 hx hZ hown (host := "") (Or.inl (hw _ (List.mem_of_getElem? (i := 16) rfl))) Via.refl e27 (TVp.2.2.2.1) (g := (mkF m 296 #[.val (.ref t), .val (.ref b), .val (.int (Int32.ofNat k)), .val (.double (4607182418800017408 : UInt64)), .second, .val (.int (own_hv k at0 sq)), .val (.int (Int32.ofNat i0)), .val (.long lv), .second, sl9, .unset, .unset] [(.ref t), (.int ((2 : Int32) * (Int32.ofNat (sz + 1))))])) rfl rfl (Jvm.hb hby d5_296)
      refine own_go (t' := T28.setTop (mkF m 299 #[.val (.ref t), .val (.ref b), .val (.int (Int32.ofNat k)), .val (.double (4607182418800017408 : UInt64)), .second, .val (.int (own_hv k at0 sq)), .val (.int (Int32.ofNat i0)), .val (.long lv), .second, sl9, .unset, .unset] [(.ref aS), (.int ((2 : Int32) * (Int32.ofNat (sz + 1))))])) st28 ?_
      have ASp := own_Ar_keep Kp (own_nin3 (by omega)) ASn
      refine own_go (t' := T28.setTop (mkF m 300 #[.val (.ref t), .val (.ref b), .val (.int (Int32.ofNat k)), .val (.double (4607182418800017408 : UInt64)), .second, .val (.int (own_hv k at0 sq)), .val (.int (Int32.ofNat i0)), .val (.long lv), .second, sl9, .unset, .unset] [(.int (Int32.ofNat 32)), (.int ((2 : Int32) * (Int32.ofNat (sz + 1))))])) (own_alen X28 hx hZ e28 ASp (g := (mkF m 299 #[.val (.ref t), .val (.ref b), .val (.int (Int32.ofNat k)), .val (.double (4607182418800017408 : UInt64)), .second, .val (.int (own_hv k at0 sq)), .val (.int (Int32.ofNat i0)), .val (.long lv), .second, sl9, .unset, .unset] [(.ref aS), (.int ((2 : Int32) * (Int32.ofNat (sz + 1))))])) rfl rfl (Jvm.hb hby d5_299)) ?_
      refine own_go (t' := T28.setTop (mkF m 307 #[.val (.ref t), .val (.ref b), .val (.int (Int32.ofNat k)), .val (.double (4607182418800017408 : UInt64)), .second, .val (.int (own_hv k at0 sq)), .val (.int (Int32.ofNat i0)), .val (.long lv), .second, sl9, .unset, .unset] [])) (fun _ k_ => XS.icmpYes X28.here hx rfl (pc0 := 300) (pc' := 307) rfl (Jvm.hb hby d5_300) rfl (flt (by rcases (by omega : sz = 0 ∨ sz = 1 ∨ sz = 2) with rfl | rfl | rfl <;> decide)).2.2.2 (by decide) (by decide) k_) ?_
      have KK : Keep h0 T26.heap [t, aR, aO, aS, aF, aA, aC] := ((((Keep.refl h0 [t, aR, aO, aS, aF, aA, aC]).trans Kj (own_sub (by simp))).wr W25 (Or.inl (by simp))).trans Kp (own_sub (by simp)))
      refine own_retV X28 hx Bd.returns (BodyLoose.notSynchronized Bd) (Jvm.hb hby d5_307) (by decide) (by decide) ⟨rfl, N26, by rw [e28]; exact KK, by rw [e28]; exact TVp, _, fF2, fA2, fC2, by rw [e28]; exact own_Ar_keep Kp (own_nin3 (by omega)) (own_Ar_oth W25 (by omega) AFj), by rw [e28]; exact own_Ar_keep Kp (own_nin3 (by omega)) (own_Ar_oth W25 (by omega) AAj), by rw [e28]; exact own_Ar_keep Kp (own_nin3 (by omega)) (own_Ar_oth W25 (by omega) ACj), by rw [e28]; exact ARp, fun j hj0 => if_neg (by omega), ?_, by rw [e28]; exact AOp, by rw [e28]; exact ASp⟩
      show (if us ≤ us + 3 ∧ us + 3 < us + (4 + k) then fF2 (0 + (us + 3 - us)) else fR (us + 3)) = _
      rw [if_pos (by omega), show 0 + (us + 3 - us) = 3 by omega, qFj 3 (by omega)]
      rfl
    rcases hfind with hA | ⟨i1, v1, hi1, hA, hv1, hn1, hh1, hnx⟩
    ·
      rw [hA]
      refine own_go (t' := T19.setTop (mkF m 110 #[.val (.ref t), .val (.ref b), .val (.int (Int32.ofNat k)), .val (.double (4607182418800017408 : UInt64)), .second, .val (.int (own_hv k at0 sq)), .val (.int (Int32.ofNat i0)), .unset, .unset, .unset, .unset, .unset] [])) (fun _ k_ => XS.istore X19.here hx rfl (Jvm.hb hby d5_108) rfl (l' := #[.val (.ref t), .val (.ref b), .val (.int (Int32.ofNat k)), .val (.double (4607182418800017408 : UInt64)), .second, .val (.int (own_hv k at0 sq)), .val (.int (Int32.ofNat i0)), .unset, .unset, .unset, .unset, .unset]) rfl k_) ?_
      refine own_go (t' := T19.setTop (mkF m 111 #[.val (.ref t), .val (.ref b), .val (.int (Int32.ofNat k)), .val (.double (4607182418800017408 : UInt64)), .second, .val (.int (own_hv k at0 sq)), .val (.int (Int32.ofNat i0)), .unset, .unset, .unset, .unset, .unset] [(.ref t)])) (fun _ k_ => XS.aloadN X19.here hx rfl (Jvm.hb hby d5_110) rfl rfl k_) ?_
      obtain ⟨T29, X29, e29, st29⟩ := getF X19 hx hZ hown (host := "") (Or.inl (hw _ (List.mem_of_getElem? (i := 16) rfl))) Via.refl e19 (TVj.2.2.2.1) (g := (mkF m 111 #[.val (.ref t), .val (.ref b), .val (.int (Int32.ofNat k)), .val (.double (4607182418800017408 : UInt64)), .second, .val (.int (own_hv k at0 sq)), .val (.int (Int32.ofNat i0)), .unset, .unset, .unset, .unset, .unset] [(.ref t)])) rfl rfl (Jvm.hb hby d5_111)
      refine own_go (t' := T29.setTop (mkF m 114 #[.val (.ref t), .val (.ref b), .val (.int (Int32.ofNat k)), .val (.double (4607182418800017408 : UInt64)), .second, .val (.int (own_hv k at0 sq)), .val (.int (Int32.ofNat i0)), .unset, .unset, .unset, .unset, .unset] [(.ref aS)])) st29 ?_
      refine own_go (t' := T29.setTop (mkF m 116 #[.val (.ref t), .val (.ref b), .val (.int (Int32.ofNat k)), .val (.double (4607182418800017408 : UInt64)), .second, .val (.int (own_hv k at0 sq)), .val (.int (Int32.ofNat i0)), .unset, .unset, .unset, .unset, .unset] [(.int (Int32.ofNat i0)), (.ref aS)])) (fun _ k_ => XS.iload X29.here hx rfl (Jvm.hb hby d5_114) rfl k_) ?_
      refine own_go (t' := T29.setTop (mkF m 117 #[.val (.ref t), .val (.ref b), .val (.int (Int32.ofNat k)), .val (.double (4607182418800017408 : UInt64)), .second, .val (.int (own_hv k at0 sq)), .val (.int (Int32.ofNat i0)), .unset, .unset, .unset, .unset, .unset] [(.long (0 : Int64))])) (own_ldJ X29 hx hZ e29 ASj (by decide) hi0 hz0 (g := (mkF m 116 #[.val (.ref t), .val (.ref b), .val (.int (Int32.ofNat k)), .val (.double (4607182418800017408 : UInt64)), .second, .val (.int (own_hv k at0 sq)), .val (.int (Int32.ofNat i0)), .unset, .unset, .unset, .unset, .unset] [(.int (Int32.ofNat i0)), (.ref aS)])) rfl rfl (Jvm.hb hby d5_116)) ?_
      refine own_go (t' := T29.setTop (mkF m 119 #[.val (.ref t), .val (.ref b), .val (.int (Int32.ofNat k)), .val (.double (4607182418800017408 : UInt64)), .second, .val (.int (own_hv k at0 sq)), .val (.int (Int32.ofNat i0)), .val (.long (0 : Int64)), .second, .unset, .unset, .unset] [])) (fun _ k_ => XS.lstore X29.here hx rfl (Jvm.hb hby d5_117) rfl (l' := #[.val (.ref t), .val (.ref b), .val (.int (Int32.ofNat k)), .val (.double (4607182418800017408 : UInt64)), .second, .val (.int (own_hv k at0 sq)), .val (.int (Int32.ofNat i0)), .val (.long (0 : Int64)), .second, .unset, .unset, .unset]) rfl k_) ?_
      refine own_go (t' := T29.setTop (mkF m 121 #[.val (.ref t), .val (.ref b), .val (.int (Int32.ofNat k)), .val (.double (4607182418800017408 : UInt64)), .second, .val (.int (own_hv k at0 sq)), .val (.int (Int32.ofNat i0)), .val (.long (0 : Int64)), .second, .unset, .unset, .unset] [(.long (0 : Int64))])) (fun _ k_ => XS.lload X29.here hx rfl (Jvm.hb hby d5_119) rfl k_) ?_
      refine own_go (t' := T29.setTop (mkF m 122 #[.val (.ref t), .val (.ref b), .val (.int (Int32.ofNat k)), .val (.double (4607182418800017408 : UInt64)), .second, .val (.int (own_hv k at0 sq)), .val (.int (Int32.ofNat i0)), .val (.long (0 : Int64)), .second, .unset, .unset, .unset] [(.long (0 : Int64)), (.long (0 : Int64))])) (fun _ k_ => XS.lconst X29.here hx rfl (Jvm.hb hby d5_121) k_) ?_
      refine own_go (t' := T29.setTop (mkF m 123 #[.val (.ref t), .val (.ref b), .val (.int (Int32.ofNat k)), .val (.double (4607182418800017408 : UInt64)), .second, .val (.int (own_hv k at0 sq)), .val (.int (Int32.ofNat i0)), .val (.long (0 : Int64)), .second, .unset, .unset, .unset] [(.int (lcmpW (0 : Int64) (0 : Int64)))])) (fun _ k_ => XS.lcmp X29.here hx rfl (Jvm.hb hby d5_122) rfl k_) ?_
      refine own_go (t' := T29.setTop (mkF m 245 #[.val (.ref t), .val (.ref b), .val (.int (Int32.ofNat k)), .val (.double (4607182418800017408 : UInt64)), .second, .val (.int (own_hv k at0 sq)), .val (.int (Int32.ofNat i0)), .val (.long (0 : Int64)), .second, .unset, .unset, .unset] [])) (fun _ k_ => XS.ifYes X29.here hx rfl (pc0 := 123) (pc' := 245) rfl (Jvm.hb hby d5_123) rfl ((if0 _ _).trans (teq ((lw_eq _ _).mpr rfl)).1) (by decide) (by decide) k_) ?_
      exact J245 T29 _ _ _ X29 e29 N18 
    ·
      rw [hA]
      refine own_go (t' := T19.setTop (mkF m 110 #[.val (.ref t), .val (.ref b), .val (.int (Int32.ofNat k)), .val (.double (4607182418800017408 : UInt64)), .second, .val (.int (own_hv k at0 sq)), .val (.int (Int32.ofNat i1)), .unset, .unset, .unset, .unset, .unset] [])) (fun _ k_ => XS.istore X19.here hx rfl (Jvm.hb hby d5_108) rfl (l' := #[.val (.ref t), .val (.ref b), .val (.int (Int32.ofNat k)), .val (.double (4607182418800017408 : UInt64)), .second, .val (.int (own_hv k at0 sq)), .val (.int (Int32.ofNat i1)), .unset, .unset, .unset, .unset, .unset]) rfl k_) ?_
      refine own_go (t' := T19.setTop (mkF m 111 #[.val (.ref t), .val (.ref b), .val (.int (Int32.ofNat k)), .val (.double (4607182418800017408 : UInt64)), .second, .val (.int (own_hv k at0 sq)), .val (.int (Int32.ofNat i1)), .unset, .unset, .unset, .unset, .unset] [(.ref t)])) (fun _ k_ => XS.aloadN X19.here hx rfl (Jvm.hb hby d5_110) rfl rfl k_) ?_
      obtain ⟨T30, X30, e30, st30⟩ := getF X19 hx hZ hown (host := "") (Or.inl (hw _ (List.mem_of_getElem? (i := 16) rfl))) Via.refl e19 (TVj.2.2.2.1) (g := (mkF m 111 #[.val (.ref t), .val (.ref b), .val (.int (Int32.ofNat k)), .val (.double (4607182418800017408 : UInt64)), .second, .val (.int (own_hv k at0 sq)), .val (.int (Int32.ofNat i1)), .unset, .unset, .unset, .unset, .unset] [(.ref t)])) rfl rfl (Jvm.hb hby d5_111)
      refine own_go (t' := T30.setTop (mkF m 114 #[.val (.ref t), .val (.ref b), .val (.int (Int32.ofNat k)), .val (.double (4607182418800017408 : UInt64)), .second, .val (.int (own_hv k at0 sq)), .val (.int (Int32.ofNat i1)), .unset, .unset, .unset, .unset, .unset] [(.ref aS)])) st30 ?_
      refine own_go (t' := T30.setTop (mkF m 116 #[.val (.ref t), .val (.ref b), .val (.int (Int32.ofNat k)), .val (.double (4607182418800017408 : UInt64)), .second, .val (.int (own_hv k at0 sq)), .val (.int (Int32.ofNat i1)), .unset, .unset, .unset, .unset, .unset] [(.int (Int32.ofNat i1)), (.ref aS)])) (fun _ k_ => XS.iload X30.here hx rfl (Jvm.hb hby d5_114) rfl k_) ?_
      refine own_go (t' := T30.setTop (mkF m 117 #[.val (.ref t), .val (.ref b), .val (.int (Int32.ofNat k)), .val (.double (4607182418800017408 : UInt64)), .second, .val (.int (own_hv k at0 sq)), .val (.int (Int32.ofNat i1)), .unset, .unset, .unset, .unset, .unset] [(.long v1)])) (own_ldJ X30 hx hZ e30 ASj (by decide) hi1 hv1 (g := (mkF m 116 #[.val (.ref t), .val (.ref b), .val (.int (Int32.ofNat k)), .val (.double (4607182418800017408 : UInt64)), .second, .val (.int (own_hv k at0 sq)), .val (.int (Int32.ofNat i1)), .unset, .unset, .unset, .unset, .unset] [(.int (Int32.ofNat i1)), (.ref aS)])) rfl rfl (Jvm.hb hby d5_116)) ?_
      refine own_go (t' := T30.setTop (mkF m 119 #[.val (.ref t), .val (.ref b), .val (.int (Int32.ofNat k)), .val (.double (4607182418800017408 : UInt64)), .second, .val (.int (own_hv k at0 sq)), .val (.int (Int32.ofNat i1)), .val (.long v1), .second, .unset, .unset, .unset] [])) (fun _ k_ => XS.lstore X30.here hx rfl (Jvm.hb hby d5_117) rfl (l' := #[.val (.ref t), .val (.ref b), .val (.int (Int32.ofNat k)), .val (.double (4607182418800017408 : UInt64)), .second, .val (.int (own_hv k at0 sq)), .val (.int (Int32.ofNat i1)), .val (.long v1), .second, .unset, .unset, .unset]) rfl k_) ?_
      refine own_go (t' := T30.setTop (mkF m 121 #[.val (.ref t), .val (.ref b), .val (.int (Int32.ofNat k)), .val (.double (4607182418800017408 : UInt64)), .second, .val (.int (own_hv k at0 sq)), .val (.int (Int32.ofNat i1)), .val (.long v1), .second, .unset, .unset, .unset] [(.long v1)])) (fun _ k_ => XS.lload X30.here hx rfl (Jvm.hb hby d5_119) rfl k_) ?_
      refine own_go (t' := T30.setTop (mkF m 122 #[.val (.ref t), .val (.ref b), .val (.int (Int32.ofNat k)), .val (.double (4607182418800017408 : UInt64)), .second, .val (.int (own_hv k at0 sq)), .val (.int (Int32.ofNat i1)), .val (.long v1), .second, .unset, .unset, .unset] [(.long (0 : Int64)), (.long v1)])) (fun _ k_ => XS.lconst X30.here hx rfl (Jvm.hb hby d5_121) k_) ?_
      refine own_go (t' := T30.setTop (mkF m 123 #[.val (.ref t), .val (.ref b), .val (.int (Int32.ofNat k)), .val (.double (4607182418800017408 : UInt64)), .second, .val (.int (own_hv k at0 sq)), .val (.int (Int32.ofNat i1)), .val (.long v1), .second, .unset, .unset, .unset] [(.int (lcmpW v1 (0 : Int64)))])) (fun _ k_ => XS.lcmp X30.here hx rfl (Jvm.hb hby d5_122) rfl k_) ?_
      refine own_go (t' := T30.setTop (mkF m 126 #[.val (.ref t), .val (.ref b), .val (.int (Int32.ofNat k)), .val (.double (4607182418800017408 : UInt64)), .second, .val (.int (own_hv k at0 sq)), .val (.int (Int32.ofNat i1)), .val (.long v1), .second, .unset, .unset, .unset] [])) (fun _ k_ => XS.ifNo X30.here hx rfl (Jvm.hb hby d5_123) rfl ((if0 _ _).trans (feq (fun q => hn1 ((lw_eq _ _).mp q))).1) k_) ?_
      refine own_go (t' := T30.setTop (mkF m 128 #[.val (.ref t), .val (.ref b), .val (.int (Int32.ofNat k)), .val (.double (4607182418800017408 : UInt64)), .second, .val (.int (own_hv k at0 sq)), .val (.int (Int32.ofNat i1)), .val (.long v1), .second, .unset, .unset, .unset] [(.long v1)])) (fun _ k_ => XS.lload X30.here hx rfl (Jvm.hb hby d5_126) rfl k_) ?_
      refine own_go (t' := T30.setTop (mkF m 129 #[.val (.ref t), .val (.ref b), .val (.int (Int32.ofNat k)), .val (.double (4607182418800017408 : UInt64)), .second, .val (.int (own_hv k at0 sq)), .val (.int (Int32.ofNat i1)), .val (.long v1), .second, .unset, .unset, .unset] [(.int v1.toInt32)])) (fun _ k_ => XS.l2i X30.here hx rfl (Jvm.hb hby d5_128) rfl k_) ?_
      refine own_go (t' := T30.setTop (mkF m 130 #[.val (.ref t), .val (.ref b), .val (.int (Int32.ofNat k)), .val (.double (4607182418800017408 : UInt64)), .second, .val (.int (own_hv k at0 sq)), .val (.int (Int32.ofNat i1)), .val (.long v1), .second, .unset, .unset, .unset] [(.int (1 : Int32)), (.int v1.toInt32)])) (fun _ k_ => XS.iconst X30.here hx rfl (Jvm.hb hby d5_129) k_) ?_
      refine own_go (t' := T30.setTop (mkF m 131 #[.val (.ref t), .val (.ref b), .val (.int (Int32.ofNat k)), .val (.double (4607182418800017408 : UInt64)), .second, .val (.int (own_hv k at0 sq)), .val (.int (Int32.ofNat i1)), .val (.long v1), .second, .unset, .unset, .unset] [(.int (v1.toInt32 - (1 : Int32)))])) (fun _ k_ => XS.isub X30.here hx rfl (Jvm.hb hby d5_130) rfl k_) ?_
      refine own_go (t' := T30.setTop (mkF m 133 #[.val (.ref t), .val (.ref b), .val (.int (Int32.ofNat k)), .val (.double (4607182418800017408 : UInt64)), .second, .val (.int (own_hv k at0 sq)), .val (.int (Int32.ofNat i1)), .val (.long v1), .second, .val (.int (v1.toInt32 - (1 : Int32))), .unset, .unset] [])) (fun _ k_ => XS.istore X30.here hx rfl (Jvm.hb hby d5_131) rfl (l' := #[.val (.ref t), .val (.ref b), .val (.int (Int32.ofNat k)), .val (.double (4607182418800017408 : UInt64)), .second, .val (.int (own_hv k at0 sq)), .val (.int (Int32.ofNat i1)), .val (.long v1), .second, .val (.int (v1.toInt32 - (1 : Int32))), .unset, .unset]) rfl k_) ?_
      refine own_go (t' := T30.setTop (mkF m 135 #[.val (.ref t), .val (.ref b), .val (.int (Int32.ofNat k)), .val (.double (4607182418800017408 : UInt64)), .second, .val (.int (own_hv k at0 sq)), .val (.int (Int32.ofNat i1)), .val (.long v1), .second, .val (.int (v1.toInt32 - (1 : Int32))), .unset, .unset] [(.long v1)])) (fun _ k_ => XS.lload X30.here hx rfl (Jvm.hb hby d5_133) rfl k_) ?_
      refine own_go (t' := T30.setTop (mkF m 137 #[.val (.ref t), .val (.ref b), .val (.int (Int32.ofNat k)), .val (.double (4607182418800017408 : UInt64)), .second, .val (.int (own_hv k at0 sq)), .val (.int (Int32.ofNat i1)), .val (.long v1), .second, .val (.int (v1.toInt32 - (1 : Int32))), .unset, .unset] [(.int (32 : Int32)), (.long v1)])) (fun _ k_ => XS.bipush X30.here hx rfl (Jvm.hb hby d5_135) k_) ?_
      refine own_go (t' := T30.setTop (mkF m 138 #[.val (.ref t), .val (.ref b), .val (.int (Int32.ofNat k)), .val (.double (4607182418800017408 : UInt64)), .second, .val (.int (own_hv k at0 sq)), .val (.int (Int32.ofNat i1)), .val (.long v1), .second, .val (.int (v1.toInt32 - (1 : Int32))), .unset, .unset] [(.long ((v1.toUInt64 >>> ((32 : Int32) &&& 0x3f).toInt64.toUInt64).toInt64))])) (fun _ k_ => XS.lushr X30.here hx rfl (Jvm.hb hby d5_137) rfl k_) ?_
      refine own_go (t' := T30.setTop (mkF m 139 #[.val (.ref t), .val (.ref b), .val (.int (Int32.ofNat k)), .val (.double (4607182418800017408 : UInt64)), .second, .val (.int (own_hv k at0 sq)), .val (.int (Int32.ofNat i1)), .val (.long v1), .second, .val (.int (v1.toInt32 - (1 : Int32))), .unset, .unset] [(.int ((v1.toUInt64 >>> ((32 : Int32) &&& 0x3f).toInt64.toUInt64).toInt64).toInt32)])) (fun _ k_ => XS.l2i X30.here hx rfl (Jvm.hb hby d5_138) rfl k_) ?_
      refine own_go (t' := T30.setTop (mkF m 141 #[.val (.ref t), .val (.ref b), .val (.int (Int32.ofNat k)), .val (.double (4607182418800017408 : UInt64)), .second, .val (.int (own_hv k at0 sq)), .val (.int (Int32.ofNat i1)), .val (.long v1), .second, .val (.int (v1.toInt32 - (1 : Int32))), .unset, .unset] [(.int (own_hv k at0 sq)), (.int ((v1.toUInt64 >>> ((32 : Int32) &&& 0x3f).toInt64.toUInt64).toInt64).toInt32)])) (fun _ k_ => XS.iload X30.here hx rfl (Jvm.hb hby d5_139) rfl k_) ?_
      refine own_go (t' := T30.setTop (mkF m 219 #[.val (.ref t), .val (.ref b), .val (.int (Int32.ofNat k)), .val (.double (4607182418800017408 : UInt64)), .second, .val (.int (own_hv k at0 sq)), .val (.int (Int32.ofNat i1)), .val (.long v1), .second, .val (.int (v1.toInt32 - (1 : Int32))), .unset, .unset] [])) (fun _ k_ => XS.icmpYes X30.here hx rfl (pc0 := 141) (pc' := 219) rfl (Jvm.hb hby d5_141) rfl (feq hh1).2 (by decide) (by decide) k_) ?_
      refine own_go (t' := T30.setTop (mkF m 221 #[.val (.ref t), .val (.ref b), .val (.int (Int32.ofNat k)), .val (.double (4607182418800017408 : UInt64)), .second, .val (.int (own_hv k at0 sq)), .val (.int (Int32.ofNat i1)), .val (.long v1), .second, .val (.int (v1.toInt32 - (1 : Int32))), .unset, .unset] [(.int (Int32.ofNat i1))])) (fun _ k_ => XS.iload X30.here hx rfl (Jvm.hb hby d5_219) rfl k_) ?_
      refine own_go (t' := T30.setTop (mkF m 222 #[.val (.ref t), .val (.ref b), .val (.int (Int32.ofNat k)), .val (.double (4607182418800017408 : UInt64)), .second, .val (.int (own_hv k at0 sq)), .val (.int (Int32.ofNat i1)), .val (.long v1), .second, .val (.int (v1.toInt32 - (1 : Int32))), .unset, .unset] [(.int (1 : Int32)), (.int (Int32.ofNat i1))])) (fun _ k_ => XS.iconst X30.here hx rfl (Jvm.hb hby d5_221) k_) ?_
      refine own_go (t' := T30.setTop (mkF m 223 #[.val (.ref t), .val (.ref b), .val (.int (Int32.ofNat k)), .val (.double (4607182418800017408 : UInt64)), .second, .val (.int (own_hv k at0 sq)), .val (.int (Int32.ofNat i1)), .val (.long v1), .second, .val (.int (v1.toInt32 - (1 : Int32))), .unset, .unset] [(.int ((Int32.ofNat i1) + (1 : Int32)))])) (fun _ k_ => XS.iadd X30.here hx rfl (Jvm.hb hby d5_222) rfl k_) ?_
      refine own_go (t' := T30.setTop (mkF m 224 #[.val (.ref t), .val (.ref b), .val (.int (Int32.ofNat k)), .val (.double (4607182418800017408 : UInt64)), .second, .val (.int (own_hv k at0 sq)), .val (.int (Int32.ofNat i1)), .val (.long v1), .second, .val (.int (v1.toInt32 - (1 : Int32))), .unset, .unset] [(.ref t), (.int ((Int32.ofNat i1) + (1 : Int32)))])) (fun _ k_ => XS.aloadN X30.here hx rfl (Jvm.hb hby d5_223) rfl rfl k_) ?_
      obtain ⟨T31, X31, e31, st31⟩ := getF X30 hx hZ hown (host := "") (Or.inl (hw _ (List.mem_of_getElem? (i := 16) rfl))) Via.refl e30 (TVj.2.2.2.1) (g := (mkF m 224 #[.val (.ref t), .val (.ref b), .val (.int (Int32.ofNat k)), .val (.double (4607182418800017408 : UInt64)), .second, .val (.int (own_hv k at0 sq)), .val (.int (Int32.ofNat i1)), .val (.long v1), .second, .val (.int (v1.toInt32 - (1 : Int32))), .unset, .unset] [(.ref t), (.int ((Int32.ofNat i1) + (1 : Int32)))])) rfl rfl (Jvm.hb hby d5_224)
      refine own_go (t' := T31.setTop (mkF m 227 #[.val (.ref t), .val (.ref b), .val (.int (Int32.ofNat k)), .val (.double (4607182418800017408 : UInt64)), .second, .val (.int (own_hv k at0 sq)), .val (.int (Int32.ofNat i1)), .val (.long v1), .second, .val (.int (v1.toInt32 - (1 : Int32))), .unset, .unset] [(.ref aS), (.int ((Int32.ofNat i1) + (1 : Int32)))])) st31 ?_
      refine own_go (t' := T31.setTop (mkF m 228 #[.val (.ref t), .val (.ref b), .val (.int (Int32.ofNat k)), .val (.double (4607182418800017408 : UInt64)), .second, .val (.int (own_hv k at0 sq)), .val (.int (Int32.ofNat i1)), .val (.long v1), .second, .val (.int (v1.toInt32 - (1 : Int32))), .unset, .unset] [(.int (Int32.ofNat 32)), (.int ((Int32.ofNat i1) + (1 : Int32)))])) (own_alen X31 hx hZ e31 ASj (g := (mkF m 227 #[.val (.ref t), .val (.ref b), .val (.int (Int32.ofNat k)), .val (.double (4607182418800017408 : UInt64)), .second, .val (.int (own_hv k at0 sq)), .val (.int (Int32.ofNat i1)), .val (.long v1), .second, .val (.int (v1.toInt32 - (1 : Int32))), .unset, .unset] [(.ref aS), (.int ((Int32.ofNat i1) + (1 : Int32)))])) rfl rfl (Jvm.hb hby d5_227)) ?_
      refine own_go (t' := T31.setTop (mkF m 229 #[.val (.ref t), .val (.ref b), .val (.int (Int32.ofNat k)), .val (.double (4607182418800017408 : UInt64)), .second, .val (.int (own_hv k at0 sq)), .val (.int (Int32.ofNat i1)), .val (.long v1), .second, .val (.int (v1.toInt32 - (1 : Int32))), .unset, .unset] [(.int (1 : Int32)), (.int (Int32.ofNat 32)), (.int ((Int32.ofNat i1) + (1 : Int32)))])) (fun _ k_ => XS.iconst X31.here hx rfl (Jvm.hb hby d5_228) k_) ?_
      refine own_go (t' := T31.setTop (mkF m 230 #[.val (.ref t), .val (.ref b), .val (.int (Int32.ofNat k)), .val (.double (4607182418800017408 : UInt64)), .second, .val (.int (own_hv k at0 sq)), .val (.int (Int32.ofNat i1)), .val (.long v1), .second, .val (.int (v1.toInt32 - (1 : Int32))), .unset, .unset] [(.int ((Int32.ofNat 32) - (1 : Int32))), (.int ((Int32.ofNat i1) + (1 : Int32)))])) (fun _ k_ => XS.isub X31.here hx rfl (Jvm.hb hby d5_229) rfl k_) ?_
      rw [show (Int32.ofNat 32) - (1 : Int32) = (31 : Int32) from by decide]
      refine own_go (t' := T31.setTop (mkF m 231 #[.val (.ref t), .val (.ref b), .val (.int (Int32.ofNat k)), .val (.double (4607182418800017408 : UInt64)), .second, .val (.int (own_hv k at0 sq)), .val (.int (Int32.ofNat i1)), .val (.long v1), .second, .val (.int (v1.toInt32 - (1 : Int32))), .unset, .unset] [(.int (((Int32.ofNat i1) + (1 : Int32)) &&& (31 : Int32)))])) (fun _ k_ => XS.iand X31.here hx rfl (Jvm.hb hby d5_230) rfl k_) ?_
      rw [hnx]
      refine own_go (t' := T31.setTop (mkF m 233 #[.val (.ref t), .val (.ref b), .val (.int (Int32.ofNat k)), .val (.double (4607182418800017408 : UInt64)), .second, .val (.int (own_hv k at0 sq)), .val (.int (Int32.ofNat i0)), .val (.long v1), .second, .val (.int (v1.toInt32 - (1 : Int32))), .unset, .unset] [])) (fun _ k_ => XS.istore X31.here hx rfl (Jvm.hb hby d5_231) rfl (l' := #[.val (.ref t), .val (.ref b), .val (.int (Int32.ofNat k)), .val (.double (4607182418800017408 : UInt64)), .second, .val (.int (own_hv k at0 sq)), .val (.int (Int32.ofNat i0)), .val (.long v1), .second, .val (.int (v1.toInt32 - (1 : Int32))), .unset, .unset]) rfl k_) ?_
      refine own_go (t' := T31.setTop (mkF m 234 #[.val (.ref t), .val (.ref b), .val (.int (Int32.ofNat k)), .val (.double (4607182418800017408 : UInt64)), .second, .val (.int (own_hv k at0 sq)), .val (.int (Int32.ofNat i0)), .val (.long v1), .second, .val (.int (v1.toInt32 - (1 : Int32))), .unset, .unset] [(.ref t)])) (fun _ k_ => XS.aloadN X31.here hx rfl (Jvm.hb hby d5_233) rfl rfl k_) ?_
      obtain ⟨T32, X32, e32, st32⟩ := getF X31 hx hZ hown (host := "") (Or.inl (hw _ (List.mem_of_getElem? (i := 16) rfl))) Via.refl e31 (TVj.2.2.2.1) (g := (mkF m 234 #[.val (.ref t), .val (.ref b), .val (.int (Int32.ofNat k)), .val (.double (4607182418800017408 : UInt64)), .second, .val (.int (own_hv k at0 sq)), .val (.int (Int32.ofNat i0)), .val (.long v1), .second, .val (.int (v1.toInt32 - (1 : Int32))), .unset, .unset] [(.ref t)])) rfl rfl (Jvm.hb hby d5_234)
      refine own_go (t' := T32.setTop (mkF m 237 #[.val (.ref t), .val (.ref b), .val (.int (Int32.ofNat k)), .val (.double (4607182418800017408 : UInt64)), .second, .val (.int (own_hv k at0 sq)), .val (.int (Int32.ofNat i0)), .val (.long v1), .second, .val (.int (v1.toInt32 - (1 : Int32))), .unset, .unset] [(.ref aS)])) st32 ?_
      refine own_go (t' := T32.setTop (mkF m 239 #[.val (.ref t), .val (.ref b), .val (.int (Int32.ofNat k)), .val (.double (4607182418800017408 : UInt64)), .second, .val (.int (own_hv k at0 sq)), .val (.int (Int32.ofNat i0)), .val (.long v1), .second, .val (.int (v1.toInt32 - (1 : Int32))), .unset, .unset] [(.int (Int32.ofNat i0)), (.ref aS)])) (fun _ k_ => XS.iload X32.here hx rfl (Jvm.hb hby d5_237) rfl k_) ?_
      refine own_go (t' := T32.setTop (mkF m 240 #[.val (.ref t), .val (.ref b), .val (.int (Int32.ofNat k)), .val (.double (4607182418800017408 : UInt64)), .second, .val (.int (own_hv k at0 sq)), .val (.int (Int32.ofNat i0)), .val (.long v1), .second, .val (.int (v1.toInt32 - (1 : Int32))), .unset, .unset] [(.long (0 : Int64))])) (own_ldJ X32 hx hZ e32 ASj (by decide) hi0 hz0 (g := (mkF m 239 #[.val (.ref t), .val (.ref b), .val (.int (Int32.ofNat k)), .val (.double (4607182418800017408 : UInt64)), .second, .val (.int (own_hv k at0 sq)), .val (.int (Int32.ofNat i0)), .val (.long v1), .second, .val (.int (v1.toInt32 - (1 : Int32))), .unset, .unset] [(.int (Int32.ofNat i0)), (.ref aS)])) rfl rfl (Jvm.hb hby d5_239)) ?_
      refine own_go (t' := T32.setTop (mkF m 242 #[.val (.ref t), .val (.ref b), .val (.int (Int32.ofNat k)), .val (.double (4607182418800017408 : UInt64)), .second, .val (.int (own_hv k at0 sq)), .val (.int (Int32.ofNat i0)), .val (.long (0 : Int64)), .second, .val (.int (v1.toInt32 - (1 : Int32))), .unset, .unset] [])) (fun _ k_ => XS.lstore X32.here hx rfl (Jvm.hb hby d5_240) rfl (l' := #[.val (.ref t), .val (.ref b), .val (.int (Int32.ofNat k)), .val (.double (4607182418800017408 : UInt64)), .second, .val (.int (own_hv k at0 sq)), .val (.int (Int32.ofNat i0)), .val (.long (0 : Int64)), .second, .val (.int (v1.toInt32 - (1 : Int32))), .unset, .unset]) rfl k_) ?_
      refine own_go (t' := T32.setTop (mkF m 119 #[.val (.ref t), .val (.ref b), .val (.int (Int32.ofNat k)), .val (.double (4607182418800017408 : UInt64)), .second, .val (.int (own_hv k at0 sq)), .val (.int (Int32.ofNat i0)), .val (.long (0 : Int64)), .second, .val (.int (v1.toInt32 - (1 : Int32))), .unset, .unset] [])) (fun _ k_ => XS.goto X32.here hx rfl (pc0 := 242) (pc' := 119) rfl (Jvm.hb hby d5_242) (by decide) (by decide) k_) ?_
      refine own_go (t' := T32.setTop (mkF m 121 #[.val (.ref t), .val (.ref b), .val (.int (Int32.ofNat k)), .val (.double (4607182418800017408 : UInt64)), .second, .val (.int (own_hv k at0 sq)), .val (.int (Int32.ofNat i0)), .val (.long (0 : Int64)), .second, .val (.int (v1.toInt32 - (1 : Int32))), .unset, .unset] [(.long (0 : Int64))])) (fun _ k_ => XS.lload X32.here hx rfl (Jvm.hb hby d5_119) rfl k_) ?_
      refine own_go (t' := T32.setTop (mkF m 122 #[.val (.ref t), .val (.ref b), .val (.int (Int32.ofNat k)), .val (.double (4607182418800017408 : UInt64)), .second, .val (.int (own_hv k at0 sq)), .val (.int (Int32.ofNat i0)), .val (.long (0 : Int64)), .second, .val (.int (v1.toInt32 - (1 : Int32))), .unset, .unset] [(.long (0 : Int64)), (.long (0 : Int64))])) (fun _ k_ => XS.lconst X32.here hx rfl (Jvm.hb hby d5_121) k_) ?_
      refine own_go (t' := T32.setTop (mkF m 123 #[.val (.ref t), .val (.ref b), .val (.int (Int32.ofNat k)), .val (.double (4607182418800017408 : UInt64)), .second, .val (.int (own_hv k at0 sq)), .val (.int (Int32.ofNat i0)), .val (.long (0 : Int64)), .second, .val (.int (v1.toInt32 - (1 : Int32))), .unset, .unset] [(.int (lcmpW (0 : Int64) (0 : Int64)))])) (fun _ k_ => XS.lcmp X32.here hx rfl (Jvm.hb hby d5_122) rfl k_) ?_
      refine own_go (t' := T32.setTop (mkF m 245 #[.val (.ref t), .val (.ref b), .val (.int (Int32.ofNat k)), .val (.double (4607182418800017408 : UInt64)), .second, .val (.int (own_hv k at0 sq)), .val (.int (Int32.ofNat i0)), .val (.long (0 : Int64)), .second, .val (.int (v1.toInt32 - (1 : Int32))), .unset, .unset] [])) (fun _ k_ => XS.ifYes X32.here hx rfl (pc0 := 123) (pc' := 245) rfl (Jvm.hb hby d5_123) rfl ((if0 _ _).trans (teq ((lw_eq _ _).mpr rfl)).1) (by decide) (by decide) k_) ?_
      exact J245 T32 _ _ _ X32 e32 N18 
  rcases (id hsq : sq = 0 ∨ sq = 1) with hq | hq
  ·
    refine own_go (t' := T16.setTop (mkF m 92 #[.val (.ref t), .val (.ref b), .val (.int (Int32.ofNat k)), .val (.double (4607182418800017408 : UInt64)), .second, .unset, .unset, .unset, .unset, .unset, .unset, .unset] [])) (fun _ k_ => XS.ifYes X16.here hx rfl (pc0 := 79) (pc' := 92) rfl (Jvm.hb hby d5_79) rfl ((if0 _ _).trans (teq hq).1) (by decide) (by decide) k_) ?_
    exact J92 T16 _ _ _ _ _ X16 e16 N16 K2 A15 AA2 AC2 (own_form qF1 (by unfold own_f3; rw [if_pos hq]))
  ·
    refine own_go (t' := T16.setTop (mkF m 82 #[.val (.ref t), .val (.ref b), .val (.int (Int32.ofNat k)), .val (.double (4607182418800017408 : UInt64)), .second, .unset, .unset, .unset, .unset, .unset, .unset, .unset] [])) (fun _ k_ => XS.ifNo X16.here hx rfl (Jvm.hb hby d5_79) rfl ((if0 _ _).trans (feq (fun q => absurd (q.symm.trans hq) (by decide))).1) k_) ?_
    refine own_go (t' := T16.setTop (mkF m 83 #[.val (.ref t), .val (.ref b), .val (.int (Int32.ofNat k)), .val (.double (4607182418800017408 : UInt64)), .second, .unset, .unset, .unset, .unset, .unset, .unset, .unset] [(.ref t)])) (fun _ k_ => XS.aloadN X16.here hx rfl (Jvm.hb hby d5_82) rfl rfl k_) ?_
    obtain ⟨T33, X33, e33, st33⟩ := getF X16 hx hZ hown (host := "") (Or.inl (hw _ (List.mem_of_getElem? (i := 18) rfl))) Via.refl e16 (TVw15.2.2.2.2.1) (g := (mkF m 83 #[.val (.ref t), .val (.ref b), .val (.int (Int32.ofNat k)), .val (.double (4607182418800017408 : UInt64)), .second, .unset, .unset, .unset, .unset, .unset, .unset, .unset] [(.ref t)])) rfl rfl (Jvm.hb hby d5_83)
    refine own_go (t' := T33.setTop (mkF m 86 #[.val (.ref t), .val (.ref b), .val (.int (Int32.ofNat k)), .val (.double (4607182418800017408 : UInt64)), .second, .unset, .unset, .unset, .unset, .unset, .unset, .unset] [(.ref aF)])) st33 ?_
    refine own_go (t' := T33.setTop (mkF m 87 #[.val (.ref t), .val (.ref b), .val (.int (Int32.ofNat k)), .val (.double (4607182418800017408 : UInt64)), .second, .unset, .unset, .unset, .unset, .unset, .unset, .unset] [(.int (3 : Int32)), (.ref aF)])) (fun _ k_ => XS.iconst X33.here hx rfl (Jvm.hb hby d5_86) k_) ?_
    refine own_go (t' := T33.setTop (mkF m 88 #[.val (.ref t), .val (.ref b), .val (.int (Int32.ofNat k)), .val (.double (4607182418800017408 : UInt64)), .second, .unset, .unset, .unset, .unset, .unset, .unset, .unset] [(.int (3 : Int32)), (.ref aF), (.int (3 : Int32)), (.ref aF)])) (fun _ k_ => Jvm.Free.XT.dup2 X33.here hx rfl (Jvm.hb hby d5_87) rfl rfl rfl k_) ?_
    refine own_go (t' := T33.setTop (mkF m 89 #[.val (.ref t), .val (.ref b), .val (.int (Int32.ofNat k)), .val (.double (4607182418800017408 : UInt64)), .second, .unset, .unset, .unset, .unset, .unset, .unset, .unset] [(.long ((2 : Int64) * (Int32.ofNat k).toInt64)), (.int (3 : Int32)), (.ref aF)])) (own_ldJ X33 hx hZ e33 A15 (by decide) (show 3 < 8 by decide) rfl (g := (mkF m 88 #[.val (.ref t), .val (.ref b), .val (.int (Int32.ofNat k)), .val (.double (4607182418800017408 : UInt64)), .second, .unset, .unset, .unset, .unset, .unset, .unset, .unset] [(.int (3 : Int32)), (.ref aF), (.int (3 : Int32)), (.ref aF)])) rfl rfl (Jvm.hb hby d5_88)) ?_
    refine own_go (t' := T33.setTop (mkF m 90 #[.val (.ref t), .val (.ref b), .val (.int (Int32.ofNat k)), .val (.double (4607182418800017408 : UInt64)), .second, .unset, .unset, .unset, .unset, .unset, .unset, .unset] [(.long (1 : Int64)), (.long ((2 : Int64) * (Int32.ofNat k).toInt64)), (.int (3 : Int32)), (.ref aF)])) (fun _ k_ => XS.lconst X33.here hx rfl (Jvm.hb hby d5_89) k_) ?_
    refine own_go (t' := T33.setTop (mkF m 91 #[.val (.ref t), .val (.ref b), .val (.int (Int32.ofNat k)), .val (.double (4607182418800017408 : UInt64)), .second, .unset, .unset, .unset, .unset, .unset, .unset, .unset] [(.long (((2 : Int64) * (Int32.ofNat k).toInt64) + (1 : Int64))), (.int (3 : Int32)), (.ref aF)])) (fun _ k_ => XS.ladd X33.here hx rfl (Jvm.hb hby d5_90) rfl k_) ?_
    obtain ⟨T34, h34, X34, e34, W34, A34, st34⟩ := own_stJ X33 hx hZ e33 A15 (by decide) (show 3 < 8 by decide) (g := (mkF m 91 #[.val (.ref t), .val (.ref b), .val (.int (Int32.ofNat k)), .val (.double (4607182418800017408 : UInt64)), .second, .unset, .unset, .unset, .unset, .unset, .unset, .unset] [(.long (((2 : Int64) * (Int32.ofNat k).toInt64) + (1 : Int64))), (.int (3 : Int32)), (.ref aF)])) rfl rfl (Jvm.hb hby d5_91)
    refine own_go (t' := T34.setTop (mkF m 92 #[.val (.ref t), .val (.ref b), .val (.int (Int32.ofNat k)), .val (.double (4607182418800017408 : UInt64)), .second, .unset, .unset, .unset, .unset, .unset, .unset, .unset] [])) st34 ?_
    have N34 := Fr.snoc X34 N16 gF
    exact J92 T34 _ _ _ _ _ X34 e34 N34 (K2.wr W34 (Or.inl (by simp))) (own_Ar_congr A34 fun j _ => own_updupd j) (own_Ar_oth W34 (by omega) AA2) (own_Ar_oth W34 (by omega) AC2) (own_form qF1 (by unfold own_f3; rw [if_neg (fun q => absurd (q.symm.trans hq) (by decide))]))
theorem ef_rm_head (m : MethodId) (x0 : Addr) (x1 : Int32) (x2 : Int32) : entryFrame m #[(.ref x0), (.int x1), (.int x2)] 3 = mkF m 0 #[.val (.ref x0), .val (.int x1), .val (.int x2)] [] := by first | (simp [entryFrame, mkF, argsToLocals, Value.category]; done) | rfl
set_option maxRecDepth 65536 in
set_option maxHeartbeats 40000000 in
theorem rm_head (l : Launch) (Z : State) (a0 : Array Value) (hw : ∀ d ∈ tables_1, d.before a0 Z = true) (ws : List Jvm.Cond) (b aa ac k : Nat) (x sq : Int32) (ga gc : Nat → Value) (h0 : Heap) (n0 : Nat) (Z0 : n0 ≤ h0.size) (BV : own_BV Z h0 b (.double (4607182418800017408 : UInt64)) (.int sq) (.double (4607182418800017408 : UInt64)) (.ref aa) (.ref ac) (.int (Int32.ofNat k))) (Ba : own_Ar Z h0 aa .int 4 ga) (Bc : own_Ar Z h0 ac .double 4 gc) (hx0 : ¬ x < 0) (hk : k < 4) (ho : b < aa ∧ aa < ac) (gb : n0 ≤ b) :
    own_Ctr l Z (⟨"com/example/brisk_rules/briskrules/GroundRule$Builder", "head", "(IZ)Lcom/example/brisk_rules/briskrules/GroundRule$Builder;"⟩ : MethodName) prog_10_method_3_code 3 (some (.object "com/example/brisk_rules/briskrules/GroundRule$Builder")) ws ({ frames := 0, cells := 0, slots := 0, locals := 0 } : Room) #[(.ref b), (.int x), (.int (0 : Int32))] h0 (fun v h L => v = some (.ref b) ∧ Fr n0 L ∧ Keep h0 h [b, aa, ac] ∧ own_BV Z h b (.double (4607182418800017408 : UInt64)) (.int sq) (.double (4607182418800017408 : UInt64)) (.ref aa) (.ref ac) (.int (Int32.ofNat (k + 1))) ∧ own_Ar Z h aa .int 4 (own_upd ga k (.int x)) ∧ own_Ar Z h ac .double 4 (own_upd gc k (.double (13830554455654793216 : UInt64)))) := by
  refine own_enter (plainFor_of_name pn_d4) ?_
  intro p e s m below meth c s₁ Bd hZ hml X0 e0
  have hx := Bd.exec
  have hby := Bd.bytes
  have hown : s.vm.findClass "com/example/brisk_rules/briskrules/GroundRule$Builder" = some m.cls := findClass_of_methodNamed Bd.named
  have hnm := (name_of_methodNamed Bd.named Bd.method).1
  have N0 := Fr.nil n0
  refine own_go (t' := s₁.setTop (mkF m 0 #[.val (.ref b), .val (.int x), .val (.int (0 : Int32))] [])) (fun _ k_ => castTop (ef_rm_head m b x (0 : Int32)) k_) ?_
  refine own_go (t' := s₁.setTop (mkF m 1 #[.val (.ref b), .val (.int x), .val (.int (0 : Int32))] [(.int x)])) (fun _ k_ => XS.iloadN X0.here hx rfl (Jvm.hb hby d4_0) rfl k_) ?_
  refine own_go (t' := s₁.setTop (mkF m 18 #[.val (.ref b), .val (.int x), .val (.int (0 : Int32))] [])) (fun _ k_ => XS.ifYes X0.here hx rfl (pc0 := 1) (pc' := 18) rfl (Jvm.hb hby d4_1) rfl ((if0 _ _).trans (flt hx0).2.1) (by decide) (by decide) k_) ?_
  refine own_go (t' := s₁.setTop (mkF m 19 #[.val (.ref b), .val (.int x), .val (.int (0 : Int32))] [(.ref b)])) (fun _ k_ => XS.aloadN X0.here hx rfl (Jvm.hb hby d4_18) rfl rfl k_) ?_
  obtain ⟨T1, X1, e1, st1⟩ := getF X0 hx hZ hown (host := "") (Or.inl (hw _ (List.mem_of_getElem? (i := 50) rfl))) Via.refl e0 (BV.2.2.2.2.2.2) (g := (mkF m 19 #[.val (.ref b), .val (.int x), .val (.int (0 : Int32))] [(.ref b)])) rfl rfl (Jvm.hb hby d4_19)
  refine own_go (t' := T1.setTop (mkF m 22 #[.val (.ref b), .val (.int x), .val (.int (0 : Int32))] [(.int (Int32.ofNat k))])) st1 ?_
  refine own_go (t' := T1.setTop (mkF m 23 #[.val (.ref b), .val (.int x), .val (.int (0 : Int32))] [(.ref b), (.int (Int32.ofNat k))])) (fun _ k_ => XS.aloadN X1.here hx rfl (Jvm.hb hby d4_22) rfl rfl k_) ?_
  obtain ⟨T2, X2, e2, st2⟩ := getF X1 hx hZ hown (host := "") (Or.inl (hw _ (List.mem_of_getElem? (i := 35) rfl))) Via.refl e1 (BV.2.2.2.2.1) (g := (mkF m 23 #[.val (.ref b), .val (.int x), .val (.int (0 : Int32))] [(.ref b), (.int (Int32.ofNat k))])) rfl rfl (Jvm.hb hby d4_23)
  refine own_go (t' := T2.setTop (mkF m 26 #[.val (.ref b), .val (.int x), .val (.int (0 : Int32))] [(.ref aa), (.int (Int32.ofNat k))])) st2 ?_
  refine own_go (t' := T2.setTop (mkF m 27 #[.val (.ref b), .val (.int x), .val (.int (0 : Int32))] [(.int (Int32.ofNat 4)), (.int (Int32.ofNat k))])) (own_alen X2 hx hZ e2 Ba (g := (mkF m 26 #[.val (.ref b), .val (.int x), .val (.int (0 : Int32))] [(.ref aa), (.int (Int32.ofNat k))])) rfl rfl (Jvm.hb hby d4_26)) ?_
  refine own_go (t' := T2.setTop (mkF m 64 #[.val (.ref b), .val (.int x), .val (.int (0 : Int32))] [])) (fun _ k_ => XS.icmpYes X2.here hx rfl (pc0 := 27) (pc' := 64) rfl (Jvm.hb hby d4_27) rfl (feq (own_ine (by omega) (by omega) (by omega))).2 (by decide) (by decide) k_) ?_
  refine own_go (t' := T2.setTop (mkF m 65 #[.val (.ref b), .val (.int x), .val (.int (0 : Int32))] [(.ref b)])) (fun _ k_ => XS.aloadN X2.here hx rfl (Jvm.hb hby d4_64) rfl rfl k_) ?_
  obtain ⟨T3, X3, e3, st3⟩ := getF X2 hx hZ hown (host := "") (Or.inl (hw _ (List.mem_of_getElem? (i := 35) rfl))) Via.refl e2 (BV.2.2.2.2.1) (g := (mkF m 65 #[.val (.ref b), .val (.int x), .val (.int (0 : Int32))] [(.ref b)])) rfl rfl (Jvm.hb hby d4_65)
  refine own_go (t' := T3.setTop (mkF m 68 #[.val (.ref b), .val (.int x), .val (.int (0 : Int32))] [(.ref aa)])) st3 ?_
  refine own_go (t' := T3.setTop (mkF m 69 #[.val (.ref b), .val (.int x), .val (.int (0 : Int32))] [(.ref b), (.ref aa)])) (fun _ k_ => XS.aloadN X3.here hx rfl (Jvm.hb hby d4_68) rfl rfl k_) ?_
  obtain ⟨T4, X4, e4, st4⟩ := getF X3 hx hZ hown (host := "") (Or.inl (hw _ (List.mem_of_getElem? (i := 50) rfl))) Via.refl e3 (BV.2.2.2.2.2.2) (g := (mkF m 69 #[.val (.ref b), .val (.int x), .val (.int (0 : Int32))] [(.ref b), (.ref aa)])) rfl rfl (Jvm.hb hby d4_69)
  refine own_go (t' := T4.setTop (mkF m 72 #[.val (.ref b), .val (.int x), .val (.int (0 : Int32))] [(.int (Int32.ofNat k)), (.ref aa)])) st4 ?_
  refine own_go (t' := T4.setTop (mkF m 73 #[.val (.ref b), .val (.int x), .val (.int (0 : Int32))] [(.int x), (.int (Int32.ofNat k)), (.ref aa)])) (fun _ k_ => XS.iloadN X4.here hx rfl (Jvm.hb hby d4_72) rfl k_) ?_
  obtain ⟨T5, h5, X5, e5, W5, A5, st5⟩ := own_stI X4 hx hZ e4 Ba (by decide) hk (g := (mkF m 73 #[.val (.ref b), .val (.int x), .val (.int (0 : Int32))] [(.int x), (.int (Int32.ofNat k)), (.ref aa)])) rfl rfl (Jvm.hb hby d4_73)
  refine own_go (t' := T5.setTop (mkF m 74 #[.val (.ref b), .val (.int x), .val (.int (0 : Int32))] [])) st5 ?_
  have N5 := Fr.snoc X5 N0 (show n0 ≤ aa by omega)
  have BVa := own_BV_keep BV (Keep.of_wr W5) (own_nin1 (by omega))
  have Bca := own_Ar_oth W5 (by omega) Bc
  refine own_go (t' := T5.setTop (mkF m 75 #[.val (.ref b), .val (.int x), .val (.int (0 : Int32))] [(.int (0 : Int32))])) (fun _ k_ => XS.iloadN X5.here hx rfl (Jvm.hb hby d4_74) rfl k_) ?_
  refine own_go (t' := T5.setTop (mkF m 101 #[.val (.ref b), .val (.int x), .val (.int (0 : Int32))] [])) (fun _ k_ => XS.ifYes X5.here hx rfl (pc0 := 75) (pc' := 101) rfl (Jvm.hb hby d4_75) rfl ((if0 _ _).trans (teq rfl).1) (by decide) (by decide) k_) ?_
  refine own_go (t' := T5.setTop (mkF m 102 #[.val (.ref b), .val (.int x), .val (.int (0 : Int32))] [(.ref b)])) (fun _ k_ => XS.aloadN X5.here hx rfl (Jvm.hb hby d4_101) rfl rfl k_) ?_
  obtain ⟨T6, X6, e6, st6⟩ := getF X5 hx hZ hown (host := "") (Or.inl (hw _ (List.mem_of_getElem? (i := 38) rfl))) Via.refl e5 (BVa.2.2.2.2.2.1) (g := (mkF m 102 #[.val (.ref b), .val (.int x), .val (.int (0 : Int32))] [(.ref b)])) rfl rfl (Jvm.hb hby d4_102)
  refine own_go (t' := T6.setTop (mkF m 105 #[.val (.ref b), .val (.int x), .val (.int (0 : Int32))] [(.ref ac)])) st6 ?_
  refine own_go (t' := T6.setTop (mkF m 106 #[.val (.ref b), .val (.int x), .val (.int (0 : Int32))] [(.ref b), (.ref ac)])) (fun _ k_ => XS.aloadN X6.here hx rfl (Jvm.hb hby d4_105) rfl rfl k_) ?_
  obtain ⟨T7, X7, e7, st7⟩ := getF X6 hx hZ hown (host := "") (Or.inl (hw _ (List.mem_of_getElem? (i := 50) rfl))) Via.refl e6 (BVa.2.2.2.2.2.2) (g := (mkF m 106 #[.val (.ref b), .val (.int x), .val (.int (0 : Int32))] [(.ref b), (.ref ac)])) rfl rfl (Jvm.hb hby d4_106)
  refine own_go (t' := T7.setTop (mkF m 109 #[.val (.ref b), .val (.int x), .val (.int (0 : Int32))] [(.int (Int32.ofNat k)), (.ref ac)])) st7 ?_
  refine own_go (t' := T7.setTop (mkF m 112 #[.val (.ref b), .val (.int x), .val (.int (0 : Int32))] [(.double (13830554455654793216 : UInt64)), (.int (Int32.ofNat k)), (.ref ac)])) (X7.ldc2DoubleC hx (own := "com/example/brisk_rules/briskrules/GroundRule$Builder") (index := 61) (b := (13830554455654793216 : UInt64)) hown (mvT hZ (hw _ (List.mem_of_getElem? (i := 52) rfl))) (g := (mkF m 109 #[.val (.ref b), .val (.int x), .val (.int (0 : Int32))] [(.int (Int32.ofNat k)), (.ref ac)])) rfl (Jvm.hb hby d4_109)) ?_
  obtain ⟨T8, h8, X8, e8, W8, A8, st8⟩ := own_stD X7 hx hZ e7 Bca (by decide) hk (g := (mkF m 112 #[.val (.ref b), .val (.int x), .val (.int (0 : Int32))] [(.double (13830554455654793216 : UInt64)), (.int (Int32.ofNat k)), (.ref ac)])) rfl rfl (Jvm.hb hby d4_112)
  refine own_go (t' := T8.setTop (mkF m 113 #[.val (.ref b), .val (.int x), .val (.int (0 : Int32))] [])) st8 ?_
  have N8 := Fr.snoc X8 N5 (show n0 ≤ ac by omega)
  have BVb := own_BV_keep BVa (Keep.of_wr W8) (own_nin1 (by omega))
  refine own_go (t' := T8.setTop (mkF m 114 #[.val (.ref b), .val (.int x), .val (.int (0 : Int32))] [(.ref b)])) (fun _ k_ => XS.aloadN X8.here hx rfl (Jvm.hb hby d4_113) rfl rfl k_) ?_
  refine own_go (t' := T8.setTop (mkF m 115 #[.val (.ref b), .val (.int x), .val (.int (0 : Int32))] [(.ref b), (.ref b)])) (fun _ k_ => XS.dup X8.here hx rfl (Jvm.hb hby d4_114) rfl rfl k_) ?_
  obtain ⟨T9, X9, e9, st9⟩ := getF X8 hx hZ hown (host := "") (Or.inl (hw _ (List.mem_of_getElem? (i := 50) rfl))) Via.refl e8 (BVb.2.2.2.2.2.2) (g := (mkF m 115 #[.val (.ref b), .val (.int x), .val (.int (0 : Int32))] [(.ref b), (.ref b)])) rfl rfl (Jvm.hb hby d4_115)
  refine own_go (t' := T9.setTop (mkF m 118 #[.val (.ref b), .val (.int x), .val (.int (0 : Int32))] [(.int (Int32.ofNat k)), (.ref b)])) st9 ?_
  refine own_go (t' := T9.setTop (mkF m 119 #[.val (.ref b), .val (.int x), .val (.int (0 : Int32))] [(.int (1 : Int32)), (.int (Int32.ofNat k)), (.ref b)])) (fun _ k_ => XS.iconst X9.here hx rfl (Jvm.hb hby d4_118) k_) ?_
  refine own_go (t' := T9.setTop (mkF m 120 #[.val (.ref b), .val (.int x), .val (.int (0 : Int32))] [(.int ((Int32.ofNat k) + (1 : Int32))), (.ref b)])) (fun _ k_ => XS.iadd X9.here hx rfl (Jvm.hb hby d4_119) rfl k_) ?_
  rw [own_succ k]
  obtain ⟨T10, h10, X10, e10, W10, st10⟩ := putF X9 hx hZ hown (host := "") (Or.inl (hw _ (List.mem_of_getElem? (i := 50) rfl))) Via.refl e9 (BVb.2.2.2.2.2.2) BVb.1 (Or.inl (hw _ (List.mem_of_getElem? (i := 51) rfl))) (hw _ (List.mem_of_getElem? (i := 27) rfl)) (ty := .int) (by decide) rfl rfl (g := (mkF m 120 #[.val (.ref b), .val (.int x), .val (.int (0 : Int32))] [(.int (Int32.ofNat (k + 1))), (.ref b)])) rfl rfl (Jvm.hb hby d4_120)
  refine own_go (t' := T10.setTop (mkF m 123 #[.val (.ref b), .val (.int x), .val (.int (0 : Int32))] [])) st10 ?_
  have N10 := Fr.snoc X10 N8 gb
  have BVc : own_BV Z h10 b (.double (4607182418800017408 : UInt64)) (.int sq) (.double (4607182418800017408 : UInt64)) (.ref aa) (.ref ac) (.int (Int32.ofNat (k + 1))) := ⟨BVb.1.wr W10, (BVb.2.1).other W10 (Or.inr (slot_ne (C := "com/example/brisk_rules/briskrules/GroundRule$Builder") (Or.inr (hw _ (List.mem_of_getElem? (i := 42) rfl))) (Or.inl (hw _ (List.mem_of_getElem? (i := 51) rfl))) (by decide) (t := .double) (t' := .int) (by decide) (by decide))), (BVb.2.2.1).other W10 (Or.inr (slot_ne (C := "com/example/brisk_rules/briskrules/GroundRule$Builder") (Or.inr (hw _ (List.mem_of_getElem? (i := 44) rfl))) (Or.inl (hw _ (List.mem_of_getElem? (i := 51) rfl))) (by decide) (t := .boolean) (t' := .int) (by decide) (by decide))), (BVb.2.2.2.1).other W10 (Or.inr (slot_ne (C := "com/example/brisk_rules/briskrules/GroundRule$Builder") (Or.inl (hw _ (List.mem_of_getElem? (i := 34) rfl))) (Or.inl (hw _ (List.mem_of_getElem? (i := 51) rfl))) (by decide) (t := .double) (t' := .int) (by decide) (by decide))), (BVb.2.2.2.2.1).other W10 (Or.inr (slot_ne (C := "com/example/brisk_rules/briskrules/GroundRule$Builder") (Or.inl (hw _ (List.mem_of_getElem? (i := 36) rfl))) (Or.inl (hw _ (List.mem_of_getElem? (i := 51) rfl))) (by decide) (t := (.array .int)) (t' := .int) (by decide) (by decide))), (BVb.2.2.2.2.2.1).other W10 (Or.inr (slot_ne (C := "com/example/brisk_rules/briskrules/GroundRule$Builder") (Or.inl (hw _ (List.mem_of_getElem? (i := 39) rfl))) (Or.inl (hw _ (List.mem_of_getElem? (i := 51) rfl))) (by decide) (t := (.array .double)) (t' := .int) (by decide) (by decide))), (BVb.2.2.2.2.2.2).same W10⟩
  have KK : Keep h0 h10 [b, aa, ac] := (((Keep.refl h0 [b, aa, ac]).wr W5 (Or.inl (by simp))).wr W8 (Or.inl (by simp))).wr W10 (Or.inl (by simp))
  refine own_go (t' := T10.setTop (mkF m 124 #[.val (.ref b), .val (.int x), .val (.int (0 : Int32))] [(.ref b)])) (fun _ k_ => XS.aloadN X10.here hx rfl (Jvm.hb hby d4_123) rfl rfl k_) ?_
  exact own_retA X10 hx Bd.returns (BodyLoose.notSynchronized Bd) (Jvm.hb hby d4_124) rfl rfl (by decide) (by decide) ⟨rfl, N10, by rw [e10]; exact KK, by rw [e10]; exact BVc, by rw [e10]; exact own_Ar_oth W10 (by omega) (own_Ar_oth W8 (by omega) A5), by rw [e10]; exact own_Ar_oth W10 (by omega) A8⟩
theorem own_wrsz {h h' : Heap} {a : Addr} {sl : Nat} {v : Value} (W : Wr h h' a sl v) : h'.size = h.size := by
  obtain ⟨cell, -, -, -, rfl⟩ := W
  simp
theorem own_newlt {Z : State} {h h' : Heap} {a n : Nat} {ty : FieldType} {f : Nat → Value} (A : own_Ar Z h' a ty n f) (g : a = h.size) : h.size < h'.size := by
  have := own_arlt A
  omega
theorem ef_rm_binit (m : MethodId) (x0 : Addr) (x1 : UInt64) (x2 : Int32) : entryFrame m #[(.ref x0), (.double x1), (.int x2)] 4 = mkF m 0 #[.val (.ref x0), .val (.double x1), .second, .val (.int x2)] [] := by first | (simp [entryFrame, mkF, argsToLocals, Value.category]; done) | rfl
set_option maxRecDepth 65536 in
set_option maxHeartbeats 40000000 in
theorem rm_binit (l : Launch) (Z : State) (a0 : Array Value) (hw : ∀ d ∈ tables_1, d.before a0 Z = true) (ws : List Jvm.Cond) (b : Nat) (sq : Int32) (h0 : Heap) (n0 : Nat) (Z0 : n0 ≤ h0.size) (BV : own_BV Z h0 b (.double 0) (.int 0) (.double 0) .null .null (.int 0)) (hsq : sq = 0 ∨ sq = 1) (gb : n0 ≤ b) :
    own_Ctr l Z (⟨"com/example/brisk_rules/briskrules/GroundRule$Builder", "<init>", "(DZ)V"⟩ : MethodName) prog_10_method_1_code 4 none ws ({ frames := 1, cells := 2, slots := 8, locals := 12 } : Room) #[(.ref b), (.double (4607182418800017408 : UInt64)), (.int sq)] h0 (fun v h L => v = none ∧ Fr n0 L ∧ Keep h0 h [b] ∧ ∃ aa ac : Nat, own_BV Z h b (.double (4607182418800017408 : UInt64)) (.int sq) (.double (4607182418800017408 : UInt64)) (.ref aa) (.ref ac) (.int (Int32.ofNat 0)) ∧ (∃ ga, own_Ar Z h aa .int 4 ga) ∧ (∃ gc, own_Ar Z h ac .double 4 gc) ∧ h0.size ≤ aa ∧ aa < ac ∧ ac < h.size) := by
  refine own_enter (plainFor_of_name pn_d3) ?_
  intro p e s m below meth c s₁ Bd hZ hml X0 e0
  have hx := Bd.exec
  have hby := Bd.bytes
  have hown : s.vm.findClass "com/example/brisk_rules/briskrules/GroundRule$Builder" = some m.cls := findClass_of_methodNamed Bd.named
  have hnm := (name_of_methodNamed Bd.named Bd.method).1
  have N0 := Fr.nil n0
  refine own_go (t' := s₁.setTop (mkF m 0 #[.val (.ref b), .val (.double (4607182418800017408 : UInt64)), .second, .val (.int sq)] [])) (fun _ k_ => castTop (ef_rm_binit m b (4607182418800017408 : UInt64) sq) k_) ?_
  have hbl := own_exlt BV.1
  refine own_go (t' := s₁.setTop (mkF m 1 #[.val (.ref b), .val (.double (4607182418800017408 : UInt64)), .second, .val (.int sq)] [(.ref b)])) (fun _ k_ => XS.aloadN X0.here hx rfl (Jvm.hb hby d3_0) rfl rfl k_) ?_
  obtain ⟨T1, X1, e1, st1⟩ := initO X0 hx hZ hown (hw _ (List.mem_of_getElem? (i := 32) rfl)) (hw _ (List.mem_of_getElem? (i := 8) rfl)) (hw _ (List.mem_of_getElem? (i := 9) rfl)) e0 (g := (mkF m 1 #[.val (.ref b), .val (.double (4607182418800017408 : UInt64)), .second, .val (.int sq)] [(.ref b)])) rfl (by rw [hml]; rfl) rfl (Jvm.hb hby d3_1) (by decide) (W := 0) (by show 2 * 0 + _ ≤ _; exact Nat.le_of_eq rfl) (by decide)
  refine own_go (t' := T1.setTop (mkF m 4 #[.val (.ref b), .val (.double (4607182418800017408 : UInt64)), .second, .val (.int sq)] [])) st1 ?_
  refine own_go (t' := T1.setTop (mkF m 5 #[.val (.ref b), .val (.double (4607182418800017408 : UInt64)), .second, .val (.int sq)] [(.ref b)])) (fun _ k_ => XS.aloadN X1.here hx rfl (Jvm.hb hby d3_4) rfl rfl k_) ?_
  refine own_go (t' := T1.setTop (mkF m 6 #[.val (.ref b), .val (.double (4607182418800017408 : UInt64)), .second, .val (.int sq)] [(.double (4607182418800017408 : UInt64)), (.ref b)])) (fun _ k_ => XS.dconst1 X1.here hx rfl (Jvm.hb hby d3_5) rfl k_) ?_
  obtain ⟨T2, h2, X2, e2, W2, st2⟩ := putF X1 hx hZ hown (host := "") (Or.inl (hw _ (List.mem_of_getElem? (i := 33) rfl))) Via.refl e1 (BV.2.2.2.1) BV.1 (Or.inl (hw _ (List.mem_of_getElem? (i := 34) rfl))) (hw _ (List.mem_of_getElem? (i := 27) rfl)) (ty := .double) (by decide) rfl rfl (g := (mkF m 6 #[.val (.ref b), .val (.double (4607182418800017408 : UInt64)), .second, .val (.int sq)] [(.double (4607182418800017408 : UInt64)), (.ref b)])) rfl rfl (Jvm.hb hby d3_6)
  refine own_go (t' := T2.setTop (mkF m 9 #[.val (.ref b), .val (.double (4607182418800017408 : UInt64)), .second, .val (.int sq)] [])) st2 ?_
  have N2 := Fr.snoc X2 N0 gb
  have BV2 : own_BV Z h2 b (.double 0) (.int 0) (.double (4607182418800017408 : UInt64)) .null .null (.int 0) := ⟨BV.1.wr W2, (BV.2.1).other W2 (Or.inr (slot_ne (C := "com/example/brisk_rules/briskrules/GroundRule$Builder") (Or.inr (hw _ (List.mem_of_getElem? (i := 42) rfl))) (Or.inl (hw _ (List.mem_of_getElem? (i := 34) rfl))) (by decide) (t := .double) (t' := .double) (by decide) (by decide))), (BV.2.2.1).other W2 (Or.inr (slot_ne (C := "com/example/brisk_rules/briskrules/GroundRule$Builder") (Or.inr (hw _ (List.mem_of_getElem? (i := 44) rfl))) (Or.inl (hw _ (List.mem_of_getElem? (i := 34) rfl))) (by decide) (t := .boolean) (t' := .double) (by decide) (by decide))), (BV.2.2.2.1).same W2, (BV.2.2.2.2.1).other W2 (Or.inr (slot_ne (C := "com/example/brisk_rules/briskrules/GroundRule$Builder") (Or.inl (hw _ (List.mem_of_getElem? (i := 36) rfl))) (Or.inl (hw _ (List.mem_of_getElem? (i := 34) rfl))) (by decide) (t := (.array .int)) (t' := .double) (by decide) (by decide))), (BV.2.2.2.2.2.1).other W2 (Or.inr (slot_ne (C := "com/example/brisk_rules/briskrules/GroundRule$Builder") (Or.inl (hw _ (List.mem_of_getElem? (i := 39) rfl))) (Or.inl (hw _ (List.mem_of_getElem? (i := 34) rfl))) (by decide) (t := (.array .double)) (t' := .double) (by decide) (by decide))), (BV.2.2.2.2.2.2).other W2 (Or.inr (slot_ne (C := "com/example/brisk_rules/briskrules/GroundRule$Builder") (Or.inl (hw _ (List.mem_of_getElem? (i := 51) rfl))) (Or.inl (hw _ (List.mem_of_getElem? (i := 34) rfl))) (by decide) (t := .int) (t' := .double) (by decide) (by decide)))⟩
  refine own_go (t' := T2.setTop (mkF m 10 #[.val (.ref b), .val (.double (4607182418800017408 : UInt64)), .second, .val (.int sq)] [(.ref b)])) (fun _ k_ => XS.aloadN X2.here hx rfl (Jvm.hb hby d3_9) rfl rfl k_) ?_
  refine own_go (t' := T2.setTop (mkF m 11 #[.val (.ref b), .val (.double (4607182418800017408 : UInt64)), .second, .val (.int sq)] [(.int (4 : Int32)), (.ref b)])) (fun _ k_ => XS.iconst X2.here hx rfl (Jvm.hb hby d3_10) k_) ?_
  obtain ⟨T3, h3, cA3, X3, e3, E3, Ar3, st3⟩ := newP X2 hx hZ (hw _ (List.mem_of_getElem? (i := 13) rfl)) e2 (g := (mkF m 11 #[.val (.ref b), .val (.double (4607182418800017408 : UInt64)), .second, .val (.int sq)] [(.int (4 : Int32)), (.ref b)])) rfl (Jvm.hb hby d3_11) rfl (by decide) (cap := 4) (by decide) (by decide) (by decide) (by decide)
  obtain ⟨aa, g3⟩ : ∃ z, z = h2.size := ⟨_, rfl⟩
  rw [← g3] at Ar3 st3
  refine own_go (t' := T3.setTop (mkF m 13 #[.val (.ref b), .val (.double (4607182418800017408 : UInt64)), .second, .val (.int sq)] [(.ref aa), (.ref b)])) st3 ?_
  have Ba0 := own_Ar_new (n := 4) (by decide) Ar3
  have BVn3 := own_BV_ext BV2 E3
  obtain ⟨T4, h4, X4, e4, W4, st4⟩ := putF X3 hx hZ hown (host := "") (Or.inl (hw _ (List.mem_of_getElem? (i := 35) rfl))) Via.refl e3 (BVn3.2.2.2.2.1) BVn3.1 (Or.inl (hw _ (List.mem_of_getElem? (i := 36) rfl))) (hw _ (List.mem_of_getElem? (i := 27) rfl)) (ty := (.array .int)) (by decide) rfl rfl (g := (mkF m 13 #[.val (.ref b), .val (.double (4607182418800017408 : UInt64)), .second, .val (.int sq)] [(.ref aa), (.ref b)])) rfl rfl (Jvm.hb hby d3_13)
  refine own_go (t' := T4.setTop (mkF m 16 #[.val (.ref b), .val (.double (4607182418800017408 : UInt64)), .second, .val (.int sq)] [])) st4 ?_
  have N4 := Fr.snoc X4 N2 gb
  have BV4 : own_BV Z h4 b (.double 0) (.int 0) (.double (4607182418800017408 : UInt64)) (.ref aa) .null (.int 0) := ⟨BVn3.1.wr W4, (BVn3.2.1).other W4 (Or.inr (slot_ne (C := "com/example/brisk_rules/briskrules/GroundRule$Builder") (Or.inr (hw _ (List.mem_of_getElem? (i := 42) rfl))) (Or.inl (hw _ (List.mem_of_getElem? (i := 36) rfl))) (by decide) (t := .double) (t' := (.array .int)) (by decide) (by decide))), (BVn3.2.2.1).other W4 (Or.inr (slot_ne (C := "com/example/brisk_rules/briskrules/GroundRule$Builder") (Or.inr (hw _ (List.mem_of_getElem? (i := 44) rfl))) (Or.inl (hw _ (List.mem_of_getElem? (i := 36) rfl))) (by decide) (t := .boolean) (t' := (.array .int)) (by decide) (by decide))), (BVn3.2.2.2.1).other W4 (Or.inr (slot_ne (C := "com/example/brisk_rules/briskrules/GroundRule$Builder") (Or.inl (hw _ (List.mem_of_getElem? (i := 34) rfl))) (Or.inl (hw _ (List.mem_of_getElem? (i := 36) rfl))) (by decide) (t := .double) (t' := (.array .int)) (by decide) (by decide))), (BVn3.2.2.2.2.1).same W4, (BVn3.2.2.2.2.2.1).other W4 (Or.inr (slot_ne (C := "com/example/brisk_rules/briskrules/GroundRule$Builder") (Or.inl (hw _ (List.mem_of_getElem? (i := 39) rfl))) (Or.inl (hw _ (List.mem_of_getElem? (i := 36) rfl))) (by decide) (t := (.array .double)) (t' := (.array .int)) (by decide) (by decide))), (BVn3.2.2.2.2.2.2).other W4 (Or.inr (slot_ne (C := "com/example/brisk_rules/briskrules/GroundRule$Builder") (Or.inl (hw _ (List.mem_of_getElem? (i := 51) rfl))) (Or.inl (hw _ (List.mem_of_getElem? (i := 36) rfl))) (by decide) (t := .int) (t' := (.array .int)) (by decide) (by decide)))⟩
  refine own_go (t' := T4.setTop (mkF m 17 #[.val (.ref b), .val (.double (4607182418800017408 : UInt64)), .second, .val (.int sq)] [(.ref b)])) (fun _ k_ => XS.aloadN X4.here hx rfl (Jvm.hb hby d3_16) rfl rfl k_) ?_
  refine own_go (t' := T4.setTop (mkF m 18 #[.val (.ref b), .val (.double (4607182418800017408 : UInt64)), .second, .val (.int sq)] [(.int (4 : Int32)), (.ref b)])) (fun _ k_ => XS.iconst X4.here hx rfl (Jvm.hb hby d3_17) k_) ?_
  obtain ⟨T5, h5, cA5, X5, e5, E5, Ar5, st5⟩ := newP X4 hx hZ (hw _ (List.mem_of_getElem? (i := 37) rfl)) e4 (g := (mkF m 18 #[.val (.ref b), .val (.double (4607182418800017408 : UInt64)), .second, .val (.int sq)] [(.int (4 : Int32)), (.ref b)])) rfl (Jvm.hb hby d3_18) rfl (by decide) (cap := 4) (by decide) (by decide) (by decide) (by decide)
  obtain ⟨ac, g5⟩ : ∃ z, z = h4.size := ⟨_, rfl⟩
  rw [← g5] at Ar5 st5
  refine own_go (t' := T5.setTop (mkF m 20 #[.val (.ref b), .val (.double (4607182418800017408 : UInt64)), .second, .val (.int sq)] [(.ref ac), (.ref b)])) st5 ?_
  have Bc0 := own_Ar_new (n := 4) (by decide) Ar5
  have BVn5 := own_BV_ext BV4 E5
  obtain ⟨T6, h6, X6, e6, W6, st6⟩ := putF X5 hx hZ hown (host := "") (Or.inl (hw _ (List.mem_of_getElem? (i := 38) rfl))) Via.refl e5 (BVn5.2.2.2.2.2.1) BVn5.1 (Or.inl (hw _ (List.mem_of_getElem? (i := 39) rfl))) (hw _ (List.mem_of_getElem? (i := 27) rfl)) (ty := (.array .double)) (by decide) rfl rfl (g := (mkF m 20 #[.val (.ref b), .val (.double (4607182418800017408 : UInt64)), .second, .val (.int sq)] [(.ref ac), (.ref b)])) rfl rfl (Jvm.hb hby d3_20)
  refine own_go (t' := T6.setTop (mkF m 23 #[.val (.ref b), .val (.double (4607182418800017408 : UInt64)), .second, .val (.int sq)] [])) st6 ?_
  have N6 := Fr.snoc X6 N4 gb
  have BV6 : own_BV Z h6 b (.double 0) (.int 0) (.double (4607182418800017408 : UInt64)) (.ref aa) (.ref ac) (.int 0) := ⟨BVn5.1.wr W6, (BVn5.2.1).other W6 (Or.inr (slot_ne (C := "com/example/brisk_rules/briskrules/GroundRule$Builder") (Or.inr (hw _ (List.mem_of_getElem? (i := 42) rfl))) (Or.inl (hw _ (List.mem_of_getElem? (i := 39) rfl))) (by decide) (t := .double) (t' := (.array .double)) (by decide) (by decide))), (BVn5.2.2.1).other W6 (Or.inr (slot_ne (C := "com/example/brisk_rules/briskrules/GroundRule$Builder") (Or.inr (hw _ (List.mem_of_getElem? (i := 44) rfl))) (Or.inl (hw _ (List.mem_of_getElem? (i := 39) rfl))) (by decide) (t := .boolean) (t' := (.array .double)) (by decide) (by decide))), (BVn5.2.2.2.1).other W6 (Or.inr (slot_ne (C := "com/example/brisk_rules/briskrules/GroundRule$Builder") (Or.inl (hw _ (List.mem_of_getElem? (i := 34) rfl))) (Or.inl (hw _ (List.mem_of_getElem? (i := 39) rfl))) (by decide) (t := .double) (t' := (.array .double)) (by decide) (by decide))), (BVn5.2.2.2.2.1).other W6 (Or.inr (slot_ne (C := "com/example/brisk_rules/briskrules/GroundRule$Builder") (Or.inl (hw _ (List.mem_of_getElem? (i := 36) rfl))) (Or.inl (hw _ (List.mem_of_getElem? (i := 39) rfl))) (by decide) (t := (.array .int)) (t' := (.array .double)) (by decide) (by decide))), (BVn5.2.2.2.2.2.1).same W6, (BVn5.2.2.2.2.2.2).other W6 (Or.inr (slot_ne (C := "com/example/brisk_rules/briskrules/GroundRule$Builder") (Or.inl (hw _ (List.mem_of_getElem? (i := 51) rfl))) (Or.inl (hw _ (List.mem_of_getElem? (i := 39) rfl))) (by decide) (t := .int) (t' := (.array .double)) (by decide) (by decide)))⟩
  refine own_go (t' := T6.setTop (mkF m 24 #[.val (.ref b), .val (.double (4607182418800017408 : UInt64)), .second, .val (.int sq)] [(.double (4607182418800017408 : UInt64))])) (fun _ k_ => XS.dloadN X6.here hx rfl (Jvm.hb hby d3_23) rfl k_) ?_
  refine own_go (t' := T6.setTop (mkF m 25 #[.val (.ref b), .val (.double (4607182418800017408 : UInt64)), .second, .val (.int sq)] [(.double (0 : UInt64)), (.double (4607182418800017408 : UInt64))])) (fun _ k_ => XS.dconst0 X6.here hx rfl (Jvm.hb hby d3_24) rfl k_) ?_
  refine own_go (t' := T6.setTop (mkF m 26 #[.val (.ref b), .val (.double (4607182418800017408 : UInt64)), .second, .val (.int sq)] [(.int (cmpValue (FP.dcmp (4607182418800017408 : UInt64) (0 : UInt64)) CmpOp.l))])) (fun _ k_ => XS.dcmpS X6.here hx rfl (Jvm.hb hby d3_25) rfl rfl k_) ?_
  refine own_go (t' := T6.setTop (mkF m 29 #[.val (.ref b), .val (.double (4607182418800017408 : UInt64)), .second, .val (.int sq)] [])) (fun _ k_ => XS.ifNo X6.here hx rfl (Jvm.hb hby d3_26) rfl ((if0 _ _).trans (flt (by decide +kernel)).1) k_) ?_
  refine own_go (t' := T6.setTop (mkF m 30 #[.val (.ref b), .val (.double (4607182418800017408 : UInt64)), .second, .val (.int sq)] [(.double (4607182418800017408 : UInt64))])) (fun _ k_ => XS.dloadN X6.here hx rfl (Jvm.hb hby d3_29) rfl k_) ?_
  refine own_go (t' := T6.setTop (mkF m 33 #[.val (.ref b), .val (.double (4607182418800017408 : UInt64)), .second, .val (.int sq)] [(.double (9218868437227405312 : UInt64)), (.double (4607182418800017408 : UInt64))])) (X6.ldc2DoubleC hx (own := "com/example/brisk_rules/briskrules/GroundRule$Builder") (index := 23) (b := (9218868437227405312 : UInt64)) hown (mvT hZ (hw _ (List.mem_of_getElem? (i := 40) rfl))) (g := (mkF m 30 #[.val (.ref b), .val (.double (4607182418800017408 : UInt64)), .second, .val (.int sq)] [(.double (4607182418800017408 : UInt64))])) rfl (Jvm.hb hby d3_30)) ?_
  refine own_go (t' := T6.setTop (mkF m 34 #[.val (.ref b), .val (.double (4607182418800017408 : UInt64)), .second, .val (.int sq)] [(.int (cmpValue (FP.dcmp (4607182418800017408 : UInt64) (9218868437227405312 : UInt64)) CmpOp.g))])) (fun _ k_ => XS.dcmpS X6.here hx rfl (Jvm.hb hby d3_33) rfl rfl k_) ?_
  refine own_go (t' := T6.setTop (mkF m 51 #[.val (.ref b), .val (.double (4607182418800017408 : UInt64)), .second, .val (.int sq)] [])) (fun _ k_ => XS.ifYes X6.here hx rfl (pc0 := 34) (pc' := 51) rfl (Jvm.hb hby d3_34) rfl ((if0 _ _).trans (tlt (by decide +kernel)).1) (by decide) (by decide) k_) ?_
  refine own_go (t' := T6.setTop (mkF m 52 #[.val (.ref b), .val (.double (4607182418800017408 : UInt64)), .second, .val (.int sq)] [(.ref b)])) (fun _ k_ => XS.aloadN X6.here hx rfl (Jvm.hb hby d3_51) rfl rfl k_) ?_
  refine own_go (t' := T6.setTop (mkF m 53 #[.val (.ref b), .val (.double (4607182418800017408 : UInt64)), .second, .val (.int sq)] [(.double (4607182418800017408 : UInt64)), (.ref b)])) (fun _ k_ => XS.dloadN X6.here hx rfl (Jvm.hb hby d3_52) rfl k_) ?_
  obtain ⟨T7, h7, X7, e7, W7, st7⟩ := putF X6 hx hZ hown (host := "") (Or.inl (hw _ (List.mem_of_getElem? (i := 41) rfl))) Via.refl e6 (BV6.2.1) BV6.1 (Or.inr ⟨(hw _ (List.mem_of_getElem? (i := 42) rfl)), rfl, hnm⟩) (hw _ (List.mem_of_getElem? (i := 27) rfl)) (ty := .double) (by decide) rfl rfl (g := (mkF m 53 #[.val (.ref b), .val (.double (4607182418800017408 : UInt64)), .second, .val (.int sq)] [(.double (4607182418800017408 : UInt64)), (.ref b)])) rfl rfl (Jvm.hb hby d3_53)
  refine own_go (t' := T7.setTop (mkF m 56 #[.val (.ref b), .val (.double (4607182418800017408 : UInt64)), .second, .val (.int sq)] [])) st7 ?_
  have N7 := Fr.snoc X7 N6 gb
  have BV7 : own_BV Z h7 b (.double (4607182418800017408 : UInt64)) (.int 0) (.double (4607182418800017408 : UInt64)) (.ref aa) (.ref ac) (.int 0) := ⟨BV6.1.wr W7, (BV6.2.1).same W7, (BV6.2.2.1).other W7 (Or.inr (slot_ne (C := "com/example/brisk_rules/briskrules/GroundRule$Builder") (Or.inr (hw _ (List.mem_of_getElem? (i := 44) rfl))) (Or.inr (hw _ (List.mem_of_getElem? (i := 42) rfl))) (by decide) (t := .boolean) (t' := .double) (by decide) (by decide))), (BV6.2.2.2.1).other W7 (Or.inr (slot_ne (C := "com/example/brisk_rules/briskrules/GroundRule$Builder") (Or.inl (hw _ (List.mem_of_getElem? (i := 34) rfl))) (Or.inr (hw _ (List.mem_of_getElem? (i := 42) rfl))) (by decide) (t := .double) (t' := .double) (by decide) (by decide))), (BV6.2.2.2.2.1).other W7 (Or.inr (slot_ne (C := "com/example/brisk_rules/briskrules/GroundRule$Builder") (Or.inl (hw _ (List.mem_of_getElem? (i := 36) rfl))) (Or.inr (hw _ (List.mem_of_getElem? (i := 42) rfl))) (by decide) (t := (.array .int)) (t' := .double) (by decide) (by decide))), (BV6.2.2.2.2.2.1).other W7 (Or.inr (slot_ne (C := "com/example/brisk_rules/briskrules/GroundRule$Builder") (Or.inl (hw _ (List.mem_of_getElem? (i := 39) rfl))) (Or.inr (hw _ (List.mem_of_getElem? (i := 42) rfl))) (by decide) (t := (.array .double)) (t' := .double) (by decide) (by decide))), (BV6.2.2.2.2.2.2).other W7 (Or.inr (slot_ne (C := "com/example/brisk_rules/briskrules/GroundRule$Builder") (Or.inl (hw _ (List.mem_of_getElem? (i := 51) rfl))) (Or.inr (hw _ (List.mem_of_getElem? (i := 42) rfl))) (by decide) (t := .int) (t' := .double) (by decide) (by decide)))⟩
  refine own_go (t' := T7.setTop (mkF m 57 #[.val (.ref b), .val (.double (4607182418800017408 : UInt64)), .second, .val (.int sq)] [(.ref b)])) (fun _ k_ => XS.aloadN X7.here hx rfl (Jvm.hb hby d3_56) rfl rfl k_) ?_
  refine own_go (t' := T7.setTop (mkF m 58 #[.val (.ref b), .val (.double (4607182418800017408 : UInt64)), .second, .val (.int sq)] [(.int sq), (.ref b)])) (fun _ k_ => XS.iloadN X7.here hx rfl (Jvm.hb hby d3_57) rfl k_) ?_
  obtain ⟨T8, h8, X8, e8, W8, st8⟩ := putF X7 hx hZ hown (host := "") (Or.inl (hw _ (List.mem_of_getElem? (i := 43) rfl))) Via.refl e7 (BV7.2.2.1) BV7.1 (Or.inr ⟨(hw _ (List.mem_of_getElem? (i := 44) rfl)), rfl, hnm⟩) (hw _ (List.mem_of_getElem? (i := 27) rfl)) (ty := .boolean) (by decide) (by rcases hsq with rfl | rfl <;> rfl) (by rcases hsq with rfl | rfl <;> rfl) (g := (mkF m 58 #[.val (.ref b), .val (.double (4607182418800017408 : UInt64)), .second, .val (.int sq)] [(.int sq), (.ref b)])) rfl rfl (Jvm.hb hby d3_58)
  refine own_go (t' := T8.setTop (mkF m 61 #[.val (.ref b), .val (.double (4607182418800017408 : UInt64)), .second, .val (.int sq)] [])) st8 ?_
  have N8 := Fr.snoc X8 N7 gb
  have BV8 : own_BV Z h8 b (.double (4607182418800017408 : UInt64)) (.int sq) (.double (4607182418800017408 : UInt64)) (.ref aa) (.ref ac) (.int 0) := ⟨BV7.1.wr W8, (BV7.2.1).other W8 (Or.inr (slot_ne (C := "com/example/brisk_rules/briskrules/GroundRule$Builder") (Or.inr (hw _ (List.mem_of_getElem? (i := 42) rfl))) (Or.inr (hw _ (List.mem_of_getElem? (i := 44) rfl))) (by decide) (t := .double) (t' := .boolean) (by decide) (by decide))), (BV7.2.2.1).same W8, (BV7.2.2.2.1).other W8 (Or.inr (slot_ne (C := "com/example/brisk_rules/briskrules/GroundRule$Builder") (Or.inl (hw _ (List.mem_of_getElem? (i := 34) rfl))) (Or.inr (hw _ (List.mem_of_getElem? (i := 44) rfl))) (by decide) (t := .double) (t' := .boolean) (by decide) (by decide))), (BV7.2.2.2.2.1).other W8 (Or.inr (slot_ne (C := "com/example/brisk_rules/briskrules/GroundRule$Builder") (Or.inl (hw _ (List.mem_of_getElem? (i := 36) rfl))) (Or.inr (hw _ (List.mem_of_getElem? (i := 44) rfl))) (by decide) (t := (.array .int)) (t' := .boolean) (by decide) (by decide))), (BV7.2.2.2.2.2.1).other W8 (Or.inr (slot_ne (C := "com/example/brisk_rules/briskrules/GroundRule$Builder") (Or.inl (hw _ (List.mem_of_getElem? (i := 39) rfl))) (Or.inr (hw _ (List.mem_of_getElem? (i := 44) rfl))) (by decide) (t := (.array .double)) (t' := .boolean) (by decide) (by decide))), (BV7.2.2.2.2.2.2).other W8 (Or.inr (slot_ne (C := "com/example/brisk_rules/briskrules/GroundRule$Builder") (Or.inl (hw _ (List.mem_of_getElem? (i := 51) rfl))) (Or.inr (hw _ (List.mem_of_getElem? (i := 44) rfl))) (by decide) (t := .int) (t' := .boolean) (by decide) (by decide)))⟩
  have s1 : h2.size = h0.size := own_wrsz W2
  have s2 : h2.size < h3.size := own_newlt Ba0 g3
  have s3 : h4.size = h3.size := own_wrsz W4
  have s4 := own_arlt Bc0
  have s5 : h6.size = h5.size := own_wrsz W6
  have s6 : h7.size = h6.size := own_wrsz W7
  have s7 : h8.size = h7.size := own_wrsz W8
  have s8 := own_arlt Ba0
  have KK : Keep h0 h8 [b] := (((((((Keep.refl h0 [b]).wr W2 (Or.inl (by simp))).ext E3).wr W4 (Or.inl (by simp))).ext E5).wr W6 (Or.inl (by simp))).wr W7 (Or.inl (by simp))).wr W8 (Or.inl (by simp))
  exact own_retV X8 hx Bd.returns (BodyLoose.notSynchronized Bd) (Jvm.hb hby d3_61) (by decide) (by decide) ⟨rfl, N8, by rw [e8]; exact KK, aa, ac, by rw [e8]; exact BV8, ⟨_, by rw [e8]; exact own_Ar_oth W8 (by omega) (own_Ar_oth W7 (by omega) (own_Ar_oth W6 (by omega) (own_Ar_ext E5 (own_Ar_oth W4 (by omega) Ba0))))⟩, ⟨_, by rw [e8]; exact own_Ar_oth W8 (by omega) (own_Ar_oth W7 (by omega) (own_Ar_oth W6 (by omega) (Bc0)))⟩, by omega, by omega, by rw [e8]; omega⟩
theorem ef_rm_tinit (m : MethodId) (x0 : Addr) (x1 : Int64) : entryFrame m #[(.ref x0), (.long x1)] 3 = mkF m 0 #[.val (.ref x0), .val (.long x1), .second] [] := by first | (simp [entryFrame, mkF, argsToLocals, Value.category]; done) | rfl
set_option maxRecDepth 65536 in
set_option maxHeartbeats 40000000 in
theorem rm_tinit (l : Launch) (Z : State) (a0 : Array Value) (hw : ∀ d ∈ tables_1, d.before a0 Z = true) (ws : List Jvm.Cond) (t : Nat) (h0 : Heap) (n0 : Nat) (Z0 : n0 ≤ h0.size) (TV : own_TV Z h0 t .null .null .null .null .null .null (.long 0) (.int 0) (.int 0) (.long 0)) (gt : n0 ≤ t) :
    own_Ctr l Z (⟨"com/example/brisk_rules/briskrules/GroundRuleTable", "<init>", "(J)V"⟩ : MethodName) prog_11_method_1_code 3 none ws ({ frames := 1, cells := 6, slots := 128, locals := 12 } : Room) #[(.ref t), (.long (9223372036854775807 : Int64))] h0 (fun v h L => v = none ∧ Fr n0 L ∧ Keep h0 h [t] ∧ ∃ aR aO aS aF aA aC : Nat, own_TV Z h t (.ref aR) (.ref aO) (.ref aS) (.ref aF) (.ref aA) (.ref aC) (.long (9223372036854775807 : Int64)) (.int (Int32.ofNat 0)) (.int (Int32.ofNat 0)) (.long 0) ∧ (own_Ar Z h aR .long 64 (fun _ => .long 0) ∧ own_Ar Z h aO .int 16 (fun _ => .int 0) ∧ own_Ar Z h aS .long 32 (fun _ => .long 0) ∧ own_Ar Z h aF .long 8 (fun _ => .long 0) ∧ own_Ar Z h aA .int 4 (fun _ => .int 0) ∧ own_Ar Z h aC .int 4 (fun _ => .int 0)) ∧ h0.size ≤ aR ∧ aR < aO ∧ aO < aS ∧ aS < aF ∧ aF < aA ∧ aA < aC ∧ aC < h.size) := by
  refine own_enter (plainFor_of_name pn_d1) ?_
  intro p e s m below meth c s₁ Bd hZ hml X0 e0
  have hx := Bd.exec
  have hby := Bd.bytes
  have hown : s.vm.findClass "com/example/brisk_rules/briskrules/GroundRuleTable" = some m.cls := findClass_of_methodNamed Bd.named
  have hnm := (name_of_methodNamed Bd.named Bd.method).1
  have N0 := Fr.nil n0
  refine own_go (t' := s₁.setTop (mkF m 0 #[.val (.ref t), .val (.long (9223372036854775807 : Int64)), .second] [])) (fun _ k_ => castTop (ef_rm_tinit m t (9223372036854775807 : Int64)) k_) ?_
  have htl := own_exlt TV.1
  refine own_go (t' := s₁.setTop (mkF m 1 #[.val (.ref t), .val (.long (9223372036854775807 : Int64)), .second] [(.ref t)])) (fun _ k_ => XS.aloadN X0.here hx rfl (Jvm.hb hby d1_0) rfl rfl k_) ?_
  obtain ⟨T1, X1, e1, st1⟩ := initO X0 hx hZ hown (hw _ (List.mem_of_getElem? (i := 7) rfl)) (hw _ (List.mem_of_getElem? (i := 8) rfl)) (hw _ (List.mem_of_getElem? (i := 9) rfl)) e0 (g := (mkF m 1 #[.val (.ref t), .val (.long (9223372036854775807 : Int64)), .second] [(.ref t)])) rfl (by rw [hml]; rfl) rfl (Jvm.hb hby d1_1) (by decide) (W := 0) (by show 2 * 0 + _ ≤ _; exact Nat.le_of_eq rfl) (by decide)
  refine own_go (t' := T1.setTop (mkF m 4 #[.val (.ref t), .val (.long (9223372036854775807 : Int64)), .second] [])) st1 ?_
  refine own_go (t' := T1.setTop (mkF m 5 #[.val (.ref t), .val (.long (9223372036854775807 : Int64)), .second] [(.ref t)])) (fun _ k_ => XS.aloadN X1.here hx rfl (Jvm.hb hby d1_4) rfl rfl k_) ?_
  refine own_go (t' := T1.setTop (mkF m 7 #[.val (.ref t), .val (.long (9223372036854775807 : Int64)), .second] [(.int (64 : Int32)), (.ref t)])) (fun _ k_ => XS.bipush X1.here hx rfl (Jvm.hb hby d1_5) k_) ?_
  obtain ⟨T2, h2, cA2, X2, e2, E2, Ar2, st2⟩ := newP X1 hx hZ (hw _ (List.mem_of_getElem? (i := 10) rfl)) e1 (g := (mkF m 7 #[.val (.ref t), .val (.long (9223372036854775807 : Int64)), .second] [(.int (64 : Int32)), (.ref t)])) rfl (Jvm.hb hby d1_7) rfl (by decide) (cap := 64) (by decide) (by decide) (by decide) (by decide)
  obtain ⟨aR, g2⟩ : ∃ z, z = h0.size := ⟨_, rfl⟩
  rw [← g2] at Ar2 st2
  refine own_go (t' := T2.setTop (mkF m 9 #[.val (.ref t), .val (.long (9223372036854775807 : Int64)), .second] [(.ref aR), (.ref t)])) st2 ?_
  have A_aR : own_Ar Z h2 aR .long 64 (fun _ => .long 0) := own_Ar_new (n := 64) (by decide) Ar2
  have TVn2 := own_TV_ext TV E2
  have l_aR := own_arlt A_aR
  have z_aR : h0.size < h2.size := own_newlt A_aR g2
  obtain ⟨T3, h3, X3, e3, W3, st3⟩ := putF X2 hx hZ hown (host := "") (Or.inl (hw _ (List.mem_of_getElem? (i := 11) rfl))) Via.refl e2 (TVn2.2.1) TVn2.1 (Or.inl (hw _ (List.mem_of_getElem? (i := 12) rfl))) (hw _ (List.mem_of_getElem? (i := 1) rfl)) (ty := (.array .long)) (by decide) rfl rfl (g := (mkF m 9 #[.val (.ref t), .val (.long (9223372036854775807 : Int64)), .second] [(.ref aR), (.ref t)])) rfl rfl (Jvm.hb hby d1_9)
  refine own_go (t' := T3.setTop (mkF m 12 #[.val (.ref t), .val (.long (9223372036854775807 : Int64)), .second] [])) st3 ?_
  have N3 := Fr.snoc X3 N0 gt
  have TV3 : own_TV Z h3 t (.ref aR) .null .null .null .null .null (.long 0) (.int 0) (.int 0) (.long 0) := ⟨TVn2.1.wr W3, (TVn2.2.1).same W3, (TVn2.2.2.1).other W3 (Or.inr (slot_ne (C := "com/example/brisk_rules/briskrules/GroundRuleTable") (Or.inl (hw _ (List.mem_of_getElem? (i := 15) rfl))) (Or.inl (hw _ (List.mem_of_getElem? (i := 12) rfl))) (by decide) (t := (.array .int)) (t' := (.array .long)) (by decide) (by decide))), (TVn2.2.2.2.1).other W3 (Or.inr (slot_ne (C := "com/example/brisk_rules/briskrules/GroundRuleTable") (Or.inl (hw _ (List.mem_of_getElem? (i := 17) rfl))) (Or.inl (hw _ (List.mem_of_getElem? (i := 12) rfl))) (by decide) (t := (.array .long)) (t' := (.array .long)) (by decide) (by decide))), (TVn2.2.2.2.2.1).other W3 (Or.inr (slot_ne (C := "com/example/brisk_rules/briskrules/GroundRuleTable") (Or.inl (hw _ (List.mem_of_getElem? (i := 19) rfl))) (Or.inl (hw _ (List.mem_of_getElem? (i := 12) rfl))) (by decide) (t := (.array .long)) (t' := (.array .long)) (by decide) (by decide))), (TVn2.2.2.2.2.2.1).other W3 (Or.inr (slot_ne (C := "com/example/brisk_rules/briskrules/GroundRuleTable") (Or.inl (hw _ (List.mem_of_getElem? (i := 21) rfl))) (Or.inl (hw _ (List.mem_of_getElem? (i := 12) rfl))) (by decide) (t := (.array .int)) (t' := (.array .long)) (by decide) (by decide))), (TVn2.2.2.2.2.2.2.1).other W3 (Or.inr (slot_ne (C := "com/example/brisk_rules/briskrules/GroundRuleTable") (Or.inl (hw _ (List.mem_of_getElem? (i := 23) rfl))) (Or.inl (hw _ (List.mem_of_getElem? (i := 12) rfl))) (by decide) (t := (.array .int)) (t' := (.array .long)) (by decide) (by decide))), (TVn2.2.2.2.2.2.2.2.1).other W3 (Or.inr (slot_ne (C := "com/example/brisk_rules/briskrules/GroundRuleTable") (Or.inr (hw _ (List.mem_of_getElem? (i := 25) rfl))) (Or.inl (hw _ (List.mem_of_getElem? (i := 12) rfl))) (by decide) (t := .long) (t' := (.array .long)) (by decide) (by decide))), (TVn2.2.2.2.2.2.2.2.2.1).other W3 (Or.inr (slot_ne (C := "com/example/brisk_rules/briskrules/GroundRuleTable") (Or.inl (hw _ (List.mem_of_getElem? (i := 121) rfl))) (Or.inl (hw _ (List.mem_of_getElem? (i := 12) rfl))) (by decide) (t := .int) (t' := (.array .long)) (by decide) (by decide))), (TVn2.2.2.2.2.2.2.2.2.2.1).other W3 (Or.inr (slot_ne (C := "com/example/brisk_rules/briskrules/GroundRuleTable") (Or.inl (hw _ (List.mem_of_getElem? (i := 123) rfl))) (Or.inl (hw _ (List.mem_of_getElem? (i := 12) rfl))) (by decide) (t := .int) (t' := (.array .long)) (by decide) (by decide))), (TVn2.2.2.2.2.2.2.2.2.2.2).other W3 (Or.inr (slot_ne (C := "com/example/brisk_rules/briskrules/GroundRuleTable") (Or.inl (hw _ (List.mem_of_getElem? (i := 129) rfl))) (Or.inl (hw _ (List.mem_of_getElem? (i := 12) rfl))) (by decide) (t := .long) (t' := (.array .long)) (by decide) (by decide)))⟩
  have y_aR : h3.size = h2.size := own_wrsz W3
  refine own_go (t' := T3.setTop (mkF m 13 #[.val (.ref t), .val (.long (9223372036854775807 : Int64)), .second] [(.ref t)])) (fun _ k_ => XS.aloadN X3.here hx rfl (Jvm.hb hby d1_12) rfl rfl k_) ?_
  refine own_go (t' := T3.setTop (mkF m 15 #[.val (.ref t), .val (.long (9223372036854775807 : Int64)), .second] [(.int (16 : Int32)), (.ref t)])) (fun _ k_ => XS.bipush X3.here hx rfl (Jvm.hb hby d1_13) k_) ?_
  obtain ⟨T4, h4, cA4, X4, e4, E4, Ar4, st4⟩ := newP X3 hx hZ (hw _ (List.mem_of_getElem? (i := 13) rfl)) e3 (g := (mkF m 15 #[.val (.ref t), .val (.long (9223372036854775807 : Int64)), .second] [(.int (16 : Int32)), (.ref t)])) rfl (Jvm.hb hby d1_15) rfl (by decide) (cap := 16) (by decide) (by decide) (by decide) (by decide)
  obtain ⟨aO, g4⟩ : ∃ z, z = h3.size := ⟨_, rfl⟩
  rw [← g4] at Ar4 st4
  refine own_go (t' := T4.setTop (mkF m 17 #[.val (.ref t), .val (.long (9223372036854775807 : Int64)), .second] [(.ref aO), (.ref t)])) st4 ?_
  have A_aO : own_Ar Z h4 aO .int 16 (fun _ => .int 0) := own_Ar_new (n := 16) (by decide) Ar4
  have TVn4 := own_TV_ext TV3 E4
  have l_aO := own_arlt A_aO
  have z_aO : h3.size < h4.size := own_newlt A_aO g4
  obtain ⟨T5, h5, X5, e5, W5, st5⟩ := putF X4 hx hZ hown (host := "") (Or.inl (hw _ (List.mem_of_getElem? (i := 14) rfl))) Via.refl e4 (TVn4.2.2.1) TVn4.1 (Or.inl (hw _ (List.mem_of_getElem? (i := 15) rfl))) (hw _ (List.mem_of_getElem? (i := 1) rfl)) (ty := (.array .int)) (by decide) rfl rfl (g := (mkF m 17 #[.val (.ref t), .val (.long (9223372036854775807 : Int64)), .second] [(.ref aO), (.ref t)])) rfl rfl (Jvm.hb hby d1_17)
  refine own_go (t' := T5.setTop (mkF m 20 #[.val (.ref t), .val (.long (9223372036854775807 : Int64)), .second] [])) st5 ?_
  have N5 := Fr.snoc X5 N3 gt
  have TV5 : own_TV Z h5 t (.ref aR) (.ref aO) .null .null .null .null (.long 0) (.int 0) (.int 0) (.long 0) := ⟨TVn4.1.wr W5, (TVn4.2.1).other W5 (Or.inr (slot_ne (C := "com/example/brisk_rules/briskrules/GroundRuleTable") (Or.inl (hw _ (List.mem_of_getElem? (i := 12) rfl))) (Or.inl (hw _ (List.mem_of_getElem? (i := 15) rfl))) (by decide) (t := (.array .long)) (t' := (.array .int)) (by decide) (by decide))), (TVn4.2.2.1).same W5, (TVn4.2.2.2.1).other W5 (Or.inr (slot_ne (C := "com/example/brisk_rules/briskrules/GroundRuleTable") (Or.inl (hw _ (List.mem_of_getElem? (i := 17) rfl))) (Or.inl (hw _ (List.mem_of_getElem? (i := 15) rfl))) (by decide) (t := (.array .long)) (t' := (.array .int)) (by decide) (by decide))), (TVn4.2.2.2.2.1).other W5 (Or.inr (slot_ne (C := "com/example/brisk_rules/briskrules/GroundRuleTable") (Or.inl (hw _ (List.mem_of_getElem? (i := 19) rfl))) (Or.inl (hw _ (List.mem_of_getElem? (i := 15) rfl))) (by decide) (t := (.array .long)) (t' := (.array .int)) (by decide) (by decide))), (TVn4.2.2.2.2.2.1).other W5 (Or.inr (slot_ne (C := "com/example/brisk_rules/briskrules/GroundRuleTable") (Or.inl (hw _ (List.mem_of_getElem? (i := 21) rfl))) (Or.inl (hw _ (List.mem_of_getElem? (i := 15) rfl))) (by decide) (t := (.array .int)) (t' := (.array .int)) (by decide) (by decide))), (TVn4.2.2.2.2.2.2.1).other W5 (Or.inr (slot_ne (C := "com/example/brisk_rules/briskrules/GroundRuleTable") (Or.inl (hw _ (List.mem_of_getElem? (i := 23) rfl))) (Or.inl (hw _ (List.mem_of_getElem? (i := 15) rfl))) (by decide) (t := (.array .int)) (t' := (.array .int)) (by decide) (by decide))), (TVn4.2.2.2.2.2.2.2.1).other W5 (Or.inr (slot_ne (C := "com/example/brisk_rules/briskrules/GroundRuleTable") (Or.inr (hw _ (List.mem_of_getElem? (i := 25) rfl))) (Or.inl (hw _ (List.mem_of_getElem? (i := 15) rfl))) (by decide) (t := .long) (t' := (.array .int)) (by decide) (by decide))), (TVn4.2.2.2.2.2.2.2.2.1).other W5 (Or.inr (slot_ne (C := "com/example/brisk_rules/briskrules/GroundRuleTable") (Or.inl (hw _ (List.mem_of_getElem? (i := 121) rfl))) (Or.inl (hw _ (List.mem_of_getElem? (i := 15) rfl))) (by decide) (t := .int) (t' := (.array .int)) (by decide) (by decide))), (TVn4.2.2.2.2.2.2.2.2.2.1).other W5 (Or.inr (slot_ne (C := "com/example/brisk_rules/briskrules/GroundRuleTable") (Or.inl (hw _ (List.mem_of_getElem? (i := 123) rfl))) (Or.inl (hw _ (List.mem_of_getElem? (i := 15) rfl))) (by decide) (t := .int) (t' := (.array .int)) (by decide) (by decide))), (TVn4.2.2.2.2.2.2.2.2.2.2).other W5 (Or.inr (slot_ne (C := "com/example/brisk_rules/briskrules/GroundRuleTable") (Or.inl (hw _ (List.mem_of_getElem? (i := 129) rfl))) (Or.inl (hw _ (List.mem_of_getElem? (i := 15) rfl))) (by decide) (t := .long) (t' := (.array .int)) (by decide) (by decide)))⟩
  have y_aO : h5.size = h4.size := own_wrsz W5
  refine own_go (t' := T5.setTop (mkF m 21 #[.val (.ref t), .val (.long (9223372036854775807 : Int64)), .second] [(.ref t)])) (fun _ k_ => XS.aloadN X5.here hx rfl (Jvm.hb hby d1_20) rfl rfl k_) ?_
  refine own_go (t' := T5.setTop (mkF m 23 #[.val (.ref t), .val (.long (9223372036854775807 : Int64)), .second] [(.int (32 : Int32)), (.ref t)])) (fun _ k_ => XS.bipush X5.here hx rfl (Jvm.hb hby d1_21) k_) ?_
  obtain ⟨T6, h6, cA6, X6, e6, E6, Ar6, st6⟩ := newP X5 hx hZ (hw _ (List.mem_of_getElem? (i := 10) rfl)) e5 (g := (mkF m 23 #[.val (.ref t), .val (.long (9223372036854775807 : Int64)), .second] [(.int (32 : Int32)), (.ref t)])) rfl (Jvm.hb hby d1_23) rfl (by decide) (cap := 32) (by decide) (by decide) (by decide) (by decide)
  obtain ⟨aS, g6⟩ : ∃ z, z = h5.size := ⟨_, rfl⟩
  rw [← g6] at Ar6 st6
  refine own_go (t' := T6.setTop (mkF m 25 #[.val (.ref t), .val (.long (9223372036854775807 : Int64)), .second] [(.ref aS), (.ref t)])) st6 ?_
  have A_aS : own_Ar Z h6 aS .long 32 (fun _ => .long 0) := own_Ar_new (n := 32) (by decide) Ar6
  have TVn6 := own_TV_ext TV5 E6
  have l_aS := own_arlt A_aS
  have z_aS : h5.size < h6.size := own_newlt A_aS g6
  obtain ⟨T7, h7, X7, e7, W7, st7⟩ := putF X6 hx hZ hown (host := "") (Or.inl (hw _ (List.mem_of_getElem? (i := 16) rfl))) Via.refl e6 (TVn6.2.2.2.1) TVn6.1 (Or.inl (hw _ (List.mem_of_getElem? (i := 17) rfl))) (hw _ (List.mem_of_getElem? (i := 1) rfl)) (ty := (.array .long)) (by decide) rfl rfl (g := (mkF m 25 #[.val (.ref t), .val (.long (9223372036854775807 : Int64)), .second] [(.ref aS), (.ref t)])) rfl rfl (Jvm.hb hby d1_25)
  refine own_go (t' := T7.setTop (mkF m 28 #[.val (.ref t), .val (.long (9223372036854775807 : Int64)), .second] [])) st7 ?_
  have N7 := Fr.snoc X7 N5 gt
  have TV7 : own_TV Z h7 t (.ref aR) (.ref aO) (.ref aS) .null .null .null (.long 0) (.int 0) (.int 0) (.long 0) := ⟨TVn6.1.wr W7, (TVn6.2.1).other W7 (Or.inr (slot_ne (C := "com/example/brisk_rules/briskrules/GroundRuleTable") (Or.inl (hw _ (List.mem_of_getElem? (i := 12) rfl))) (Or.inl (hw _ (List.mem_of_getElem? (i := 17) rfl))) (by decide) (t := (.array .long)) (t' := (.array .long)) (by decide) (by decide))), (TVn6.2.2.1).other W7 (Or.inr (slot_ne (C := "com/example/brisk_rules/briskrules/GroundRuleTable") (Or.inl (hw _ (List.mem_of_getElem? (i := 15) rfl))) (Or.inl (hw _ (List.mem_of_getElem? (i := 17) rfl))) (by decide) (t := (.array .int)) (t' := (.array .long)) (by decide) (by decide))), (TVn6.2.2.2.1).same W7, (TVn6.2.2.2.2.1).other W7 (Or.inr (slot_ne (C := "com/example/brisk_rules/briskrules/GroundRuleTable") (Or.inl (hw _ (List.mem_of_getElem? (i := 19) rfl))) (Or.inl (hw _ (List.mem_of_getElem? (i := 17) rfl))) (by decide) (t := (.array .long)) (t' := (.array .long)) (by decide) (by decide))), (TVn6.2.2.2.2.2.1).other W7 (Or.inr (slot_ne (C := "com/example/brisk_rules/briskrules/GroundRuleTable") (Or.inl (hw _ (List.mem_of_getElem? (i := 21) rfl))) (Or.inl (hw _ (List.mem_of_getElem? (i := 17) rfl))) (by decide) (t := (.array .int)) (t' := (.array .long)) (by decide) (by decide))), (TVn6.2.2.2.2.2.2.1).other W7 (Or.inr (slot_ne (C := "com/example/brisk_rules/briskrules/GroundRuleTable") (Or.inl (hw _ (List.mem_of_getElem? (i := 23) rfl))) (Or.inl (hw _ (List.mem_of_getElem? (i := 17) rfl))) (by decide) (t := (.array .int)) (t' := (.array .long)) (by decide) (by decide))), (TVn6.2.2.2.2.2.2.2.1).other W7 (Or.inr (slot_ne (C := "com/example/brisk_rules/briskrules/GroundRuleTable") (Or.inr (hw _ (List.mem_of_getElem? (i := 25) rfl))) (Or.inl (hw _ (List.mem_of_getElem? (i := 17) rfl))) (by decide) (t := .long) (t' := (.array .long)) (by decide) (by decide))), (TVn6.2.2.2.2.2.2.2.2.1).other W7 (Or.inr (slot_ne (C := "com/example/brisk_rules/briskrules/GroundRuleTable") (Or.inl (hw _ (List.mem_of_getElem? (i := 121) rfl))) (Or.inl (hw _ (List.mem_of_getElem? (i := 17) rfl))) (by decide) (t := .int) (t' := (.array .long)) (by decide) (by decide))), (TVn6.2.2.2.2.2.2.2.2.2.1).other W7 (Or.inr (slot_ne (C := "com/example/brisk_rules/briskrules/GroundRuleTable") (Or.inl (hw _ (List.mem_of_getElem? (i := 123) rfl))) (Or.inl (hw _ (List.mem_of_getElem? (i := 17) rfl))) (by decide) (t := .int) (t' := (.array .long)) (by decide) (by decide))), (TVn6.2.2.2.2.2.2.2.2.2.2).other W7 (Or.inr (slot_ne (C := "com/example/brisk_rules/briskrules/GroundRuleTable") (Or.inl (hw _ (List.mem_of_getElem? (i := 129) rfl))) (Or.inl (hw _ (List.mem_of_getElem? (i := 17) rfl))) (by decide) (t := .long) (t' := (.array .long)) (by decide) (by decide)))⟩
  have y_aS : h7.size = h6.size := own_wrsz W7
  refine own_go (t' := T7.setTop (mkF m 29 #[.val (.ref t), .val (.long (9223372036854775807 : Int64)), .second] [(.ref t)])) (fun _ k_ => XS.aloadN X7.here hx rfl (Jvm.hb hby d1_28) rfl rfl k_) ?_
  refine own_go (t' := T7.setTop (mkF m 31 #[.val (.ref t), .val (.long (9223372036854775807 : Int64)), .second] [(.int (8 : Int32)), (.ref t)])) (fun _ k_ => XS.bipush X7.here hx rfl (Jvm.hb hby d1_29) k_) ?_
  obtain ⟨T8, h8, cA8, X8, e8, E8, Ar8, st8⟩ := newP X7 hx hZ (hw _ (List.mem_of_getElem? (i := 10) rfl)) e7 (g := (mkF m 31 #[.val (.ref t), .val (.long (9223372036854775807 : Int64)), .second] [(.int (8 : Int32)), (.ref t)])) rfl (Jvm.hb hby d1_31) rfl (by decide) (cap := 8) (by decide) (by decide) (by decide) (by decide)
  obtain ⟨aF, g8⟩ : ∃ z, z = h7.size := ⟨_, rfl⟩
  rw [← g8] at Ar8 st8
  refine own_go (t' := T8.setTop (mkF m 33 #[.val (.ref t), .val (.long (9223372036854775807 : Int64)), .second] [(.ref aF), (.ref t)])) st8 ?_
  have A_aF : own_Ar Z h8 aF .long 8 (fun _ => .long 0) := own_Ar_new (n := 8) (by decide) Ar8
  have TVn8 := own_TV_ext TV7 E8
  have l_aF := own_arlt A_aF
  have z_aF : h7.size < h8.size := own_newlt A_aF g8
  obtain ⟨T9, h9, X9, e9, W9, st9⟩ := putF X8 hx hZ hown (host := "") (Or.inl (hw _ (List.mem_of_getElem? (i := 18) rfl))) Via.refl e8 (TVn8.2.2.2.2.1) TVn8.1 (Or.inl (hw _ (List.mem_of_getElem? (i := 19) rfl))) (hw _ (List.mem_of_getElem? (i := 1) rfl)) (ty := (.array .long)) (by decide) rfl rfl (g := (mkF m 33 #[.val (.ref t), .val (.long (9223372036854775807 : Int64)), .second] [(.ref aF), (.ref t)])) rfl rfl (Jvm.hb hby d1_33)
  refine own_go (t' := T9.setTop (mkF m 36 #[.val (.ref t), .val (.long (9223372036854775807 : Int64)), .second] [])) st9 ?_
  have N9 := Fr.snoc X9 N7 gt
  have TV9 : own_TV Z h9 t (.ref aR) (.ref aO) (.ref aS) (.ref aF) .null .null (.long 0) (.int 0) (.int 0) (.long 0) := ⟨TVn8.1.wr W9, (TVn8.2.1).other W9 (Or.inr (slot_ne (C := "com/example/brisk_rules/briskrules/GroundRuleTable") (Or.inl (hw _ (List.mem_of_getElem? (i := 12) rfl))) (Or.inl (hw _ (List.mem_of_getElem? (i := 19) rfl))) (by decide) (t := (.array .long)) (t' := (.array .long)) (by decide) (by decide))), (TVn8.2.2.1).other W9 (Or.inr (slot_ne (C := "com/example/brisk_rules/briskrules/GroundRuleTable") (Or.inl (hw _ (List.mem_of_getElem? (i := 15) rfl))) (Or.inl (hw _ (List.mem_of_getElem? (i := 19) rfl))) (by decide) (t := (.array .int)) (t' := (.array .long)) (by decide) (by decide))), (TVn8.2.2.2.1).other W9 (Or.inr (slot_ne (C := "com/example/brisk_rules/briskrules/GroundRuleTable") (Or.inl (hw _ (List.mem_of_getElem? (i := 17) rfl))) (Or.inl (hw _ (List.mem_of_getElem? (i := 19) rfl))) (by decide) (t := (.array .long)) (t' := (.array .long)) (by decide) (by decide))), (TVn8.2.2.2.2.1).same W9, (TVn8.2.2.2.2.2.1).other W9 (Or.inr (slot_ne (C := "com/example/brisk_rules/briskrules/GroundRuleTable") (Or.inl (hw _ (List.mem_of_getElem? (i := 21) rfl))) (Or.inl (hw _ (List.mem_of_getElem? (i := 19) rfl))) (by decide) (t := (.array .int)) (t' := (.array .long)) (by decide) (by decide))), (TVn8.2.2.2.2.2.2.1).other W9 (Or.inr (slot_ne (C := "com/example/brisk_rules/briskrules/GroundRuleTable") (Or.inl (hw _ (List.mem_of_getElem? (i := 23) rfl))) (Or.inl (hw _ (List.mem_of_getElem? (i := 19) rfl))) (by decide) (t := (.array .int)) (t' := (.array .long)) (by decide) (by decide))), (TVn8.2.2.2.2.2.2.2.1).other W9 (Or.inr (slot_ne (C := "com/example/brisk_rules/briskrules/GroundRuleTable") (Or.inr (hw _ (List.mem_of_getElem? (i := 25) rfl))) (Or.inl (hw _ (List.mem_of_getElem? (i := 19) rfl))) (by decide) (t := .long) (t' := (.array .long)) (by decide) (by decide))), (TVn8.2.2.2.2.2.2.2.2.1).other W9 (Or.inr (slot_ne (C := "com/example/brisk_rules/briskrules/GroundRuleTable") (Or.inl (hw _ (List.mem_of_getElem? (i := 121) rfl))) (Or.inl (hw _ (List.mem_of_getElem? (i := 19) rfl))) (by decide) (t := .int) (t' := (.array .long)) (by decide) (by decide))), (TVn8.2.2.2.2.2.2.2.2.2.1).other W9 (Or.inr (slot_ne (C := "com/example/brisk_rules/briskrules/GroundRuleTable") (Or.inl (hw _ (List.mem_of_getElem? (i := 123) rfl))) (Or.inl (hw _ (List.mem_of_getElem? (i := 19) rfl))) (by decide) (t := .int) (t' := (.array .long)) (by decide) (by decide))), (TVn8.2.2.2.2.2.2.2.2.2.2).other W9 (Or.inr (slot_ne (C := "com/example/brisk_rules/briskrules/GroundRuleTable") (Or.inl (hw _ (List.mem_of_getElem? (i := 129) rfl))) (Or.inl (hw _ (List.mem_of_getElem? (i := 19) rfl))) (by decide) (t := .long) (t' := (.array .long)) (by decide) (by decide)))⟩
  have y_aF : h9.size = h8.size := own_wrsz W9
  refine own_go (t' := T9.setTop (mkF m 37 #[.val (.ref t), .val (.long (9223372036854775807 : Int64)), .second] [(.ref t)])) (fun _ k_ => XS.aloadN X9.here hx rfl (Jvm.hb hby d1_36) rfl rfl k_) ?_
  refine own_go (t' := T9.setTop (mkF m 38 #[.val (.ref t), .val (.long (9223372036854775807 : Int64)), .second] [(.int (4 : Int32)), (.ref t)])) (fun _ k_ => XS.iconst X9.here hx rfl (Jvm.hb hby d1_37) k_) ?_
  obtain ⟨T10, h10, cA10, X10, e10, E10, Ar10, st10⟩ := newP X9 hx hZ (hw _ (List.mem_of_getElem? (i := 13) rfl)) e9 (g := (mkF m 38 #[.val (.ref t), .val (.long (9223372036854775807 : Int64)), .second] [(.int (4 : Int32)), (.ref t)])) rfl (Jvm.hb hby d1_38) rfl (by decide) (cap := 4) (by decide) (by decide) (by decide) (by decide)
  obtain ⟨aA, g10⟩ : ∃ z, z = h9.size := ⟨_, rfl⟩
  rw [← g10] at Ar10 st10
  refine own_go (t' := T10.setTop (mkF m 40 #[.val (.ref t), .val (.long (9223372036854775807 : Int64)), .second] [(.ref aA), (.ref t)])) st10 ?_
  have A_aA : own_Ar Z h10 aA .int 4 (fun _ => .int 0) := own_Ar_new (n := 4) (by decide) Ar10
  have TVn10 := own_TV_ext TV9 E10
  have l_aA := own_arlt A_aA
  have z_aA : h9.size < h10.size := own_newlt A_aA g10
  obtain ⟨T11, h11, X11, e11, W11, st11⟩ := putF X10 hx hZ hown (host := "") (Or.inl (hw _ (List.mem_of_getElem? (i := 20) rfl))) Via.refl e10 (TVn10.2.2.2.2.2.1) TVn10.1 (Or.inl (hw _ (List.mem_of_getElem? (i := 21) rfl))) (hw _ (List.mem_of_getElem? (i := 1) rfl)) (ty := (.array .int)) (by decide) rfl rfl (g := (mkF m 40 #[.val (.ref t), .val (.long (9223372036854775807 : Int64)), .second] [(.ref aA), (.ref t)])) rfl rfl (Jvm.hb hby d1_40)
  refine own_go (t' := T11.setTop (mkF m 43 #[.val (.ref t), .val (.long (9223372036854775807 : Int64)), .second] [])) st11 ?_
  have N11 := Fr.snoc X11 N9 gt
  have TV11 : own_TV Z h11 t (.ref aR) (.ref aO) (.ref aS) (.ref aF) (.ref aA) .null (.long 0) (.int 0) (.int 0) (.long 0) := ⟨TVn10.1.wr W11, (TVn10.2.1).other W11 (Or.inr (slot_ne (C := "com/example/brisk_rules/briskrules/GroundRuleTable") (Or.inl (hw _ (List.mem_of_getElem? (i := 12) rfl))) (Or.inl (hw _ (List.mem_of_getElem? (i := 21) rfl))) (by decide) (t := (.array .long)) (t' := (.array .int)) (by decide) (by decide))), (TVn10.2.2.1).other W11 (Or.inr (slot_ne (C := "com/example/brisk_rules/briskrules/GroundRuleTable") (Or.inl (hw _ (List.mem_of_getElem? (i := 15) rfl))) (Or.inl (hw _ (List.mem_of_getElem? (i := 21) rfl))) (by decide) (t := (.array .int)) (t' := (.array .int)) (by decide) (by decide))), (TVn10.2.2.2.1).other W11 (Or.inr (slot_ne (C := "com/example/brisk_rules/briskrules/GroundRuleTable") (Or.inl (hw _ (List.mem_of_getElem? (i := 17) rfl))) (Or.inl (hw _ (List.mem_of_getElem? (i := 21) rfl))) (by decide) (t := (.array .long)) (t' := (.array .int)) (by decide) (by decide))), (TVn10.2.2.2.2.1).other W11 (Or.inr (slot_ne (C := "com/example/brisk_rules/briskrules/GroundRuleTable") (Or.inl (hw _ (List.mem_of_getElem? (i := 19) rfl))) (Or.inl (hw _ (List.mem_of_getElem? (i := 21) rfl))) (by decide) (t := (.array .long)) (t' := (.array .int)) (by decide) (by decide))), (TVn10.2.2.2.2.2.1).same W11, (TVn10.2.2.2.2.2.2.1).other W11 (Or.inr (slot_ne (C := "com/example/brisk_rules/briskrules/GroundRuleTable") (Or.inl (hw _ (List.mem_of_getElem? (i := 23) rfl))) (Or.inl (hw _ (List.mem_of_getElem? (i := 21) rfl))) (by decide) (t := (.array .int)) (t' := (.array .int)) (by decide) (by decide))), (TVn10.2.2.2.2.2.2.2.1).other W11 (Or.inr (slot_ne (C := "com/example/brisk_rules/briskrules/GroundRuleTable") (Or.inr (hw _ (List.mem_of_getElem? (i := 25) rfl))) (Or.inl (hw _ (List.mem_of_getElem? (i := 21) rfl))) (by decide) (t := .long) (t' := (.array .int)) (by decide) (by decide))), (TVn10.2.2.2.2.2.2.2.2.1).other W11 (Or.inr (slot_ne (C := "com/example/brisk_rules/briskrules/GroundRuleTable") (Or.inl (hw _ (List.mem_of_getElem? (i := 121) rfl))) (Or.inl (hw _ (List.mem_of_getElem? (i := 21) rfl))) (by decide) (t := .int) (t' := (.array .int)) (by decide) (by decide))), (TVn10.2.2.2.2.2.2.2.2.2.1).other W11 (Or.inr (slot_ne (C := "com/example/brisk_rules/briskrules/GroundRuleTable") (Or.inl (hw _ (List.mem_of_getElem? (i := 123) rfl))) (Or.inl (hw _ (List.mem_of_getElem? (i := 21) rfl))) (by decide) (t := .int) (t' := (.array .int)) (by decide) (by decide))), (TVn10.2.2.2.2.2.2.2.2.2.2).other W11 (Or.inr (slot_ne (C := "com/example/brisk_rules/briskrules/GroundRuleTable") (Or.inl (hw _ (List.mem_of_getElem? (i := 129) rfl))) (Or.inl (hw _ (List.mem_of_getElem? (i := 21) rfl))) (by decide) (t := .long) (t' := (.array .int)) (by decide) (by decide)))⟩
  have y_aA : h11.size = h10.size := own_wrsz W11
  refine own_go (t' := T11.setTop (mkF m 44 #[.val (.ref t), .val (.long (9223372036854775807 : Int64)), .second] [(.ref t)])) (fun _ k_ => XS.aloadN X11.here hx rfl (Jvm.hb hby d1_43) rfl rfl k_) ?_
  refine own_go (t' := T11.setTop (mkF m 45 #[.val (.ref t), .val (.long (9223372036854775807 : Int64)), .second] [(.int (4 : Int32)), (.ref t)])) (fun _ k_ => XS.iconst X11.here hx rfl (Jvm.hb hby d1_44) k_) ?_
  obtain ⟨T12, h12, cA12, X12, e12, E12, Ar12, st12⟩ := newP X11 hx hZ (hw _ (List.mem_of_getElem? (i := 13) rfl)) e11 (g := (mkF m 45 #[.val (.ref t), .val (.long (9223372036854775807 : Int64)), .second] [(.int (4 : Int32)), (.ref t)])) rfl (Jvm.hb hby d1_45) rfl (by decide) (cap := 4) (by decide) (by decide) (by decide) (by decide)
  obtain ⟨aC, g12⟩ : ∃ z, z = h11.size := ⟨_, rfl⟩
  rw [← g12] at Ar12 st12
  refine own_go (t' := T12.setTop (mkF m 47 #[.val (.ref t), .val (.long (9223372036854775807 : Int64)), .second] [(.ref aC), (.ref t)])) st12 ?_
  have A_aC : own_Ar Z h12 aC .int 4 (fun _ => .int 0) := own_Ar_new (n := 4) (by decide) Ar12
  have TVn12 := own_TV_ext TV11 E12
  have l_aC := own_arlt A_aC
  have z_aC : h11.size < h12.size := own_newlt A_aC g12
  obtain ⟨T13, h13, X13, e13, W13, st13⟩ := putF X12 hx hZ hown (host := "") (Or.inl (hw _ (List.mem_of_getElem? (i := 22) rfl))) Via.refl e12 (TVn12.2.2.2.2.2.2.1) TVn12.1 (Or.inl (hw _ (List.mem_of_getElem? (i := 23) rfl))) (hw _ (List.mem_of_getElem? (i := 1) rfl)) (ty := (.array .int)) (by decide) rfl rfl (g := (mkF m 47 #[.val (.ref t), .val (.long (9223372036854775807 : Int64)), .second] [(.ref aC), (.ref t)])) rfl rfl (Jvm.hb hby d1_47)
  refine own_go (t' := T13.setTop (mkF m 50 #[.val (.ref t), .val (.long (9223372036854775807 : Int64)), .second] [])) st13 ?_
  have N13 := Fr.snoc X13 N11 gt
  have TV13 : own_TV Z h13 t (.ref aR) (.ref aO) (.ref aS) (.ref aF) (.ref aA) (.ref aC) (.long 0) (.int 0) (.int 0) (.long 0) := ⟨TVn12.1.wr W13, (TVn12.2.1).other W13 (Or.inr (slot_ne (C := "com/example/brisk_rules/briskrules/GroundRuleTable") (Or.inl (hw _ (List.mem_of_getElem? (i := 12) rfl))) (Or.inl (hw _ (List.mem_of_getElem? (i := 23) rfl))) (by decide) (t := (.array .long)) (t' := (.array .int)) (by decide) (by decide))), (TVn12.2.2.1).other W13 (Or.inr (slot_ne (C := "com/example/brisk_rules/briskrules/GroundRuleTable") (Or.inl (hw _ (List.mem_of_getElem? (i := 15) rfl))) (Or.inl (hw _ (List.mem_of_getElem? (i := 23) rfl))) (by decide) (t := (.array .int)) (t' := (.array .int)) (by decide) (by decide))), (TVn12.2.2.2.1).other W13 (Or.inr (slot_ne (C := "com/example/brisk_rules/briskrules/GroundRuleTable") (Or.inl (hw _ (List.mem_of_getElem? (i := 17) rfl))) (Or.inl (hw _ (List.mem_of_getElem? (i := 23) rfl))) (by decide) (t := (.array .long)) (t' := (.array .int)) (by decide) (by decide))), (TVn12.2.2.2.2.1).other W13 (Or.inr (slot_ne (C := "com/example/brisk_rules/briskrules/GroundRuleTable") (Or.inl (hw _ (List.mem_of_getElem? (i := 19) rfl))) (Or.inl (hw _ (List.mem_of_getElem? (i := 23) rfl))) (by decide) (t := (.array .long)) (t' := (.array .int)) (by decide) (by decide))), (TVn12.2.2.2.2.2.1).other W13 (Or.inr (slot_ne (C := "com/example/brisk_rules/briskrules/GroundRuleTable") (Or.inl (hw _ (List.mem_of_getElem? (i := 21) rfl))) (Or.inl (hw _ (List.mem_of_getElem? (i := 23) rfl))) (by decide) (t := (.array .int)) (t' := (.array .int)) (by decide) (by decide))), (TVn12.2.2.2.2.2.2.1).same W13, (TVn12.2.2.2.2.2.2.2.1).other W13 (Or.inr (slot_ne (C := "com/example/brisk_rules/briskrules/GroundRuleTable") (Or.inr (hw _ (List.mem_of_getElem? (i := 25) rfl))) (Or.inl (hw _ (List.mem_of_getElem? (i := 23) rfl))) (by decide) (t := .long) (t' := (.array .int)) (by decide) (by decide))), (TVn12.2.2.2.2.2.2.2.2.1).other W13 (Or.inr (slot_ne (C := "com/example/brisk_rules/briskrules/GroundRuleTable") (Or.inl (hw _ (List.mem_of_getElem? (i := 121) rfl))) (Or.inl (hw _ (List.mem_of_getElem? (i := 23) rfl))) (by decide) (t := .int) (t' := (.array .int)) (by decide) (by decide))), (TVn12.2.2.2.2.2.2.2.2.2.1).other W13 (Or.inr (slot_ne (C := "com/example/brisk_rules/briskrules/GroundRuleTable") (Or.inl (hw _ (List.mem_of_getElem? (i := 123) rfl))) (Or.inl (hw _ (List.mem_of_getElem? (i := 23) rfl))) (by decide) (t := .int) (t' := (.array .int)) (by decide) (by decide))), (TVn12.2.2.2.2.2.2.2.2.2.2).other W13 (Or.inr (slot_ne (C := "com/example/brisk_rules/briskrules/GroundRuleTable") (Or.inl (hw _ (List.mem_of_getElem? (i := 129) rfl))) (Or.inl (hw _ (List.mem_of_getElem? (i := 23) rfl))) (by decide) (t := .long) (t' := (.array .int)) (by decide) (by decide)))⟩
  have y_aC : h13.size = h12.size := own_wrsz W13
  refine own_go (t' := T13.setTop (mkF m 51 #[.val (.ref t), .val (.long (9223372036854775807 : Int64)), .second] [(.ref t)])) (fun _ k_ => XS.aloadN X13.here hx rfl (Jvm.hb hby d1_50) rfl rfl k_) ?_
  refine own_go (t' := T13.setTop (mkF m 52 #[.val (.ref t), .val (.long (9223372036854775807 : Int64)), .second] [(.long (9223372036854775807 : Int64)), (.ref t)])) (fun _ k_ => XS.lloadN X13.here hx rfl (Jvm.hb hby d1_51) rfl k_) ?_
  obtain ⟨T14, h14, X14, e14, W14, st14⟩ := putF X13 hx hZ hown (host := "") (Or.inl (hw _ (List.mem_of_getElem? (i := 24) rfl))) Via.refl e13 (TV13.2.2.2.2.2.2.2.1) TV13.1 (Or.inr ⟨(hw _ (List.mem_of_getElem? (i := 25) rfl)), rfl, hnm⟩) (hw _ (List.mem_of_getElem? (i := 1) rfl)) (ty := .long) (by decide) rfl rfl (g := (mkF m 52 #[.val (.ref t), .val (.long (9223372036854775807 : Int64)), .second] [(.long (9223372036854775807 : Int64)), (.ref t)])) rfl rfl (Jvm.hb hby d1_52)
  refine own_go (t' := T14.setTop (mkF m 55 #[.val (.ref t), .val (.long (9223372036854775807 : Int64)), .second] [])) st14 ?_
  have N14 := Fr.snoc X14 N13 gt
  have TVf : own_TV Z h14 t (.ref aR) (.ref aO) (.ref aS) (.ref aF) (.ref aA) (.ref aC) (.long (9223372036854775807 : Int64)) (.int 0) (.int 0) (.long 0) := ⟨TV13.1.wr W14, (TV13.2.1).other W14 (Or.inr (slot_ne (C := "com/example/brisk_rules/briskrules/GroundRuleTable") (Or.inl (hw _ (List.mem_of_getElem? (i := 12) rfl))) (Or.inr (hw _ (List.mem_of_getElem? (i := 25) rfl))) (by decide) (t := (.array .long)) (t' := .long) (by decide) (by decide))), (TV13.2.2.1).other W14 (Or.inr (slot_ne (C := "com/example/brisk_rules/briskrules/GroundRuleTable") (Or.inl (hw _ (List.mem_of_getElem? (i := 15) rfl))) (Or.inr (hw _ (List.mem_of_getElem? (i := 25) rfl))) (by decide) (t := (.array .int)) (t' := .long) (by decide) (by decide))), (TV13.2.2.2.1).other W14 (Or.inr (slot_ne (C := "com/example/brisk_rules/briskrules/GroundRuleTable") (Or.inl (hw _ (List.mem_of_getElem? (i := 17) rfl))) (Or.inr (hw _ (List.mem_of_getElem? (i := 25) rfl))) (by decide) (t := (.array .long)) (t' := .long) (by decide) (by decide))), (TV13.2.2.2.2.1).other W14 (Or.inr (slot_ne (C := "com/example/brisk_rules/briskrules/GroundRuleTable") (Or.inl (hw _ (List.mem_of_getElem? (i := 19) rfl))) (Or.inr (hw _ (List.mem_of_getElem? (i := 25) rfl))) (by decide) (t := (.array .long)) (t' := .long) (by decide) (by decide))), (TV13.2.2.2.2.2.1).other W14 (Or.inr (slot_ne (C := "com/example/brisk_rules/briskrules/GroundRuleTable") (Or.inl (hw _ (List.mem_of_getElem? (i := 21) rfl))) (Or.inr (hw _ (List.mem_of_getElem? (i := 25) rfl))) (by decide) (t := (.array .int)) (t' := .long) (by decide) (by decide))), (TV13.2.2.2.2.2.2.1).other W14 (Or.inr (slot_ne (C := "com/example/brisk_rules/briskrules/GroundRuleTable") (Or.inl (hw _ (List.mem_of_getElem? (i := 23) rfl))) (Or.inr (hw _ (List.mem_of_getElem? (i := 25) rfl))) (by decide) (t := (.array .int)) (t' := .long) (by decide) (by decide))), (TV13.2.2.2.2.2.2.2.1).same W14, (TV13.2.2.2.2.2.2.2.2.1).other W14 (Or.inr (slot_ne (C := "com/example/brisk_rules/briskrules/GroundRuleTable") (Or.inl (hw _ (List.mem_of_getElem? (i := 121) rfl))) (Or.inr (hw _ (List.mem_of_getElem? (i := 25) rfl))) (by decide) (t := .int) (t' := .long) (by decide) (by decide))), (TV13.2.2.2.2.2.2.2.2.2.1).other W14 (Or.inr (slot_ne (C := "com/example/brisk_rules/briskrules/GroundRuleTable") (Or.inl (hw _ (List.mem_of_getElem? (i := 123) rfl))) (Or.inr (hw _ (List.mem_of_getElem? (i := 25) rfl))) (by decide) (t := .int) (t' := .long) (by decide) (by decide))), (TV13.2.2.2.2.2.2.2.2.2.2).other W14 (Or.inr (slot_ne (C := "com/example/brisk_rules/briskrules/GroundRuleTable") (Or.inl (hw _ (List.mem_of_getElem? (i := 129) rfl))) (Or.inr (hw _ (List.mem_of_getElem? (i := 25) rfl))) (by decide) (t := .long) (t' := .long) (by decide) (by decide)))⟩
  have y_f : h14.size = h13.size := own_wrsz W14
  have KK : Keep h0 h14 [t] := ((((((((((((((Keep.refl h0 [t]).ext E2).wr W3 (Or.inl (by simp))).ext E4).wr W5 (Or.inl (by simp))).ext E6).wr W7 (Or.inl (by simp))).ext E8).wr W9 (Or.inl (by simp))).ext E10).wr W11 (Or.inl (by simp))).ext E12).wr W13 (Or.inl (by simp))).wr W14 (Or.inl (by simp)))
  have B_aR := own_Ar_oth W14 (by omega) (own_Ar_oth W13 (by omega) (own_Ar_ext E12 (own_Ar_oth W11 (by omega) (own_Ar_ext E10 (own_Ar_oth W9 (by omega) (own_Ar_ext E8 (own_Ar_oth W7 (by omega) (own_Ar_ext E6 (own_Ar_oth W5 (by omega) (own_Ar_ext E4 (own_Ar_oth W3 (by omega) (A_aR))))))))))))
  have B_aO := own_Ar_oth W14 (by omega) (own_Ar_oth W13 (by omega) (own_Ar_ext E12 (own_Ar_oth W11 (by omega) (own_Ar_ext E10 (own_Ar_oth W9 (by omega) (own_Ar_ext E8 (own_Ar_oth W7 (by omega) (own_Ar_ext E6 (own_Ar_oth W5 (by omega) (A_aO))))))))))
  have B_aS := own_Ar_oth W14 (by omega) (own_Ar_oth W13 (by omega) (own_Ar_ext E12 (own_Ar_oth W11 (by omega) (own_Ar_ext E10 (own_Ar_oth W9 (by omega) (own_Ar_ext E8 (own_Ar_oth W7 (by omega) (A_aS))))))))
  have B_aF := own_Ar_oth W14 (by omega) (own_Ar_oth W13 (by omega) (own_Ar_ext E12 (own_Ar_oth W11 (by omega) (own_Ar_ext E10 (own_Ar_oth W9 (by omega) (A_aF))))))
  have B_aA := own_Ar_oth W14 (by omega) (own_Ar_oth W13 (by omega) (own_Ar_ext E12 (own_Ar_oth W11 (by omega) (A_aA))))
  have B_aC := own_Ar_oth W14 (by omega) (own_Ar_oth W13 (by omega) (A_aC))
  exact own_retV X14 hx Bd.returns (BodyLoose.notSynchronized Bd) (Jvm.hb hby d1_55) (by decide) (by decide) ⟨rfl, N14, by rw [e14]; exact KK, aR, aO, aS, aF, aA, aC, by rw [e14]; exact TVf, by rw [e14]; exact ⟨B_aR, B_aO, B_aS, B_aF, B_aA, B_aC⟩, by omega, by omega, by omega, by omega, by omega, by omega, by rw [e14]; omega⟩
theorem ef_rm_tisq (m : MethodId) (x0 : Addr) (x1 : Int32) : entryFrame m #[(.ref x0), (.int x1)] 2 = mkF m 0 #[.val (.ref x0), .val (.int x1)] [] := by first | (simp [entryFrame, mkF, argsToLocals, Value.category]; done) | rfl
set_option maxRecDepth 65536 in
set_option maxHeartbeats 40000000 in
theorem rm_tisq (l : Launch) (Z : State) (a0 : Array Value) (hw : ∀ d ∈ tables_1, d.before a0 Z = true) (ws : List Jvm.Cond) (t aR aO i o : Nat) (fR fO : Nat → Value) (v0 : Int64) (h0 : Heap) (n0 : Nat) (Z0 : n0 ≤ h0.size) (F1 : Fld Z h0 t "com/example/brisk_rules/briskrules/GroundRuleTable" "records" "[J" (.ref aR)) (F2 : Fld Z h0 t "com/example/brisk_rules/briskrules/GroundRuleTable" "offsets" "[I" (.ref aO)) (AR : own_Ar Z h0 aR .long 64 fR) (AO : own_Ar Z h0 aO .int 16 fO) (hi : i < 16) (h1 : fO i = .int (Int32.ofNat o)) (h2 : o + 3 < 64) (h3 : fR (o + 3) = .long v0) :
    own_Ctr l Z (⟨"com/example/brisk_rules/briskrules/GroundRuleTable", "isSquared", "(I)Z"⟩ : MethodName) prog_11_method_11_code 2 (some .boolean) ws ({ frames := 0, cells := 0, slots := 0, locals := 0 } : Room) #[(.ref t), (.int (Int32.ofNat i))] h0 (fun v h L => v = some (.int (if v0 &&& (1 : Int64) = 0 then (0 : Int32) else 1)) ∧ Fr n0 L ∧ h = h0) := by
  refine own_enter (plainFor_of_name pn_d19) ?_
  intro p e s m below meth c s₁ Bd hZ hml X0 e0
  have hx := Bd.exec
  have hby := Bd.bytes
  have hown : s.vm.findClass "com/example/brisk_rules/briskrules/GroundRuleTable" = some m.cls := findClass_of_methodNamed Bd.named
  have hnm := (name_of_methodNamed Bd.named Bd.method).1
  have N0 := Fr.nil n0
  refine own_go (t' := s₁.setTop (mkF m 0 #[.val (.ref t), .val (.int (Int32.ofNat i))] [])) (fun _ k_ => castTop (ef_rm_tisq m t (Int32.ofNat i)) k_) ?_
  refine own_go (t' := s₁.setTop (mkF m 1 #[.val (.ref t), .val (.int (Int32.ofNat i))] [(.ref t)])) (fun _ k_ => XS.aloadN X0.here hx rfl (Jvm.hb hby d19_0) rfl rfl k_) ?_
  obtain ⟨T1, X1, e1, st1⟩ := getF X0 hx hZ hown (host := "") (Or.inl (hw _ (List.mem_of_getElem? (i := 11) rfl))) Via.refl e0 F1 (g := (mkF m 1 #[.val (.ref t), .val (.int (Int32.ofNat i))] [(.ref t)])) rfl rfl (Jvm.hb hby d19_1)
  refine own_go (t' := T1.setTop (mkF m 4 #[.val (.ref t), .val (.int (Int32.ofNat i))] [(.ref aR)])) st1 ?_
  refine own_go (t' := T1.setTop (mkF m 5 #[.val (.ref t), .val (.int (Int32.ofNat i))] [(.ref t), (.ref aR)])) (fun _ k_ => XS.aloadN X1.here hx rfl (Jvm.hb hby d19_4) rfl rfl k_) ?_
  obtain ⟨T2, X2, e2, st2⟩ := getF X1 hx hZ hown (host := "") (Or.inl (hw _ (List.mem_of_getElem? (i := 14) rfl))) Via.refl e1 F2 (g := (mkF m 5 #[.val (.ref t), .val (.int (Int32.ofNat i))] [(.ref t), (.ref aR)])) rfl rfl (Jvm.hb hby d19_5)
  refine own_go (t' := T2.setTop (mkF m 8 #[.val (.ref t), .val (.int (Int32.ofNat i))] [(.ref aO), (.ref aR)])) st2 ?_
  refine own_go (t' := T2.setTop (mkF m 9 #[.val (.ref t), .val (.int (Int32.ofNat i))] [(.int (Int32.ofNat i)), (.ref aO), (.ref aR)])) (fun _ k_ => XS.iloadN X2.here hx rfl (Jvm.hb hby d19_8) rfl k_) ?_
  refine own_go (t' := T2.setTop (mkF m 10 #[.val (.ref t), .val (.int (Int32.ofNat i))] [(.int (Int32.ofNat o)), (.ref aR)])) (own_ldI X2 hx hZ e2 AO (by decide) hi h1 (g := (mkF m 9 #[.val (.ref t), .val (.int (Int32.ofNat i))] [(.int (Int32.ofNat i)), (.ref aO), (.ref aR)])) rfl rfl (Jvm.hb hby d19_9)) ?_
  refine own_go (t' := T2.setTop (mkF m 11 #[.val (.ref t), .val (.int (Int32.ofNat i))] [(.int (3 : Int32)), (.int (Int32.ofNat o)), (.ref aR)])) (fun _ k_ => XS.iconst X2.here hx rfl (Jvm.hb hby d19_10) k_) ?_
  refine own_go (t' := T2.setTop (mkF m 12 #[.val (.ref t), .val (.int (Int32.ofNat i))] [(.int ((Int32.ofNat o) + (3 : Int32))), (.ref aR)])) (fun _ k_ => XS.iadd X2.here hx rfl (Jvm.hb hby d19_11) rfl k_) ?_
  rw [own_add3 o]
  refine own_go (t' := T2.setTop (mkF m 13 #[.val (.ref t), .val (.int (Int32.ofNat i))] [(.long v0)])) (own_ldJ X2 hx hZ e2 AR (by decide) h2 h3 (g := (mkF m 12 #[.val (.ref t), .val (.int (Int32.ofNat i))] [(.int (Int32.ofNat (o + 3))), (.ref aR)])) rfl rfl (Jvm.hb hby d19_12)) ?_
  refine own_go (t' := T2.setTop (mkF m 14 #[.val (.ref t), .val (.int (Int32.ofNat i))] [(.long (1 : Int64)), (.long v0)])) (fun _ k_ => XS.lconst X2.here hx rfl (Jvm.hb hby d19_13) k_) ?_
  refine own_go (t' := T2.setTop (mkF m 15 #[.val (.ref t), .val (.int (Int32.ofNat i))] [(.long (v0 &&& (1 : Int64)))])) (fun _ k_ => XS.land X2.here hx rfl (Jvm.hb hby d19_14) rfl k_) ?_
  refine own_go (t' := T2.setTop (mkF m 16 #[.val (.ref t), .val (.int (Int32.ofNat i))] [(.long (0 : Int64)), (.long (v0 &&& (1 : Int64)))])) (fun _ k_ => XS.lconst X2.here hx rfl (Jvm.hb hby d19_15) k_) ?_
  refine own_go (t' := T2.setTop (mkF m 17 #[.val (.ref t), .val (.int (Int32.ofNat i))] [(.int (lcmpW (v0 &&& (1 : Int64)) (0 : Int64)))])) (fun _ k_ => XS.lcmp X2.here hx rfl (Jvm.hb hby d19_16) rfl k_) ?_
  by_cases hz : v0 &&& (1 : Int64) = 0
  ·
    refine own_go (t' := T2.setTop (mkF m 24 #[.val (.ref t), .val (.int (Int32.ofNat i))] [])) (fun _ k_ => XS.ifYes X2.here hx rfl (pc0 := 17) (pc' := 24) rfl (Jvm.hb hby d19_17) rfl ((if0 _ _).trans (teq ((lw_eq _ _).mpr hz)).1) (by decide) (by decide) k_) ?_
    refine own_go (t' := T2.setTop (mkF m 25 #[.val (.ref t), .val (.int (Int32.ofNat i))] [(.int (0 : Int32))])) (fun _ k_ => XS.iconst X2.here hx rfl (Jvm.hb hby d19_24) k_) ?_
    exact own_retZ X2 hx Bd.returns (BodyLoose.notSynchronized Bd) rfl (Jvm.hb hby d19_25) (by decide) (by decide) ⟨by rw [if_pos hz], N0, e2⟩
  ·
    refine own_go (t' := T2.setTop (mkF m 20 #[.val (.ref t), .val (.int (Int32.ofNat i))] [])) (fun _ k_ => XS.ifNo X2.here hx rfl (Jvm.hb hby d19_17) rfl ((if0 _ _).trans (feq (fun q => hz ((lw_eq _ _).mp q))).1) k_) ?_
    refine own_go (t' := T2.setTop (mkF m 21 #[.val (.ref t), .val (.int (Int32.ofNat i))] [(.int (1 : Int32))])) (fun _ k_ => XS.iconst X2.here hx rfl (Jvm.hb hby d19_20) k_) ?_
    refine own_go (t' := T2.setTop (mkF m 25 #[.val (.ref t), .val (.int (Int32.ofNat i))] [(.int (1 : Int32))])) (fun _ k_ => XS.goto X2.here hx rfl (pc0 := 21) (pc' := 25) rfl (Jvm.hb hby d19_21) (by decide) (by decide) k_) ?_
    exact own_retZ X2 hx Bd.returns (BodyLoose.notSynchronized Bd) rfl (Jvm.hb hby d19_25) (by decide) (by decide) ⟨by rw [if_neg hz], N0, e2⟩
theorem ef_rm_law (m : MethodId) (x0 : Int32) (x1 : Int32) : entryFrame m #[(.int x0), (.int x1)] maxLocals = mkF m 0 #[.val (.int x0), .val (.int x1), .unset, .unset, .unset, .unset] [] := by first | (simp [entryFrame, mkF, argsToLocals, Value.category, maxLocals]; done) | rfl
set_option maxRecDepth 65536 in
set_option maxHeartbeats 40000000 in
theorem rm_law (l : Launch) (Z : State) (a0 : Array Value) (hw : ∀ d ∈ tables_1, d.before a0 Z = true) (ws : List Jvm.Cond) (p0 p1 : Int32) (h0 : Heap) (n0 : Nat) (Z0 : n0 ≤ h0.size)  :
    own_Ctr l Z x code maxLocals ret ws room_1 #[(.int p0), (.int p1)] h0 (fun v h L => v = some (.int 1) ∧ Fr n0 L) := by
  refine own_enter (plainFor_of_name pn_at) ?_
  intro p e s m below meth c s₁ Bd hZ hml X0 e0
  have hx := Bd.exec
  have hby := Bd.bytes
  have hown : s.vm.findClass "com/example/brisk_rules/briskrules/GroundRuleTableIsSquaredPinLaw" = some m.cls := findClass_of_methodNamed Bd.named
  have hnm := (name_of_methodNamed Bd.named Bd.method).1
  have N0 := Fr.nil n0
  refine own_go (t' := s₁.setTop (mkF m 0 #[.val (.int p0), .val (.int p1), .unset, .unset, .unset, .unset] [])) (fun _ k_ => castTop (ef_rm_law m p0 p1) k_) ?_
  refine own_go (t' := s₁.setTop (mkF m 1 #[.val (.int p0), .val (.int p1), .unset, .unset, .unset, .unset] [(.int p0)])) (fun _ k_ => XS.iloadN X0.here hx rfl (Jvm.hb hby at_0) rfl k_) ?_
  refine own_go (t' := s₁.setTop (mkF m 2 #[.val (.int p0), .val (.int p1), .unset, .unset, .unset, .unset] [(.int (1 : Int32)), (.int p0)])) (fun _ k_ => XS.iconst X0.here hx rfl (Jvm.hb hby at_1) k_) ?_
  refine own_go (t' := s₁.setTop (mkF m 3 #[.val (.int p0), .val (.int p1), .unset, .unset, .unset, .unset] [(.int (p0 &&& (1 : Int32)))])) (fun _ k_ => XS.iand X0.here hx rfl (Jvm.hb hby at_2) rfl k_) ?_
  by_cases hs0 : (p0 &&& (1 : Int32)) = 0
  ·
    refine own_go (t' := s₁.setTop (mkF m 10 #[.val (.int p0), .val (.int p1), .unset, .unset, .unset, .unset] [])) (fun _ k_ => XS.ifYes X0.here hx rfl (pc0 := 3) (pc' := 10) rfl (Jvm.hb hby at_3) rfl ((if0 _ _).trans (teq hs0).1) (by decide) (by decide) k_) ?_
    refine own_go (t' := s₁.setTop (mkF m 11 #[.val (.int p0), .val (.int p1), .unset, .unset, .unset, .unset] [(.int (0 : Int32))])) (fun _ k_ => XS.iconst X0.here hx rfl (Jvm.hb hby at_10) k_) ?_
    refine own_go (t' := s₁.setTop (mkF m 12 #[.val (.int p0), .val (.int p1), .val (.int (0 : Int32)), .unset, .unset, .unset] [])) (fun _ k_ => XS.istoreN X0.here hx rfl (Jvm.hb hby at_11) rfl (l' := #[.val (.int p0), .val (.int p1), .val (.int (0 : Int32)), .unset, .unset, .unset]) rfl k_) ?_
    obtain ⟨T1, h1, X1, e1, E1, A1, D1, -, st1⟩ := newO X0 hx hZ hown (hw _ (List.mem_of_getElem? (i := 0) rfl)) (hw _ (List.mem_of_getElem? (i := 1) rfl)) (hw _ (List.mem_of_getElem? (i := 2) rfl)) e0 (g := (mkF m 12 #[.val (.int p0), .val (.int p1), .val (.int (0 : Int32)), .unset, .unset, .unset] [])) rfl (Jvm.hb hby at_12) (by decide) (by decide)
    obtain ⟨t, g1⟩ : ∃ z, z = h0.size := ⟨_, rfl⟩
    rw [← g1] at A1 D1 st1
    refine own_go (t' := T1.setTop (mkF m 15 #[.val (.int p0), .val (.int p1), .val (.int (0 : Int32)), .unset, .unset, .unset] [(.ref t)])) st1 ?_
    have TVd : own_TV Z h1 t .null .null .null .null .null .null (.long 0) (.int 0) (.int 0) (.long 0) := ⟨A1, D1 (ty := (.array .long)) (Or.inl (hw _ (List.mem_of_getElem? (i := 12) rfl))) (by decide), D1 (ty := (.array .int)) (Or.inl (hw _ (List.mem_of_getElem? (i := 15) rfl))) (by decide), D1 (ty := (.array .long)) (Or.inl (hw _ (List.mem_of_getElem? (i := 17) rfl))) (by decide), D1 (ty := (.array .long)) (Or.inl (hw _ (List.mem_of_getElem? (i := 19) rfl))) (by decide), D1 (ty := (.array .int)) (Or.inl (hw _ (List.mem_of_getElem? (i := 21) rfl))) (by decide), D1 (ty := (.array .int)) (Or.inl (hw _ (List.mem_of_getElem? (i := 23) rfl))) (by decide), D1 (ty := .long) (Or.inr (hw _ (List.mem_of_getElem? (i := 25) rfl))) (by decide), D1 (ty := .int) (Or.inl (hw _ (List.mem_of_getElem? (i := 121) rfl))) (by decide), D1 (ty := .int) (Or.inl (hw _ (List.mem_of_getElem? (i := 123) rfl))) (by decide), D1 (ty := .long) (Or.inl (hw _ (List.mem_of_getElem? (i := 129) rfl))) (by decide)⟩
    have Zt : n0 ≤ h1.size := Nat.le_trans Z0 E1.1
    have gt : n0 ≤ t := by omega
    refine own_go (t' := T1.setTop (mkF m 16 #[.val (.int p0), .val (.int p1), .val (.int (0 : Int32)), .unset, .unset, .unset] [(.ref t), (.ref t)])) (fun _ k_ => XS.dup X1.here hx rfl (Jvm.hb hby at_15) rfl rfl k_) ?_
    refine own_go (t' := T1.setTop (mkF m 19 #[.val (.int p0), .val (.int p1), .val (.int (0 : Int32)), .unset, .unset, .unset] [(.long (9223372036854775807 : Int64)), (.ref t), (.ref t)])) (fun _ k_ => X1.ldc2J (own := "com/example/brisk_rules/briskrules/GroundRuleTableIsSquaredPinLaw") (index := 11) (v := (9223372036854775807 : Int64)) hx hown (mvT hZ (hw _ (List.mem_of_getElem? (i := 3) rfl))) rfl (Jvm.hb hby at_16) k_) ?_
    obtain ⟨T2, L2, v2, X2, hQ2, st2⟩ := own_special X1 hx hZ (y := (⟨"com/example/brisk_rules/briskrules/GroundRuleTable", "<init>", "(J)V"⟩ : MethodName)) rfl hown (hw _ (List.mem_of_getElem? (i := 4) rfl)) (hw _ (List.mem_of_getElem? (i := 5) rfl)) (hw _ (List.mem_of_getElem? (i := 6) rfl)) (hw _ (List.mem_of_getElem? (i := 2) rfl)) (by decide) (rm_tinit l Z a0 hw [] t h1 n0 Zt TVd gt) e1 (g := (mkF m 19 #[.val (.int p0), .val (.int p1), .val (.int (0 : Int32)), .unset, .unset, .unset] [(.long (9223372036854775807 : Int64)), (.ref t), (.ref t)])) rfl (by rw [hml]; rfl) (argsL := [(.long (9223372036854775807 : Int64))]) (rest := [(.ref t)]) (lenOf pd_d1 rfl) rfl (W := 1) (by show 2 * 0 + _ ≤ _; exact Nat.le_of_eq rfl) (Jvm.hb hby at_19) (by decide) (by decide) (by decide) (by decide)
    obtain ⟨rfl, Nq2, Kt, aR, aO, aS, aF, aA, aC, TVt, ⟨Rt, Ot, St, Ft, At, Ct⟩, o1, o2, o3, o4, o5, o6, o7⟩ := hQ2
    have N2 := Fr.app N0 Nq2
    refine own_go (t' := T2.setTop (mkF m 22 #[.val (.int p0), .val (.int p1), .val (.int (0 : Int32)), .unset, .unset, .unset] [(.ref t)])) st2 ?_
    have Zt2 : n0 ≤ T2.heap.size := Nat.le_trans Zt Kt.1
    have htl := own_exlt TVd.1
    refine own_go (t' := T2.setTop (mkF m 23 #[.val (.int p0), .val (.int p1), .val (.int (0 : Int32)), .val (.ref t), .unset, .unset] [])) (fun _ k_ => XS.astoreN X2.here hx rfl (Jvm.hb hby at_22) rfl rfl (l' := #[.val (.int p0), .val (.int p1), .val (.int (0 : Int32)), .val (.ref t), .unset, .unset]) rfl k_) ?_
    obtain ⟨T3, h3, X3, e3, E3, A3, D3, -, st3⟩ := newO X2 hx hZ hown (hw _ (List.mem_of_getElem? (i := 26) rfl)) (hw _ (List.mem_of_getElem? (i := 27) rfl)) (hw _ (List.mem_of_getElem? (i := 28) rfl)) (rfl : T2.heap = T2.heap) (g := (mkF m 23 #[.val (.int p0), .val (.int p1), .val (.int (0 : Int32)), .val (.ref t), .unset, .unset] [])) rfl (Jvm.hb hby at_23) (by decide) (by decide)
    obtain ⟨bp, g3⟩ : ∃ z, z = T2.heap.size := ⟨_, rfl⟩
    rw [← g3] at A3 D3 st3
    refine own_go (t' := T3.setTop (mkF m 26 #[.val (.int p0), .val (.int p1), .val (.int (0 : Int32)), .val (.ref t), .unset, .unset] [(.ref bp)])) st3 ?_
    have TVep := own_TV_ext TVt E3
    have aR_ep := own_Ar_ext E3 Rt
    have aO_ep := own_Ar_ext E3 Ot
    have aS_ep := own_Ar_ext E3 St
    have aF_ep := own_Ar_ext E3 Ft
    have aA_ep := own_Ar_ext E3 At
    have aC_ep := own_Ar_ext E3 Ct
    have BVdp : own_BV Z h3 bp (.double 0) (.int 0) (.double 0) .null .null (.int 0) := ⟨A3, D3 (ty := .double) (Or.inr (hw _ (List.mem_of_getElem? (i := 42) rfl))) (by decide), D3 (ty := .boolean) (Or.inr (hw _ (List.mem_of_getElem? (i := 44) rfl))) (by decide), D3 (ty := .double) (Or.inl (hw _ (List.mem_of_getElem? (i := 34) rfl))) (by decide), D3 (ty := (.array .int)) (Or.inl (hw _ (List.mem_of_getElem? (i := 36) rfl))) (by decide), D3 (ty := (.array .double)) (Or.inl (hw _ (List.mem_of_getElem? (i := 39) rfl))) (by decide), D3 (ty := .int) (Or.inl (hw _ (List.mem_of_getElem? (i := 51) rfl))) (by decide)⟩
    have Zbp : n0 ≤ h3.size := Nat.le_trans Zt2 E3.1
    have hlbp := own_exlt BVdp.1
    have gbp : n0 ≤ bp := by omega
    refine own_go (t' := T3.setTop (mkF m 27 #[.val (.int p0), .val (.int p1), .val (.int (0 : Int32)), .val (.ref t), .unset, .unset] [(.ref bp), (.ref bp)])) (fun _ k_ => XS.dup X3.here hx rfl (Jvm.hb hby at_26) rfl rfl k_) ?_
    refine own_go (t' := T3.setTop (mkF m 28 #[.val (.int p0), .val (.int p1), .val (.int (0 : Int32)), .val (.ref t), .unset, .unset] [(.double (4607182418800017408 : UInt64)), (.ref bp), (.ref bp)])) (fun _ k_ => XS.dconst1 X3.here hx rfl (Jvm.hb hby at_27) rfl k_) ?_
    refine own_go (t' := T3.setTop (mkF m 29 #[.val (.int p0), .val (.int p1), .val (.int (0 : Int32)), .val (.ref t), .unset, .unset] [(.int (0 : Int32)), (.double (4607182418800017408 : UInt64)), (.ref bp), (.ref bp)])) (fun _ k_ => XS.iloadN X3.here hx rfl (Jvm.hb hby at_28) rfl k_) ?_
    obtain ⟨T4, L4, v4, X4, hQ4, st4⟩ := own_special X3 hx hZ (y := (⟨"com/example/brisk_rules/briskrules/GroundRule$Builder", "<init>", "(DZ)V"⟩ : MethodName)) rfl hown (hw _ (List.mem_of_getElem? (i := 29) rfl)) (hw _ (List.mem_of_getElem? (i := 30) rfl)) (hw _ (List.mem_of_getElem? (i := 31) rfl)) (hw _ (List.mem_of_getElem? (i := 28) rfl)) (by decide) (rm_binit l Z a0 hw [] bp (0 : Int32) h3 n0 Zbp BVdp (by decide) gbp) e3 (g := (mkF m 29 #[.val (.int p0), .val (.int p1), .val (.int (0 : Int32)), .val (.ref t), .unset, .unset] [(.int (0 : Int32)), (.double (4607182418800017408 : UInt64)), (.ref bp), (.ref bp)])) rfl (by rw [hml]; rfl) (argsL := [(.double (4607182418800017408 : UInt64)), (.int (0 : Int32))]) (rest := [(.ref bp)]) (lenOf pd_d3 rfl) rfl (W := 1) (by show 2 * 0 + _ ≤ _; exact Nat.le_of_eq rfl) (Jvm.hb hby at_29) (by decide) (by decide) (by decide) (by decide)
    obtain ⟨rfl, Nq4, Kbp, aap, acp, BVp, ⟨gap, Bap⟩, ⟨gcp, Bcp⟩, r1p, r2p, r3p⟩ := hQ4
    have N4 := Fr.app N2 Nq4
    refine own_go (t' := T4.setTop (mkF m 32 #[.val (.int p0), .val (.int p1), .val (.int (0 : Int32)), .val (.ref t), .unset, .unset] [(.ref bp)])) st4 ?_
    have Zbp2 : n0 ≤ T4.heap.size := Nat.le_trans Zbp Kbp.1
    have TVkp := own_TV_keep TVep Kbp (own_nin1 (by omega))
    have aR_kp := own_Ar_keep Kbp (own_nin1 (by omega)) aR_ep
    have aO_kp := own_Ar_keep Kbp (own_nin1 (by omega)) aO_ep
    have aS_kp := own_Ar_keep Kbp (own_nin1 (by omega)) aS_ep
    have aF_kp := own_Ar_keep Kbp (own_nin1 (by omega)) aF_ep
    have aA_kp := own_Ar_keep Kbp (own_nin1 (by omega)) aA_ep
    have aC_kp := own_Ar_keep Kbp (own_nin1 (by omega)) aC_ep
    refine own_go (t' := T4.setTop (mkF m 34 #[.val (.int p0), .val (.int p1), .val (.int (0 : Int32)), .val (.ref t), .val (.ref bp), .unset] [])) (fun _ k_ => XS.astore X4.here hx rfl (Jvm.hb hby at_32) rfl rfl (l' := #[.val (.int p0), .val (.int p1), .val (.int (0 : Int32)), .val (.ref t), .val (.ref bp), .unset]) rfl k_) ?_
    obtain ⟨T5, h5, X5, e5, E5, A5, D5, -, st5⟩ := newO X4 hx hZ hown (hw _ (List.mem_of_getElem? (i := 26) rfl)) (hw _ (List.mem_of_getElem? (i := 27) rfl)) (hw _ (List.mem_of_getElem? (i := 28) rfl)) (rfl : T4.heap = T4.heap) (g := (mkF m 34 #[.val (.int p0), .val (.int p1), .val (.int (0 : Int32)), .val (.ref t), .val (.ref bp), .unset] [])) rfl (Jvm.hb hby at_34) (by decide) (by decide)
    obtain ⟨bq, g5⟩ : ∃ z, z = T4.heap.size := ⟨_, rfl⟩
    rw [← g5] at A5 D5 st5
    refine own_go (t' := T5.setTop (mkF m 37 #[.val (.int p0), .val (.int p1), .val (.int (0 : Int32)), .val (.ref t), .val (.ref bp), .unset] [(.ref bq)])) st5 ?_
    have TVeq := own_TV_ext TVkp E5
    have aR_eq := own_Ar_ext E5 aR_kp
    have aO_eq := own_Ar_ext E5 aO_kp
    have aS_eq := own_Ar_ext E5 aS_kp
    have aF_eq := own_Ar_ext E5 aF_kp
    have aA_eq := own_Ar_ext E5 aA_kp
    have aC_eq := own_Ar_ext E5 aC_kp
    have BVpe := own_BV_ext BVp E5
    have Bape := own_Ar_ext E5 Bap
    have Bcpe := own_Ar_ext E5 Bcp
    have BVdq : own_BV Z h5 bq (.double 0) (.int 0) (.double 0) .null .null (.int 0) := ⟨A5, D5 (ty := .double) (Or.inr (hw _ (List.mem_of_getElem? (i := 42) rfl))) (by decide), D5 (ty := .boolean) (Or.inr (hw _ (List.mem_of_getElem? (i := 44) rfl))) (by decide), D5 (ty := .double) (Or.inl (hw _ (List.mem_of_getElem? (i := 34) rfl))) (by decide), D5 (ty := (.array .int)) (Or.inl (hw _ (List.mem_of_getElem? (i := 36) rfl))) (by decide), D5 (ty := (.array .double)) (Or.inl (hw _ (List.mem_of_getElem? (i := 39) rfl))) (by decide), D5 (ty := .int) (Or.inl (hw _ (List.mem_of_getElem? (i := 51) rfl))) (by decide)⟩
    have Zbq : n0 ≤ h5.size := Nat.le_trans Zbp2 E5.1
    have hlbq := own_exlt BVdq.1
    have gbq : n0 ≤ bq := by omega
    refine own_go (t' := T5.setTop (mkF m 38 #[.val (.int p0), .val (.int p1), .val (.int (0 : Int32)), .val (.ref t), .val (.ref bp), .unset] [(.ref bq), (.ref bq)])) (fun _ k_ => XS.dup X5.here hx rfl (Jvm.hb hby at_37) rfl rfl k_) ?_
    refine own_go (t' := T5.setTop (mkF m 39 #[.val (.int p0), .val (.int p1), .val (.int (0 : Int32)), .val (.ref t), .val (.ref bp), .unset] [(.double (4607182418800017408 : UInt64)), (.ref bq), (.ref bq)])) (fun _ k_ => XS.dconst1 X5.here hx rfl (Jvm.hb hby at_38) rfl k_) ?_
    refine own_go (t' := T5.setTop (mkF m 40 #[.val (.int p0), .val (.int p1), .val (.int (0 : Int32)), .val (.ref t), .val (.ref bp), .unset] [(.int (0 : Int32)), (.double (4607182418800017408 : UInt64)), (.ref bq), (.ref bq)])) (fun _ k_ => XS.iloadN X5.here hx rfl (Jvm.hb hby at_39) rfl k_) ?_
    refine own_go (t' := T5.setTop (mkF m 43 #[.val (.int p0), .val (.int p1), .val (.int (0 : Int32)), .val (.ref t), .val (.ref bp), .unset] [(.double (4607182418800017408 : UInt64)), (.ref bq), (.ref bq)])) (fun _ k_ => XS.ifNo X5.here hx rfl (Jvm.hb hby at_40) rfl ((if0 _ _).trans (teq (by decide)).2) k_) ?_
    refine own_go (t' := T5.setTop (mkF m 44 #[.val (.int p0), .val (.int p1), .val (.int (0 : Int32)), .val (.ref t), .val (.ref bp), .unset] [(.int (1 : Int32)), (.double (4607182418800017408 : UInt64)), (.ref bq), (.ref bq)])) (fun _ k_ => XS.iconst X5.here hx rfl (Jvm.hb hby at_43) k_) ?_
    refine own_go (t' := T5.setTop (mkF m 48 #[.val (.int p0), .val (.int p1), .val (.int (0 : Int32)), .val (.ref t), .val (.ref bp), .unset] [(.int (1 : Int32)), (.double (4607182418800017408 : UInt64)), (.ref bq), (.ref bq)])) (fun _ k_ => XS.goto X5.here hx rfl (pc0 := 44) (pc' := 48) rfl (Jvm.hb hby at_44) (by decide) (by decide) k_) ?_
    obtain ⟨T6, L6, v6, X6, hQ6, st6⟩ := own_special X5 hx hZ (y := (⟨"com/example/brisk_rules/briskrules/GroundRule$Builder", "<init>", "(DZ)V"⟩ : MethodName)) rfl hown (hw _ (List.mem_of_getElem? (i := 29) rfl)) (hw _ (List.mem_of_getElem? (i := 30) rfl)) (hw _ (List.mem_of_getElem? (i := 31) rfl)) (hw _ (List.mem_of_getElem? (i := 28) rfl)) (by decide) (rm_binit l Z a0 hw [] bq (1 : Int32) h5 n0 Zbq BVdq (by decide) gbq) e5 (g := (mkF m 48 #[.val (.int p0), .val (.int p1), .val (.int (0 : Int32)), .val (.ref t), .val (.ref bp), .unset] [(.int (1 : Int32)), (.double (4607182418800017408 : UInt64)), (.ref bq), (.ref bq)])) rfl (by rw [hml]; rfl) (argsL := [(.double (4607182418800017408 : UInt64)), (.int (1 : Int32))]) (rest := [(.ref bq)]) (lenOf pd_d3 rfl) rfl (W := 1) (by show 2 * 0 + _ ≤ _; exact Nat.le_of_eq rfl) (Jvm.hb hby at_48) (by decide) (by decide) (by decide) (by decide)
    obtain ⟨rfl, Nq6, Kbq, aaq, acq, BVq, ⟨gaq, Baq⟩, ⟨gcq, Bcq⟩, r1q, r2q, r3q⟩ := hQ6
    have N6 := Fr.app N4 Nq6
    refine own_go (t' := T6.setTop (mkF m 51 #[.val (.int p0), .val (.int p1), .val (.int (0 : Int32)), .val (.ref t), .val (.ref bp), .unset] [(.ref bq)])) st6 ?_
    have Zbq2 : n0 ≤ T6.heap.size := Nat.le_trans Zbq Kbq.1
    have TVkq := own_TV_keep TVeq Kbq (own_nin1 (by omega))
    have aR_kq := own_Ar_keep Kbq (own_nin1 (by omega)) aR_eq
    have aO_kq := own_Ar_keep Kbq (own_nin1 (by omega)) aO_eq
    have aS_kq := own_Ar_keep Kbq (own_nin1 (by omega)) aS_eq
    have aF_kq := own_Ar_keep Kbq (own_nin1 (by omega)) aF_eq
    have aA_kq := own_Ar_keep Kbq (own_nin1 (by omega)) aA_eq
    have aC_kq := own_Ar_keep Kbq (own_nin1 (by omega)) aC_eq
    have BVpk := own_BV_keep BVpe Kbq (own_nin1 (by omega))
    have Bapk := own_Ar_keep Kbq (own_nin1 (by omega)) Bape
    have Bcpk := own_Ar_keep Kbq (own_nin1 (by omega)) Bcpe
    refine own_go (t' := T6.setTop (mkF m 53 #[.val (.int p0), .val (.int p1), .val (.int (0 : Int32)), .val (.ref t), .val (.ref bp), .val (.ref bq)] [])) (fun _ k_ => XS.astore X6.here hx rfl (Jvm.hb hby at_51) rfl rfl (l' := #[.val (.int p0), .val (.int p1), .val (.int (0 : Int32)), .val (.ref t), .val (.ref bp), .val (.ref bq)]) rfl k_) ?_
    have J97 : ∀ (Tj7 : State) (lj7 : List Loc) (hj7 : Heap) (k i1 i2 i3 : Nat) (at0 : Nat → Int32) (gpa gpc gqa gqc : Nat → Value), Stand p l e room_1 s m #[(.int p0), (.int p1)] below meth c Tj7 lj7 13 168 → Tj7.heap = hj7 → Fr n0 lj7 → (k ≤ 2) → (own_TV Z hj7 t (.ref aR) (.ref aO) (.ref aS) (.ref aF) (.ref aA) (.ref aC) (.long (9223372036854775807 : Int64)) (.int (Int32.ofNat 0)) (.int (Int32.ofNat 0)) (.long 0)) → (own_Ar Z hj7 aR .long 64 (fun _ => .long 0)) → (own_Ar Z hj7 aO .int 16 (fun _ => .int 0)) → (own_Ar Z hj7 aS .long 32 (fun _ => .long 0)) → (own_Ar Z hj7 aF .long 8 (fun _ => .long 0)) → (own_Ar Z hj7 aA .int 4 (fun _ => .int 0)) → (own_Ar Z hj7 aC .int 4 (fun _ => .int 0)) → (own_BV Z hj7 bp (.double (4607182418800017408 : UInt64)) (.int (0 : Int32)) (.double (4607182418800017408 : UInt64)) (.ref aap) (.ref acp) (.int (Int32.ofNat k))) → (own_Ar Z hj7 aap .int 4 gpa) → (own_Ar Z hj7 acp .double 4 gpc) → (own_BV Z hj7 bq (.double (4607182418800017408 : UInt64)) (.int (1 : Int32)) (.double (4607182418800017408 : UInt64)) (.ref aaq) (.ref acq) (.int (Int32.ofNat k))) → (own_Ar Z hj7 aaq .int 4 gqa) → (own_Ar Z hj7 acq .double 4 gqc) → (∀ j, j < k → gpa j = .int (at0 j)) → (∀ j, j < k → gpc j = .double (13830554455654793216 : UInt64)) → (∀ j, j < k → gqa j = .int (at0 j)) → (∀ j, j < k → gqc j = .double (13830554455654793216 : UInt64)) → (∀ j, j < k + 1 → j + 1 < k + 1 → own_ua at0 k 2 j < own_ua at0 k 2 (j + 1)) → (∀ j, j < k + 1 → (own_lit (own_ua at0 k 2 j)).toInt32 = -1) → (own_Fit k at0 (0 : Int32) (1 : Int32) i1 i2 i3) → (n0 ≤ hj7.size) → own_Ends p.tables e below (own_F s (fun v h L => v = some (.int 1) ∧ Fr n0 L) room_1.cells room_1.slots) (Tj7.setTop (mkF m 97 #[.val (.int p0), .val (.int p1), .val (.int (0 : Int32)), .val (.ref t), .val (.ref bp), .val (.ref bq)] [])) := by
      intro Tj7 lj7 hj7 k i1 i2 i3 at0 gpa gpc gqa gqc Xj7 ej7 Nj7 hk2 TV0 aR0 aO0 aS0 aF0 aA0 aC0 BP0 Pa0 Pc0 BQ0 Qa0 Qc0 hpa hpc hqa hqc asc hla hfit Zj
      obtain ⟨⟨hi1, hi2, hi3, h21, h31, h32⟩, hf1, hf2, hf3⟩ := hfit
      have ua : ∀ j, j < k → own_ua at0 k 2 j = at0 j := fun j hj0 => if_neg (by omega)
      have asc1 : ∀ j, j < k → j + 1 < k → at0 j < at0 (j + 1) := fun j h1 h2 => by have := asc j (by omega) (by omega); rw [ua j h1, ua (j + 1) h2] at this; exact this
      have hla1 : ∀ j, j < k → (own_lit (at0 j)).toInt32 = -1 := fun j h1 => by have := hla j (by omega); rw [ua j h1] at this; exact this
      refine own_go (t' := Tj7.setTop (mkF m 98 #[.val (.int p0), .val (.int p1), .val (.int (0 : Int32)), .val (.ref t), .val (.ref bp), .val (.ref bq)] [(.ref t)])) (fun _ k_ => XS.aloadN Xj7.here hx rfl (Jvm.hb hby at_97) rfl rfl k_) ?_
      refine own_go (t' := Tj7.setTop (mkF m 100 #[.val (.int p0), .val (.int p1), .val (.int (0 : Int32)), .val (.ref t), .val (.ref bp), .val (.ref bq)] [(.ref bp), (.ref t)])) (fun _ k_ => XS.aload Xj7.here hx rfl (Jvm.hb hby at_98) rfl rfl k_) ?_
      obtain ⟨T8, L8, v8, X8, hQ8, st8⟩ := own_virtual Xj7 hx hZ (y := (⟨"com/example/brisk_rules/briskrules/GroundRuleTable", "add", "(Lcom/example/brisk_rules/briskrules/GroundRule$Builder;)V"⟩ : MethodName)) hown (hw _ (List.mem_of_getElem? (i := 53) rfl)) (hw _ (List.mem_of_getElem? (i := 54) rfl)) (hw _ (List.mem_of_getElem? (i := 56) rfl)) (hw _ (List.mem_of_getElem? (i := 55) rfl)) (hw _ (List.mem_of_getElem? (i := 57) rfl)) (hw _ (List.mem_of_getElem? (i := 2) rfl)) (by decide) TV0.1 (rm_add l Z a0 hw [] t aR aO aS aF aA aC bp aap acp 0 0 k 0 (0 : Int32) _ _ _ gpa gpc at0 _ _ _ i1 hj7 n0 Zj TV0 BP0 aF0 aA0 aC0 Pa0 Pc0 (by omega) gt (by omega) hpa hpc asc1 aR0 aO0 aS0 hla1 (by decide) (by decide) (by omega) hi1 rfl (Or.inl hf1)) ej7 (g := (mkF m 100 #[.val (.int p0), .val (.int p1), .val (.int (0 : Int32)), .val (.ref t), .val (.ref bp), .val (.ref bq)] [(.ref bp), (.ref t)])) rfl (by rw [hml]; rfl) (argsL := [(.ref bp)]) (rest := []) (lenOf pd_d5 rfl) rfl (W := 0) (by show 2 * 0 + _ ≤ _; exact Nat.le_of_eq rfl) (Jvm.hb hby at_100) (by decide) (by decide) (by decide) (by decide)
      obtain ⟨rfl, Nq8, Ka, TVa, fRa, fFa, fAa, fCa, AFa, AAa, ACa, ARa, ra1, ra2, AOa, ASa⟩ := hQ8
      have N8 := Fr.app Nj7 Nq8
      refine own_go (t' := T8.setTop (mkF m 103 #[.val (.int p0), .val (.int p1), .val (.int (0 : Int32)), .val (.ref t), .val (.ref bp), .val (.ref bq)] [])) st8 ?_
      have Za : n0 ≤ T8.heap.size := Nat.le_trans Zj Ka.1
      have BQa := own_BV_keep BQ0 Ka (own_nin7 (by omega))
      have Qaa := own_Ar_keep Ka (own_nin7 (by omega)) Qa0
      have Qca := own_Ar_keep Ka (own_nin7 (by omega)) Qc0
      refine own_go (t' := T8.setTop (mkF m 104 #[.val (.int p0), .val (.int p1), .val (.int (0 : Int32)), .val (.ref t), .val (.ref bp), .val (.ref bq)] [(.ref t)])) (fun _ k_ => XS.aloadN X8.here hx rfl (Jvm.hb hby at_103) rfl rfl k_) ?_
      refine own_go (t' := T8.setTop (mkF m 106 #[.val (.int p0), .val (.int p1), .val (.int (0 : Int32)), .val (.ref t), .val (.ref bp), .val (.ref bq)] [(.ref bq), (.ref t)])) (fun _ k_ => XS.aload X8.here hx rfl (Jvm.hb hby at_104) rfl rfl k_) ?_
      obtain ⟨T9, L9, v9, X9, hQ9, st9⟩ := own_virtual X8 hx hZ (y := (⟨"com/example/brisk_rules/briskrules/GroundRuleTable", "add", "(Lcom/example/brisk_rules/briskrules/GroundRule$Builder;)V"⟩ : MethodName)) hown (hw _ (List.mem_of_getElem? (i := 53) rfl)) (hw _ (List.mem_of_getElem? (i := 54) rfl)) (hw _ (List.mem_of_getElem? (i := 56) rfl)) (hw _ (List.mem_of_getElem? (i := 55) rfl)) (hw _ (List.mem_of_getElem? (i := 57) rfl)) (hw _ (List.mem_of_getElem? (i := 2) rfl)) (by decide) TVa.1 (rm_add l Z a0 hw [] t aR aO aS aF aA aC bq aaq acq 1 (0 + (4 + k)) k _ (1 : Int32) _ _ _ gqa gqc at0 _ _ _ i2 T8.heap n0 Za TVa BQa AFa AAa ACa Qaa Qca (by omega) gt (by omega) hqa hqc asc1 ARa AOa ASa hla1 (by decide) (by decide) (by omega) hi2 (if_neg h21) (Or.inl hf2)) (rfl : T8.heap = T8.heap) (g := (mkF m 106 #[.val (.int p0), .val (.int p1), .val (.int (0 : Int32)), .val (.ref t), .val (.ref bp), .val (.ref bq)] [(.ref bq), (.ref t)])) rfl (by rw [hml]; rfl) (argsL := [(.ref bq)]) (rest := []) (lenOf pd_d5 rfl) rfl (W := 0) (by show 2 * 0 + _ ≤ _; exact Nat.le_of_eq rfl) (Jvm.hb hby at_106) (by decide) (by decide) (by decide) (by decide)
      obtain ⟨rfl, Nq9, Kb, TVb, fRb, fFb, fAb, fCb, AFb, AAb, ACb, ARb, rb1, rb2, AOb, ASb⟩ := hQ9
      have N9 := Fr.app N8 Nq9
      refine own_go (t' := T9.setTop (mkF m 109 #[.val (.int p0), .val (.int p1), .val (.int (0 : Int32)), .val (.ref t), .val (.ref bp), .val (.ref bq)] [])) st9 ?_
      have Zb : n0 ≤ T9.heap.size := Nat.le_trans Za Kb.1
      have BQb := own_BV_keep BQa Kb (own_nin7 (by omega))
      have Qab := own_Ar_keep Kb (own_nin7 (by omega)) Qaa
      have Qcb := own_Ar_keep Kb (own_nin7 (by omega)) Qca
      refine own_go (t' := T9.setTop (mkF m 111 #[.val (.int p0), .val (.int p1), .val (.int (0 : Int32)), .val (.ref t), .val (.ref bp), .val (.ref bq)] [(.ref bq)])) (fun _ k_ => XS.aload X9.here hx rfl (Jvm.hb hby at_109) rfl rfl k_) ?_
      refine own_go (t' := T9.setTop (mkF m 112 #[.val (.int p0), .val (.int p1), .val (.int (0 : Int32)), .val (.ref t), .val (.ref bp), .val (.ref bq)] [(.int (2 : Int32)), (.ref bq)])) (fun _ k_ => XS.iconst X9.here hx rfl (Jvm.hb hby at_111) k_) ?_
      refine own_go (t' := T9.setTop (mkF m 113 #[.val (.int p0), .val (.int p1), .val (.int (0 : Int32)), .val (.ref t), .val (.ref bp), .val (.ref bq)] [(.int (0 : Int32)), (.int (2 : Int32)), (.ref bq)])) (fun _ k_ => XS.iconst X9.here hx rfl (Jvm.hb hby at_112) k_) ?_
      obtain ⟨T10, L10, v10, X10, hQ10, st10⟩ := own_virtual X9 hx hZ (y := (⟨"com/example/brisk_rules/briskrules/GroundRule$Builder", "head", "(IZ)Lcom/example/brisk_rules/briskrules/GroundRule$Builder;"⟩ : MethodName)) hown (hw _ (List.mem_of_getElem? (i := 45) rfl)) (hw _ (List.mem_of_getElem? (i := 46) rfl)) (hw _ (List.mem_of_getElem? (i := 48) rfl)) (hw _ (List.mem_of_getElem? (i := 47) rfl)) (hw _ (List.mem_of_getElem? (i := 49) rfl)) (hw _ (List.mem_of_getElem? (i := 28) rfl)) (by decide) BQb.1 (rm_head l Z a0 hw [] bq aaq acq k 2 (1 : Int32) gqa gqc T9.heap n0 Zb BQb Qab Qcb (by decide) (by omega) (by omega) gbq) (rfl : T9.heap = T9.heap) (g := (mkF m 113 #[.val (.int p0), .val (.int p1), .val (.int (0 : Int32)), .val (.ref t), .val (.ref bp), .val (.ref bq)] [(.int (0 : Int32)), (.int (2 : Int32)), (.ref bq)])) rfl (by rw [hml]; rfl) (argsL := [(.int (2 : Int32)), (.int (0 : Int32))]) (rest := []) (lenOf pd_d4 rfl) rfl (W := 0) (by show 2 * 0 + _ ≤ _; exact Nat.le_of_eq rfl) (Jvm.hb hby at_113) (by decide) (by decide) (by decide) (by decide)
      obtain ⟨rfl, Nq10, Kc, BQc, Qac, Qcc⟩ := hQ10
      have N10 := Fr.app N9 Nq10
      refine own_go (t' := T10.setTop (mkF m 116 #[.val (.int p0), .val (.int p1), .val (.int (0 : Int32)), .val (.ref t), .val (.ref bp), .val (.ref bq)] [(.ref bq)])) st10 ?_
      refine own_go (t' := T10.setTop (mkF m 117 #[.val (.int p0), .val (.int p1), .val (.int (0 : Int32)), .val (.ref t), .val (.ref bp), .val (.ref bq)] [])) (fun _ k_ => XS.pop X10.here hx rfl (Jvm.hb hby at_116) rfl rfl k_) ?_
      refine own_go (t' := T10.setTop (mkF m 118 #[.val (.int p0), .val (.int p1), .val (.int (0 : Int32)), .val (.ref t), .val (.ref bp), .val (.ref bq)] [(.ref t)])) (fun _ k_ => XS.aloadN X10.here hx rfl (Jvm.hb hby at_117) rfl rfl k_) ?_
      refine own_go (t' := T10.setTop (mkF m 120 #[.val (.int p0), .val (.int p1), .val (.int (0 : Int32)), .val (.ref t), .val (.ref bp), .val (.ref bq)] [(.ref bq), (.ref t)])) (fun _ k_ => XS.aload X10.here hx rfl (Jvm.hb hby at_118) rfl rfl k_) ?_
      have Zc : n0 ≤ T10.heap.size := Nat.le_trans Zb Kc.1
      have TVc := own_TV_keep TVb Kc (own_nin3 (by omega))
      have AFc := own_Ar_keep Kc (own_nin3 (by omega)) AFb
      have AAc := own_Ar_keep Kc (own_nin3 (by omega)) AAb
      have ACc := own_Ar_keep Kc (own_nin3 (by omega)) ACb
      have ARc := own_Ar_keep Kc (own_nin3 (by omega)) ARb
      have AOc := own_Ar_keep Kc (own_nin3 (by omega)) AOb
      have ASc := own_Ar_keep Kc (own_nin3 (by omega)) ASb
      have hs3 : own_hv (k + 1) (own_ua at0 k 2) (1 : Int32) &&& 31 = Int32.ofNat i3 ∨ ∃ (i1' : Nat) (v1 : Int64), i1' < 32 ∧ own_hv (k + 1) (own_ua at0 k 2) (1 : Int32) &&& 31 = Int32.ofNat i1' ∧ own_upd (own_upd (fun _ => .long 0) i1 (.long (own_ent (own_hv k at0 (0 : Int32)) 0))) i2 (.long (own_ent (own_hv k at0 (1 : Int32)) (0 + (4 + k)))) i1' = .long v1 ∧ v1 ≠ 0 ∧ own_hi v1 ≠ own_hv (k + 1) (own_ua at0 k 2) (1 : Int32) ∧ (Int32.ofNat i1' + 1) &&& 31 = Int32.ofNat i3 := by
        rcases hf3 with q | ⟨q1, q2, q3, q4⟩
        · exact Or.inl q
        · exact Or.inr ⟨i2, _, hi2, q1, if_pos rfl, q2, q3, q4⟩
      obtain ⟨T11, L11, v11, X11, hQ11, st11⟩ := own_virtual X10 hx hZ (y := (⟨"com/example/brisk_rules/briskrules/GroundRuleTable", "add", "(Lcom/example/brisk_rules/briskrules/GroundRule$Builder;)V"⟩ : MethodName)) hown (hw _ (List.mem_of_getElem? (i := 53) rfl)) (hw _ (List.mem_of_getElem? (i := 54) rfl)) (hw _ (List.mem_of_getElem? (i := 56) rfl)) (hw _ (List.mem_of_getElem? (i := 55) rfl)) (hw _ (List.mem_of_getElem? (i := 57) rfl)) (hw _ (List.mem_of_getElem? (i := 2) rfl)) (by decide) TVc.1 (rm_add l Z a0 hw [] t aR aO aS aF aA aC bq aaq acq 2 (0 + (4 + k) + (4 + k)) (k + 1) _ (1 : Int32) _ _ _ _ _ (own_ua at0 k 2) _ _ _ i3 T10.heap n0 Zc TVc BQc AFc AAc ACc Qac Qcc (by omega) gt (by omega) (own_upd_at 2 hqa) (own_upd_c hqc) asc ARc AOc ASc hla (by decide) (by decide) (by omega) hi3 ((if_neg h32).trans (if_neg h31)) hs3) (rfl : T10.heap = T10.heap) (g := (mkF m 120 #[.val (.int p0), .val (.int p1), .val (.int (0 : Int32)), .val (.ref t), .val (.ref bp), .val (.ref bq)] [(.ref bq), (.ref t)])) rfl (by rw [hml]; rfl) (argsL := [(.ref bq)]) (rest := []) (lenOf pd_d5 rfl) rfl (W := 0) (by show 2 * 0 + _ ≤ _; exact Nat.le_of_eq rfl) (Jvm.hb hby at_120) (by decide) (by decide) (by decide) (by decide)
      obtain ⟨rfl, Nq11, Kd, TVd3, fRd, fFd, fAd, fCd, AFd, AAd, ACd, ARd, rd1, rd2, AOd, ASd⟩ := hQ11
      have N11 := Fr.app N10 Nq11
      refine own_go (t' := T11.setTop (mkF m 123 #[.val (.int p0), .val (.int p1), .val (.int (0 : Int32)), .val (.ref t), .val (.ref bp), .val (.ref bq)] [])) st11 ?_
      have Zd : n0 ≤ T11.heap.size := Nat.le_trans Zc Kd.1
      refine own_go (t' := T11.setTop (mkF m 124 #[.val (.int p0), .val (.int p1), .val (.int (0 : Int32)), .val (.ref t), .val (.ref bp), .val (.ref bq)] [(.ref t)])) (fun _ k_ => XS.aloadN X11.here hx rfl (Jvm.hb hby at_123) rfl rfl k_) ?_
      obtain ⟨T12, L12, v12, X12, hQ12, st12⟩ := own_virtual X11 hx hZ (y := (⟨"com/example/brisk_rules/briskrules/GroundRuleTable", "size", "()I"⟩ : MethodName)) hown (hw _ (List.mem_of_getElem? (i := 130) rfl)) (hw _ (List.mem_of_getElem? (i := 131) rfl)) (hw _ (List.mem_of_getElem? (i := 133) rfl)) (hw _ (List.mem_of_getElem? (i := 132) rfl)) (hw _ (List.mem_of_getElem? (i := 134) rfl)) (hw _ (List.mem_of_getElem? (i := 2) rfl)) (by decide) TVd3.1 (rm_tsize l Z a0 hw [] t _ T11.heap n0 Zd (TVd3.2.2.2.2.2.2.2.2.1)) (rfl : T11.heap = T11.heap) (g := (mkF m 124 #[.val (.int p0), .val (.int p1), .val (.int (0 : Int32)), .val (.ref t), .val (.ref bp), .val (.ref bq)] [(.ref t)])) rfl (by rw [hml]; rfl) (argsL := []) (rest := []) (lenOf pd_d18 rfl) rfl (W := 0) (by show 2 * 0 + _ ≤ _; exact Nat.le_of_eq rfl) (Jvm.hb hby at_124) (by decide) (by decide) (by decide) (by decide)
      obtain ⟨rfl, Nq12, e12⟩ := hQ12
      have N12 := Fr.app N11 Nq12
      refine own_go (t' := T12.setTop (mkF m 127 #[.val (.int p0), .val (.int p1), .val (.int (0 : Int32)), .val (.ref t), .val (.ref bp), .val (.ref bq)] [(.int (Int32.ofNat 3))])) st12 ?_
      refine own_go (t' := T12.setTop (mkF m 128 #[.val (.int p0), .val (.int p1), .val (.int (0 : Int32)), .val (.ref t), .val (.ref bp), .val (.ref bq)] [(.int (3 : Int32)), (.int (Int32.ofNat 3))])) (fun _ k_ => XS.iconst X12.here hx rfl (Jvm.hb hby at_127) k_) ?_
      refine own_go (t' := T12.setTop (mkF m 131 #[.val (.int p0), .val (.int p1), .val (.int (0 : Int32)), .val (.ref t), .val (.ref bp), .val (.ref bq)] [])) (fun _ k_ => XS.icmpNo X12.here hx rfl (Jvm.hb hby at_128) rfl (teq rfl).2 k_) ?_
      refine own_go (t' := T12.setTop (mkF m 132 #[.val (.int p0), .val (.int p1), .val (.int (0 : Int32)), .val (.ref t), .val (.ref bp), .val (.ref bq)] [(.ref t)])) (fun _ k_ => XS.aloadN X12.here hx rfl (Jvm.hb hby at_131) rfl rfl k_) ?_
      refine own_go (t' := T12.setTop (mkF m 133 #[.val (.int p0), .val (.int p1), .val (.int (0 : Int32)), .val (.ref t), .val (.ref bp), .val (.ref bq)] [(.int (0 : Int32)), (.ref t)])) (fun _ k_ => XS.iconst X12.here hx rfl (Jvm.hb hby at_132) k_) ?_
      obtain ⟨T13, L13, v13, X13, hQ13, st13⟩ := own_virtual X12 hx hZ (y := (⟨"com/example/brisk_rules/briskrules/GroundRuleTable", "isSquared", "(I)Z"⟩ : MethodName)) hown (hw _ (List.mem_of_getElem? (i := 135) rfl)) (hw _ (List.mem_of_getElem? (i := 136) rfl)) (hw _ (List.mem_of_getElem? (i := 138) rfl)) (hw _ (List.mem_of_getElem? (i := 137) rfl)) (hw _ (List.mem_of_getElem? (i := 139) rfl)) (hw _ (List.mem_of_getElem? (i := 2) rfl)) (by decide) TVd3.1 (rm_tisq l Z a0 hw [] t aR aO 0 0 fRd _ (own_f3 k (0 : Int32)) T11.heap n0 Zd (TVd3.2.1) (TVd3.2.2.1) ARd AOd (by decide) rfl (by omega) ((rd1 3 (by omega)).trans ((rb1 3 (by omega)).trans ra2))) e12 (g := (mkF m 133 #[.val (.int p0), .val (.int p1), .val (.int (0 : Int32)), .val (.ref t), .val (.ref bp), .val (.ref bq)] [(.int (0 : Int32)), (.ref t)])) rfl (by rw [hml]; rfl) (argsL := [(.int (0 : Int32))]) (rest := []) (lenOf pd_d19 rfl) rfl (W := 0) (by show 2 * 0 + _ ≤ _; exact Nat.le_of_eq rfl) (Jvm.hb hby at_133) (by decide) (by decide) (by decide) (by decide)
      obtain ⟨rfl, Nq13, e13⟩ := hQ13
      have N13 := Fr.app N12 Nq13
      refine own_go (t' := T13.setTop (mkF m 136 #[.val (.int p0), .val (.int p1), .val (.int (0 : Int32)), .val (.ref t), .val (.ref bp), .val (.ref bq)] [(.int (if own_f3 k (0 : Int32) &&& (1 : Int64) = 0 then (0 : Int32) else 1))])) st13 ?_
      rw [own_f3_bit (k := k) (by omega) (show (0 : Int32) = 0 ∨ (0 : Int32) = 1 by decide)]
      refine own_go (t' := T13.setTop (mkF m 137 #[.val (.int p0), .val (.int p1), .val (.int (0 : Int32)), .val (.ref t), .val (.ref bp), .val (.ref bq)] [(.int (0 : Int32)), (.int (0 : Int32))])) (fun _ k_ => XS.iloadN X13.here hx rfl (Jvm.hb hby at_136) rfl k_) ?_
      refine own_go (t' := T13.setTop (mkF m 140 #[.val (.int p0), .val (.int p1), .val (.int (0 : Int32)), .val (.ref t), .val (.ref bp), .val (.ref bq)] [])) (fun _ k_ => XS.icmpNo X13.here hx rfl (Jvm.hb hby at_137) rfl (teq rfl).2 k_) ?_
      refine own_go (t' := T13.setTop (mkF m 141 #[.val (.int p0), .val (.int p1), .val (.int (0 : Int32)), .val (.ref t), .val (.ref bp), .val (.ref bq)] [(.ref t)])) (fun _ k_ => XS.aloadN X13.here hx rfl (Jvm.hb hby at_140) rfl rfl k_) ?_
      refine own_go (t' := T13.setTop (mkF m 142 #[.val (.int p0), .val (.int p1), .val (.int (0 : Int32)), .val (.ref t), .val (.ref bp), .val (.ref bq)] [(.int (1 : Int32)), (.ref t)])) (fun _ k_ => XS.iconst X13.here hx rfl (Jvm.hb hby at_141) k_) ?_
      obtain ⟨T14, L14, v14, X14, hQ14, st14⟩ := own_virtual X13 hx hZ (y := (⟨"com/example/brisk_rules/briskrules/GroundRuleTable", "isSquared", "(I)Z"⟩ : MethodName)) hown (hw _ (List.mem_of_getElem? (i := 135) rfl)) (hw _ (List.mem_of_getElem? (i := 136) rfl)) (hw _ (List.mem_of_getElem? (i := 138) rfl)) (hw _ (List.mem_of_getElem? (i := 137) rfl)) (hw _ (List.mem_of_getElem? (i := 139) rfl)) (hw _ (List.mem_of_getElem? (i := 2) rfl)) (by decide) TVd3.1 (rm_tisq l Z a0 hw [] t aR aO 1 (0 + (4 + k)) fRd _ (own_f3 k (1 : Int32)) T11.heap n0 Zd (TVd3.2.1) (TVd3.2.2.1) ARd AOd (by decide) rfl (by omega) ((rd1 ((0 + (4 + k)) + 3) (by omega)).trans rb2)) e13 (g := (mkF m 142 #[.val (.int p0), .val (.int p1), .val (.int (0 : Int32)), .val (.ref t), .val (.ref bp), .val (.ref bq)] [(.int (1 : Int32)), (.ref t)])) rfl (by rw [hml]; rfl) (argsL := [(.int (1 : Int32))]) (rest := []) (lenOf pd_d19 rfl) rfl (W := 0) (by show 2 * 0 + _ ≤ _; exact Nat.le_of_eq rfl) (Jvm.hb hby at_142) (by decide) (by decide) (by decide) (by decide)
      obtain ⟨rfl, Nq14, e14⟩ := hQ14
      have N14 := Fr.app N13 Nq14
      refine own_go (t' := T14.setTop (mkF m 145 #[.val (.int p0), .val (.int p1), .val (.int (0 : Int32)), .val (.ref t), .val (.ref bp), .val (.ref bq)] [(.int (if own_f3 k (1 : Int32) &&& (1 : Int64) = 0 then (0 : Int32) else 1))])) st14 ?_
      rw [own_f3_bit (k := k) (by omega) (show (1 : Int32) = 0 ∨ (1 : Int32) = 1 by decide)]
      refine own_go (t' := T14.setTop (mkF m 146 #[.val (.int p0), .val (.int p1), .val (.int (0 : Int32)), .val (.ref t), .val (.ref bp), .val (.ref bq)] [(.int (0 : Int32)), (.int (1 : Int32))])) (fun _ k_ => XS.iloadN X14.here hx rfl (Jvm.hb hby at_145) rfl k_) ?_
      refine own_go (t' := T14.setTop (mkF m 149 #[.val (.int p0), .val (.int p1), .val (.int (0 : Int32)), .val (.ref t), .val (.ref bp), .val (.ref bq)] [(.int (1 : Int32))])) (fun _ k_ => XS.ifNo X14.here hx rfl (Jvm.hb hby at_146) rfl ((if0 _ _).trans (teq (by decide)).2) k_) ?_
      refine own_go (t' := T14.setTop (mkF m 150 #[.val (.int p0), .val (.int p1), .val (.int (0 : Int32)), .val (.ref t), .val (.ref bp), .val (.ref bq)] [(.int (1 : Int32)), (.int (1 : Int32))])) (fun _ k_ => XS.iconst X14.here hx rfl (Jvm.hb hby at_149) k_) ?_
      refine own_go (t' := T14.setTop (mkF m 154 #[.val (.int p0), .val (.int p1), .val (.int (0 : Int32)), .val (.ref t), .val (.ref bp), .val (.ref bq)] [(.int (1 : Int32)), (.int (1 : Int32))])) (fun _ k_ => XS.goto X14.here hx rfl (pc0 := 150) (pc' := 154) rfl (Jvm.hb hby at_150) (by decide) (by decide) k_) ?_
      refine own_go (t' := T14.setTop (mkF m 157 #[.val (.int p0), .val (.int p1), .val (.int (0 : Int32)), .val (.ref t), .val (.ref bp), .val (.ref bq)] [])) (fun _ k_ => XS.icmpNo X14.here hx rfl (Jvm.hb hby at_154) rfl (teq rfl).2 k_) ?_
      refine own_go (t' := T14.setTop (mkF m 158 #[.val (.int p0), .val (.int p1), .val (.int (0 : Int32)), .val (.ref t), .val (.ref bp), .val (.ref bq)] [(.ref t)])) (fun _ k_ => XS.aloadN X14.here hx rfl (Jvm.hb hby at_157) rfl rfl k_) ?_
      refine own_go (t' := T14.setTop (mkF m 159 #[.val (.int p0), .val (.int p1), .val (.int (0 : Int32)), .val (.ref t), .val (.ref bp), .val (.ref bq)] [(.int (2 : Int32)), (.ref t)])) (fun _ k_ => XS.iconst X14.here hx rfl (Jvm.hb hby at_158) k_) ?_
      obtain ⟨T15, L15, v15, X15, hQ15, st15⟩ := own_virtual X14 hx hZ (y := (⟨"com/example/brisk_rules/briskrules/GroundRuleTable", "isSquared", "(I)Z"⟩ : MethodName)) hown (hw _ (List.mem_of_getElem? (i := 135) rfl)) (hw _ (List.mem_of_getElem? (i := 136) rfl)) (hw _ (List.mem_of_getElem? (i := 138) rfl)) (hw _ (List.mem_of_getElem? (i := 137) rfl)) (hw _ (List.mem_of_getElem? (i := 139) rfl)) (hw _ (List.mem_of_getElem? (i := 2) rfl)) (by decide) TVd3.1 (rm_tisq l Z a0 hw [] t aR aO 2 (0 + (4 + k) + (4 + k)) fRd _ (own_f3 (k + 1) (1 : Int32)) T11.heap n0 Zd (TVd3.2.1) (TVd3.2.2.1) ARd AOd (by decide) rfl (by omega) (rd2)) e14 (g := (mkF m 159 #[.val (.int p0), .val (.int p1), .val (.int (0 : Int32)), .val (.ref t), .val (.ref bp), .val (.ref bq)] [(.int (2 : Int32)), (.ref t)])) rfl (by rw [hml]; rfl) (argsL := [(.int (2 : Int32))]) (rest := []) (lenOf pd_d19 rfl) rfl (W := 0) (by show 2 * 0 + _ ≤ _; exact Nat.le_of_eq rfl) (Jvm.hb hby at_159) (by decide) (by decide) (by decide) (by decide)
      obtain ⟨rfl, Nq15, e15⟩ := hQ15
      have N15 := Fr.app N14 Nq15
      refine own_go (t' := T15.setTop (mkF m 162 #[.val (.int p0), .val (.int p1), .val (.int (0 : Int32)), .val (.ref t), .val (.ref bp), .val (.ref bq)] [(.int (if own_f3 (k + 1) (1 : Int32) &&& (1 : Int64) = 0 then (0 : Int32) else 1))])) st15 ?_
      rw [own_f3_bit (k := (k + 1)) (by omega) (show (1 : Int32) = 0 ∨ (1 : Int32) = 1 by decide)]
      refine own_go (t' := T15.setTop (mkF m 163 #[.val (.int p0), .val (.int p1), .val (.int (0 : Int32)), .val (.ref t), .val (.ref bp), .val (.ref bq)] [(.int (0 : Int32)), (.int (1 : Int32))])) (fun _ k_ => XS.iloadN X15.here hx rfl (Jvm.hb hby at_162) rfl k_) ?_
      refine own_go (t' := T15.setTop (mkF m 166 #[.val (.int p0), .val (.int p1), .val (.int (0 : Int32)), .val (.ref t), .val (.ref bp), .val (.ref bq)] [(.int (1 : Int32))])) (fun _ k_ => XS.ifNo X15.here hx rfl (Jvm.hb hby at_163) rfl ((if0 _ _).trans (teq (by decide)).2) k_) ?_
      refine own_go (t' := T15.setTop (mkF m 167 #[.val (.int p0), .val (.int p1), .val (.int (0 : Int32)), .val (.ref t), .val (.ref bp), .val (.ref bq)] [(.int (1 : Int32)), (.int (1 : Int32))])) (fun _ k_ => XS.iconst X15.here hx rfl (Jvm.hb hby at_166) k_) ?_
      refine own_go (t' := T15.setTop (mkF m 171 #[.val (.int p0), .val (.int p1), .val (.int (0 : Int32)), .val (.ref t), .val (.ref bp), .val (.ref bq)] [(.int (1 : Int32)), (.int (1 : Int32))])) (fun _ k_ => XS.goto X15.here hx rfl (pc0 := 167) (pc' := 171) rfl (Jvm.hb hby at_167) (by decide) (by decide) k_) ?_
      refine own_go (t' := T15.setTop (mkF m 174 #[.val (.int p0), .val (.int p1), .val (.int (0 : Int32)), .val (.ref t), .val (.ref bp), .val (.ref bq)] [])) (fun _ k_ => XS.icmpNo X15.here hx rfl (Jvm.hb hby at_171) rfl (teq rfl).2 k_) ?_
      refine own_go (t' := T15.setTop (mkF m 175 #[.val (.int p0), .val (.int p1), .val (.int (0 : Int32)), .val (.ref t), .val (.ref bp), .val (.ref bq)] [(.int (1 : Int32))])) (fun _ k_ => XS.iconst X15.here hx rfl (Jvm.hb hby at_174) k_) ?_
      refine own_go (t' := T15.setTop (mkF m 179 #[.val (.int p0), .val (.int p1), .val (.int (0 : Int32)), .val (.ref t), .val (.ref bp), .val (.ref bq)] [(.int (1 : Int32))])) (fun _ k_ => XS.goto X15.here hx rfl (pc0 := 175) (pc' := 179) rfl (Jvm.hb hby at_175) (by decide) (by decide) k_) ?_
      exact own_retZ X15 hx Bd.returns (BodyLoose.notSynchronized Bd) rfl (Jvm.hb hby at_179) (by decide) (by decide) ⟨rfl, N15⟩
    refine own_go (t' := T6.setTop (mkF m 54 #[.val (.int p0), .val (.int p1), .val (.int (0 : Int32)), .val (.ref t), .val (.ref bp), .val (.ref bq)] [(.int p1)])) (fun _ k_ => XS.iloadN X6.here hx rfl (Jvm.hb hby at_53) rfl k_) ?_
    refine own_go (t' := T6.setTop (mkF m 55 #[.val (.int p0), .val (.int p1), .val (.int (0 : Int32)), .val (.ref t), .val (.ref bp), .val (.ref bq)] [(.int (1 : Int32)), (.int p1)])) (fun _ k_ => XS.iconst X6.here hx rfl (Jvm.hb hby at_54) k_) ?_
    refine own_go (t' := T6.setTop (mkF m 56 #[.val (.int p0), .val (.int p1), .val (.int (0 : Int32)), .val (.ref t), .val (.ref bp), .val (.ref bq)] [(.int (p1 &&& (1 : Int32)))])) (fun _ k_ => XS.iand X6.here hx rfl (Jvm.hb hby at_55) rfl k_) ?_
    by_cases hb1 : (p1 &&& (1 : Int32)) = 0
    ·
      refine own_go (t' := T6.setTop (mkF m 75 #[.val (.int p0), .val (.int p1), .val (.int (0 : Int32)), .val (.ref t), .val (.ref bp), .val (.ref bq)] [])) (fun _ k_ => XS.ifYes X6.here hx rfl (pc0 := 56) (pc' := 75) rfl (Jvm.hb hby at_56) rfl ((if0 _ _).trans (teq hb1).1) (by decide) (by decide) k_) ?_
      refine own_go (t' := T6.setTop (mkF m 76 #[.val (.int p0), .val (.int p1), .val (.int (0 : Int32)), .val (.ref t), .val (.ref bp), .val (.ref bq)] [(.int p1)])) (fun _ k_ => XS.iloadN X6.here hx rfl (Jvm.hb hby at_75) rfl k_) ?_
      refine own_go (t' := T6.setTop (mkF m 77 #[.val (.int p0), .val (.int p1), .val (.int (0 : Int32)), .val (.ref t), .val (.ref bp), .val (.ref bq)] [(.int (2 : Int32)), (.int p1)])) (fun _ k_ => XS.iconst X6.here hx rfl (Jvm.hb hby at_76) k_) ?_
      refine own_go (t' := T6.setTop (mkF m 78 #[.val (.int p0), .val (.int p1), .val (.int (0 : Int32)), .val (.ref t), .val (.ref bp), .val (.ref bq)] [(.int (p1 &&& (2 : Int32)))])) (fun _ k_ => XS.iand X6.here hx rfl (Jvm.hb hby at_77) rfl k_) ?_
      by_cases hb2 : (p1 &&& (2 : Int32)) = 0
      ·
        refine own_go (t' := T6.setTop (mkF m 97 #[.val (.int p0), .val (.int p1), .val (.int (0 : Int32)), .val (.ref t), .val (.ref bp), .val (.ref bq)] [])) (fun _ k_ => XS.ifYes X6.here hx rfl (pc0 := 78) (pc' := 97) rfl (Jvm.hb hby at_78) rfl ((if0 _ _).trans (teq hb2).1) (by decide) (by decide) k_) ?_
        exact J97 T6 _ _ 0 16 10 19 (fun _ => (0 : Int32)) _ _ _ _ X6 (rfl : T6.heap = T6.heap) N6 (by decide) TVkq aR_kq aO_kq aS_kq aF_kq aA_kq aC_kq BVpk Bapk Bcpk BVq Baq Bcq (fun j hj0 => absurd hj0 (by omega)) (fun j hj0 => absurd hj0 (by omega)) (fun j hj0 => absurd hj0 (by omega)) (fun j hj0 => absurd hj0 (by omega)) (by decide +kernel) (by decide +kernel) (by unfold own_Fit; decide +kernel) Zbq2
      ·
        refine own_go (t' := T6.setTop (mkF m 81 #[.val (.int p0), .val (.int p1), .val (.int (0 : Int32)), .val (.ref t), .val (.ref bp), .val (.ref bq)] [])) (fun _ k_ => XS.ifNo X6.here hx rfl (Jvm.hb hby at_78) rfl ((if0 _ _).trans (feq hb2).1) k_) ?_
        refine own_go (t' := T6.setTop (mkF m 83 #[.val (.int p0), .val (.int p1), .val (.int (0 : Int32)), .val (.ref t), .val (.ref bp), .val (.ref bq)] [(.ref bp)])) (fun _ k_ => XS.aload X6.here hx rfl (Jvm.hb hby at_81) rfl rfl k_) ?_
        refine own_go (t' := T6.setTop (mkF m 84 #[.val (.int p0), .val (.int p1), .val (.int (0 : Int32)), .val (.ref t), .val (.ref bp), .val (.ref bq)] [(.int (1 : Int32)), (.ref bp)])) (fun _ k_ => XS.iconst X6.here hx rfl (Jvm.hb hby at_83) k_) ?_
        refine own_go (t' := T6.setTop (mkF m 85 #[.val (.int p0), .val (.int p1), .val (.int (0 : Int32)), .val (.ref t), .val (.ref bp), .val (.ref bq)] [(.int (0 : Int32)), (.int (1 : Int32)), (.ref bp)])) (fun _ k_ => XS.iconst X6.here hx rfl (Jvm.hb hby at_84) k_) ?_
        obtain ⟨T16, L16, v16, X16, hQ16, st16⟩ := own_virtual X6 hx hZ (y := (⟨"com/example/brisk_rules/briskrules/GroundRule$Builder", "head", "(IZ)Lcom/example/brisk_rules/briskrules/GroundRule$Builder;"⟩ : MethodName)) hown (hw _ (List.mem_of_getElem? (i := 45) rfl)) (hw _ (List.mem_of_getElem? (i := 46) rfl)) (hw _ (List.mem_of_getElem? (i := 48) rfl)) (hw _ (List.mem_of_getElem? (i := 47) rfl)) (hw _ (List.mem_of_getElem? (i := 49) rfl)) (hw _ (List.mem_of_getElem? (i := 28) rfl)) (by decide) BVpk.1 (rm_head l Z a0 hw [] bp aap acp 0 1 (0 : Int32) _ _ T6.heap n0 Zbq2 BVpk Bapk Bcpk (by decide) (by decide) (by omega) gbp) (rfl : T6.heap = T6.heap) (g := (mkF m 85 #[.val (.int p0), .val (.int p1), .val (.int (0 : Int32)), .val (.ref t), .val (.ref bp), .val (.ref bq)] [(.int (0 : Int32)), (.int (1 : Int32)), (.ref bp)])) rfl (by rw [hml]; rfl) (argsL := [(.int (1 : Int32)), (.int (0 : Int32))]) (rest := []) (lenOf pd_d4 rfl) rfl (W := 0) (by show 2 * 0 + _ ≤ _; exact Nat.le_of_eq rfl) (Jvm.hb hby at_85) (by decide) (by decide) (by decide) (by decide)
        obtain ⟨rfl, Nq16, Khbp, BVhbp, Bahbp, Bchbp⟩ := hQ16
        have N16 := Fr.app N6 Nq16
        refine own_go (t' := T16.setTop (mkF m 88 #[.val (.int p0), .val (.int p1), .val (.int (0 : Int32)), .val (.ref t), .val (.ref bp), .val (.ref bq)] [(.ref bp)])) st16 ?_
        have Zhbp : n0 ≤ T16.heap.size := Nat.le_trans Zbq2 Khbp.1
        have TVhbp := own_TV_keep TVkq Khbp (own_nin3 (by omega))
        have aR_hbp := own_Ar_keep Khbp (own_nin3 (by omega)) aR_kq
        have aO_hbp := own_Ar_keep Khbp (own_nin3 (by omega)) aO_kq
        have aS_hbp := own_Ar_keep Khbp (own_nin3 (by omega)) aS_kq
        have aF_hbp := own_Ar_keep Khbp (own_nin3 (by omega)) aF_kq
        have aA_hbp := own_Ar_keep Khbp (own_nin3 (by omega)) aA_kq
        have aC_hbp := own_Ar_keep Khbp (own_nin3 (by omega)) aC_kq
        have BVobp := own_BV_keep BVq Khbp (own_nin3 (by omega))
        have Baobp := own_Ar_keep Khbp (own_nin3 (by omega)) Baq
        have Bcobp := own_Ar_keep Khbp (own_nin3 (by omega)) Bcq
        refine own_go (t' := T16.setTop (mkF m 89 #[.val (.int p0), .val (.int p1), .val (.int (0 : Int32)), .val (.ref t), .val (.ref bp), .val (.ref bq)] [])) (fun _ k_ => XS.pop X16.here hx rfl (Jvm.hb hby at_88) rfl rfl k_) ?_
        refine own_go (t' := T16.setTop (mkF m 91 #[.val (.int p0), .val (.int p1), .val (.int (0 : Int32)), .val (.ref t), .val (.ref bp), .val (.ref bq)] [(.ref bq)])) (fun _ k_ => XS.aload X16.here hx rfl (Jvm.hb hby at_89) rfl rfl k_) ?_
        refine own_go (t' := T16.setTop (mkF m 92 #[.val (.int p0), .val (.int p1), .val (.int (0 : Int32)), .val (.ref t), .val (.ref bp), .val (.ref bq)] [(.int (1 : Int32)), (.ref bq)])) (fun _ k_ => XS.iconst X16.here hx rfl (Jvm.hb hby at_91) k_) ?_
        refine own_go (t' := T16.setTop (mkF m 93 #[.val (.int p0), .val (.int p1), .val (.int (0 : Int32)), .val (.ref t), .val (.ref bp), .val (.ref bq)] [(.int (0 : Int32)), (.int (1 : Int32)), (.ref bq)])) (fun _ k_ => XS.iconst X16.here hx rfl (Jvm.hb hby at_92) k_) ?_
        obtain ⟨T17, L17, v17, X17, hQ17, st17⟩ := own_virtual X16 hx hZ (y := (⟨"com/example/brisk_rules/briskrules/GroundRule$Builder", "head", "(IZ)Lcom/example/brisk_rules/briskrules/GroundRule$Builder;"⟩ : MethodName)) hown (hw _ (List.mem_of_getElem? (i := 45) rfl)) (hw _ (List.mem_of_getElem? (i := 46) rfl)) (hw _ (List.mem_of_getElem? (i := 48) rfl)) (hw _ (List.mem_of_getElem? (i := 47) rfl)) (hw _ (List.mem_of_getElem? (i := 49) rfl)) (hw _ (List.mem_of_getElem? (i := 28) rfl)) (by decide) BVobp.1 (rm_head l Z a0 hw [] bq aaq acq 0 1 (1 : Int32) _ _ T16.heap n0 Zhbp BVobp Baobp Bcobp (by decide) (by decide) (by omega) gbq) (rfl : T16.heap = T16.heap) (g := (mkF m 93 #[.val (.int p0), .val (.int p1), .val (.int (0 : Int32)), .val (.ref t), .val (.ref bp), .val (.ref bq)] [(.int (0 : Int32)), (.int (1 : Int32)), (.ref bq)])) rfl (by rw [hml]; rfl) (argsL := [(.int (1 : Int32)), (.int (0 : Int32))]) (rest := []) (lenOf pd_d4 rfl) rfl (W := 0) (by show 2 * 0 + _ ≤ _; exact Nat.le_of_eq rfl) (Jvm.hb hby at_93) (by decide) (by decide) (by decide) (by decide)
        obtain ⟨rfl, Nq17, Khbq, BVhbq, Bahbq, Bchbq⟩ := hQ17
        have N17 := Fr.app N16 Nq17
        refine own_go (t' := T17.setTop (mkF m 96 #[.val (.int p0), .val (.int p1), .val (.int (0 : Int32)), .val (.ref t), .val (.ref bp), .val (.ref bq)] [(.ref bq)])) st17 ?_
        have Zhbq : n0 ≤ T17.heap.size := Nat.le_trans Zhbp Khbq.1
        have TVhbq := own_TV_keep TVhbp Khbq (own_nin3 (by omega))
        have aR_hbq := own_Ar_keep Khbq (own_nin3 (by omega)) aR_hbp
        have aO_hbq := own_Ar_keep Khbq (own_nin3 (by omega)) aO_hbp
        have aS_hbq := own_Ar_keep Khbq (own_nin3 (by omega)) aS_hbp
        have aF_hbq := own_Ar_keep Khbq (own_nin3 (by omega)) aF_hbp
        have aA_hbq := own_Ar_keep Khbq (own_nin3 (by omega)) aA_hbp
        have aC_hbq := own_Ar_keep Khbq (own_nin3 (by omega)) aC_hbp
        have BVobq := own_BV_keep BVhbp Khbq (own_nin3 (by omega))
        have Baobq := own_Ar_keep Khbq (own_nin3 (by omega)) Bahbp
        have Bcobq := own_Ar_keep Khbq (own_nin3 (by omega)) Bchbp
        refine own_go (t' := T17.setTop (mkF m 97 #[.val (.int p0), .val (.int p1), .val (.int (0 : Int32)), .val (.ref t), .val (.ref bp), .val (.ref bq)] [])) (fun _ k_ => XS.pop X17.here hx rfl (Jvm.hb hby at_96) rfl rfl k_) ?_
        exact J97 T17 _ _ 1 3 6 14 (own_ua (fun _ => (0 : Int32)) 0 1) _ _ _ _ X17 (rfl : T17.heap = T17.heap) N17 (by decide) TVhbq aR_hbq aO_hbq aS_hbq aF_hbq aA_hbq aC_hbq BVobq Baobq Bcobq BVhbq Bahbq Bchbq (own_upd_at (k := 0) (at0 := (fun _ => (0 : Int32))) 1 (fun j hj0 => absurd hj0 (by omega))) (own_upd_c (k := 0) (fun j hj0 => absurd hj0 (by omega))) (own_upd_at (k := 0) (at0 := (fun _ => (0 : Int32))) 1 (fun j hj0 => absurd hj0 (by omega))) (own_upd_c (k := 0) (fun j hj0 => absurd hj0 (by omega))) (by decide +kernel) (by decide +kernel) (by unfold own_Fit; decide +kernel) Zhbq
    ·
      refine own_go (t' := T6.setTop (mkF m 59 #[.val (.int p0), .val (.int p1), .val (.int (0 : Int32)), .val (.ref t), .val (.ref bp), .val (.ref bq)] [])) (fun _ k_ => XS.ifNo X6.here hx rfl (Jvm.hb hby at_56) rfl ((if0 _ _).trans (feq hb1).1) k_) ?_
      refine own_go (t' := T6.setTop (mkF m 61 #[.val (.int p0), .val (.int p1), .val (.int (0 : Int32)), .val (.ref t), .val (.ref bp), .val (.ref bq)] [(.ref bp)])) (fun _ k_ => XS.aload X6.here hx rfl (Jvm.hb hby at_59) rfl rfl k_) ?_
      refine own_go (t' := T6.setTop (mkF m 62 #[.val (.int p0), .val (.int p1), .val (.int (0 : Int32)), .val (.ref t), .val (.ref bp), .val (.ref bq)] [(.int (0 : Int32)), (.ref bp)])) (fun _ k_ => XS.iconst X6.here hx rfl (Jvm.hb hby at_61) k_) ?_
      refine own_go (t' := T6.setTop (mkF m 63 #[.val (.int p0), .val (.int p1), .val (.int (0 : Int32)), .val (.ref t), .val (.ref bp), .val (.ref bq)] [(.int (0 : Int32)), (.int (0 : Int32)), (.ref bp)])) (fun _ k_ => XS.iconst X6.here hx rfl (Jvm.hb hby at_62) k_) ?_
      obtain ⟨T18, L18, v18, X18, hQ18, st18⟩ := own_virtual X6 hx hZ (y := (⟨"com/example/brisk_rules/briskrules/GroundRule$Builder", "head", "(IZ)Lcom/example/brisk_rules/briskrules/GroundRule$Builder;"⟩ : MethodName)) hown (hw _ (List.mem_of_getElem? (i := 45) rfl)) (hw _ (List.mem_of_getElem? (i := 46) rfl)) (hw _ (List.mem_of_getElem? (i := 48) rfl)) (hw _ (List.mem_of_getElem? (i := 47) rfl)) (hw _ (List.mem_of_getElem? (i := 49) rfl)) (hw _ (List.mem_of_getElem? (i := 28) rfl)) (by decide) BVpk.1 (rm_head l Z a0 hw [] bp aap acp 0 0 (0 : Int32) _ _ T6.heap n0 Zbq2 BVpk Bapk Bcpk (by decide) (by decide) (by omega) gbp) (rfl : T6.heap = T6.heap) (g := (mkF m 63 #[.val (.int p0), .val (.int p1), .val (.int (0 : Int32)), .val (.ref t), .val (.ref bp), .val (.ref bq)] [(.int (0 : Int32)), (.int (0 : Int32)), (.ref bp)])) rfl (by rw [hml]; rfl) (argsL := [(.int (0 : Int32)), (.int (0 : Int32))]) (rest := []) (lenOf pd_d4 rfl) rfl (W := 0) (by show 2 * 0 + _ ≤ _; exact Nat.le_of_eq rfl) (Jvm.hb hby at_63) (by decide) (by decide) (by decide) (by decide)
      obtain ⟨rfl, Nq18, Khap, BVhap, Bahap, Bchap⟩ := hQ18
      have N18 := Fr.app N6 Nq18
      refine own_go (t' := T18.setTop (mkF m 66 #[.val (.int p0), .val (.int p1), .val (.int (0 : Int32)), .val (.ref t), .val (.ref bp), .val (.ref bq)] [(.ref bp)])) st18 ?_
      have Zhap : n0 ≤ T18.heap.size := Nat.le_trans Zbq2 Khap.1
      have TVhap := own_TV_keep TVkq Khap (own_nin3 (by omega))
      have aR_hap := own_Ar_keep Khap (own_nin3 (by omega)) aR_kq
      have aO_hap := own_Ar_keep Khap (own_nin3 (by omega)) aO_kq
      have aS_hap := own_Ar_keep Khap (own_nin3 (by omega)) aS_kq
      have aF_hap := own_Ar_keep Khap (own_nin3 (by omega)) aF_kq
      have aA_hap := own_Ar_keep Khap (own_nin3 (by omega)) aA_kq
      have aC_hap := own_Ar_keep Khap (own_nin3 (by omega)) aC_kq
      have BVoap := own_BV_keep BVq Khap (own_nin3 (by omega))
      have Baoap := own_Ar_keep Khap (own_nin3 (by omega)) Baq
      have Bcoap := own_Ar_keep Khap (own_nin3 (by omega)) Bcq
      refine own_go (t' := T18.setTop (mkF m 67 #[.val (.int p0), .val (.int p1), .val (.int (0 : Int32)), .val (.ref t), .val (.ref bp), .val (.ref bq)] [])) (fun _ k_ => XS.pop X18.here hx rfl (Jvm.hb hby at_66) rfl rfl k_) ?_
      refine own_go (t' := T18.setTop (mkF m 69 #[.val (.int p0), .val (.int p1), .val (.int (0 : Int32)), .val (.ref t), .val (.ref bp), .val (.ref bq)] [(.ref bq)])) (fun _ k_ => XS.aload X18.here hx rfl (Jvm.hb hby at_67) rfl rfl k_) ?_
      refine own_go (t' := T18.setTop (mkF m 70 #[.val (.int p0), .val (.int p1), .val (.int (0 : Int32)), .val (.ref t), .val (.ref bp), .val (.ref bq)] [(.int (0 : Int32)), (.ref bq)])) (fun _ k_ => XS.iconst X18.here hx rfl (Jvm.hb hby at_69) k_) ?_
      refine own_go (t' := T18.setTop (mkF m 71 #[.val (.int p0), .val (.int p1), .val (.int (0 : Int32)), .val (.ref t), .val (.ref bp), .val (.ref bq)] [(.int (0 : Int32)), (.int (0 : Int32)), (.ref bq)])) (fun _ k_ => XS.iconst X18.here hx rfl (Jvm.hb hby at_70) k_) ?_
      obtain ⟨T19, L19, v19, X19, hQ19, st19⟩ := own_virtual X18 hx hZ (y := (⟨"com/example/brisk_rules/briskrules/GroundRule$Builder", "head", "(IZ)Lcom/example/brisk_rules/briskrules/GroundRule$Builder;"⟩ : MethodName)) hown (hw _ (List.mem_of_getElem? (i := 45) rfl)) (hw _ (List.mem_of_getElem? (i := 46) rfl)) (hw _ (List.mem_of_getElem? (i := 48) rfl)) (hw _ (List.mem_of_getElem? (i := 47) rfl)) (hw _ (List.mem_of_getElem? (i := 49) rfl)) (hw _ (List.mem_of_getElem? (i := 28) rfl)) (by decide) BVoap.1 (rm_head l Z a0 hw [] bq aaq acq 0 0 (1 : Int32) _ _ T18.heap n0 Zhap BVoap Baoap Bcoap (by decide) (by decide) (by omega) gbq) (rfl : T18.heap = T18.heap) (g := (mkF m 71 #[.val (.int p0), .val (.int p1), .val (.int (0 : Int32)), .val (.ref t), .val (.ref bp), .val (.ref bq)] [(.int (0 : Int32)), (.int (0 : Int32)), (.ref bq)])) rfl (by rw [hml]; rfl) (argsL := [(.int (0 : Int32)), (.int (0 : Int32))]) (rest := []) (lenOf pd_d4 rfl) rfl (W := 0) (by show 2 * 0 + _ ≤ _; exact Nat.le_of_eq rfl) (Jvm.hb hby at_71) (by decide) (by decide) (by decide) (by decide)
      obtain ⟨rfl, Nq19, Khaq, BVhaq, Bahaq, Bchaq⟩ := hQ19
      have N19 := Fr.app N18 Nq19
      refine own_go (t' := T19.setTop (mkF m 74 #[.val (.int p0), .val (.int p1), .val (.int (0 : Int32)), .val (.ref t), .val (.ref bp), .val (.ref bq)] [(.ref bq)])) st19 ?_
      have Zhaq : n0 ≤ T19.heap.size := Nat.le_trans Zhap Khaq.1
      have TVhaq := own_TV_keep TVhap Khaq (own_nin3 (by omega))
      have aR_haq := own_Ar_keep Khaq (own_nin3 (by omega)) aR_hap
      have aO_haq := own_Ar_keep Khaq (own_nin3 (by omega)) aO_hap
      have aS_haq := own_Ar_keep Khaq (own_nin3 (by omega)) aS_hap
      have aF_haq := own_Ar_keep Khaq (own_nin3 (by omega)) aF_hap
      have aA_haq := own_Ar_keep Khaq (own_nin3 (by omega)) aA_hap
      have aC_haq := own_Ar_keep Khaq (own_nin3 (by omega)) aC_hap
      have BVoaq := own_BV_keep BVhap Khaq (own_nin3 (by omega))
      have Baoaq := own_Ar_keep Khaq (own_nin3 (by omega)) Bahap
      have Bcoaq := own_Ar_keep Khaq (own_nin3 (by omega)) Bchap
      refine own_go (t' := T19.setTop (mkF m 75 #[.val (.int p0), .val (.int p1), .val (.int (0 : Int32)), .val (.ref t), .val (.ref bp), .val (.ref bq)] [])) (fun _ k_ => XS.pop X19.here hx rfl (Jvm.hb hby at_74) rfl rfl k_) ?_
      refine own_go (t' := T19.setTop (mkF m 76 #[.val (.int p0), .val (.int p1), .val (.int (0 : Int32)), .val (.ref t), .val (.ref bp), .val (.ref bq)] [(.int p1)])) (fun _ k_ => XS.iloadN X19.here hx rfl (Jvm.hb hby at_75) rfl k_) ?_
      refine own_go (t' := T19.setTop (mkF m 77 #[.val (.int p0), .val (.int p1), .val (.int (0 : Int32)), .val (.ref t), .val (.ref bp), .val (.ref bq)] [(.int (2 : Int32)), (.int p1)])) (fun _ k_ => XS.iconst X19.here hx rfl (Jvm.hb hby at_76) k_) ?_
      refine own_go (t' := T19.setTop (mkF m 78 #[.val (.int p0), .val (.int p1), .val (.int (0 : Int32)), .val (.ref t), .val (.ref bp), .val (.ref bq)] [(.int (p1 &&& (2 : Int32)))])) (fun _ k_ => XS.iand X19.here hx rfl (Jvm.hb hby at_77) rfl k_) ?_
      by_cases hb2 : (p1 &&& (2 : Int32)) = 0
      ·
        refine own_go (t' := T19.setTop (mkF m 97 #[.val (.int p0), .val (.int p1), .val (.int (0 : Int32)), .val (.ref t), .val (.ref bp), .val (.ref bq)] [])) (fun _ k_ => XS.ifYes X19.here hx rfl (pc0 := 78) (pc' := 97) rfl (Jvm.hb hby at_78) rfl ((if0 _ _).trans (teq hb2).1) (by decide) (by decide) k_) ?_
        exact J97 T19 _ _ 1 21 17 18 (own_ua (fun _ => (0 : Int32)) 0 0) _ _ _ _ X19 (rfl : T19.heap = T19.heap) N19 (by decide) TVhaq aR_haq aO_haq aS_haq aF_haq aA_haq aC_haq BVoaq Baoaq Bcoaq BVhaq Bahaq Bchaq (own_upd_at (k := 0) (at0 := (fun _ => (0 : Int32))) 0 (fun j hj0 => absurd hj0 (by omega))) (own_upd_c (k := 0) (fun j hj0 => absurd hj0 (by omega))) (own_upd_at (k := 0) (at0 := (fun _ => (0 : Int32))) 0 (fun j hj0 => absurd hj0 (by omega))) (own_upd_c (k := 0) (fun j hj0 => absurd hj0 (by omega))) (by decide +kernel) (by decide +kernel) (by unfold own_Fit; decide +kernel) Zhaq
      ·
        refine own_go (t' := T19.setTop (mkF m 81 #[.val (.int p0), .val (.int p1), .val (.int (0 : Int32)), .val (.ref t), .val (.ref bp), .val (.ref bq)] [])) (fun _ k_ => XS.ifNo X19.here hx rfl (Jvm.hb hby at_78) rfl ((if0 _ _).trans (feq hb2).1) k_) ?_
        refine own_go (t' := T19.setTop (mkF m 83 #[.val (.int p0), .val (.int p1), .val (.int (0 : Int32)), .val (.ref t), .val (.ref bp), .val (.ref bq)] [(.ref bp)])) (fun _ k_ => XS.aload X19.here hx rfl (Jvm.hb hby at_81) rfl rfl k_) ?_
        refine own_go (t' := T19.setTop (mkF m 84 #[.val (.int p0), .val (.int p1), .val (.int (0 : Int32)), .val (.ref t), .val (.ref bp), .val (.ref bq)] [(.int (1 : Int32)), (.ref bp)])) (fun _ k_ => XS.iconst X19.here hx rfl (Jvm.hb hby at_83) k_) ?_
        refine own_go (t' := T19.setTop (mkF m 85 #[.val (.int p0), .val (.int p1), .val (.int (0 : Int32)), .val (.ref t), .val (.ref bp), .val (.ref bq)] [(.int (0 : Int32)), (.int (1 : Int32)), (.ref bp)])) (fun _ k_ => XS.iconst X19.here hx rfl (Jvm.hb hby at_84) k_) ?_
        obtain ⟨T20, L20, v20, X20, hQ20, st20⟩ := own_virtual X19 hx hZ (y := (⟨"com/example/brisk_rules/briskrules/GroundRule$Builder", "head", "(IZ)Lcom/example/brisk_rules/briskrules/GroundRule$Builder;"⟩ : MethodName)) hown (hw _ (List.mem_of_getElem? (i := 45) rfl)) (hw _ (List.mem_of_getElem? (i := 46) rfl)) (hw _ (List.mem_of_getElem? (i := 48) rfl)) (hw _ (List.mem_of_getElem? (i := 47) rfl)) (hw _ (List.mem_of_getElem? (i := 49) rfl)) (hw _ (List.mem_of_getElem? (i := 28) rfl)) (by decide) BVoaq.1 (rm_head l Z a0 hw [] bp aap acp 1 1 (0 : Int32) _ _ T19.heap n0 Zhaq BVoaq Baoaq Bcoaq (by decide) (by decide) (by omega) gbp) (rfl : T19.heap = T19.heap) (g := (mkF m 85 #[.val (.int p0), .val (.int p1), .val (.int (0 : Int32)), .val (.ref t), .val (.ref bp), .val (.ref bq)] [(.int (0 : Int32)), (.int (1 : Int32)), (.ref bp)])) rfl (by rw [hml]; rfl) (argsL := [(.int (1 : Int32)), (.int (0 : Int32))]) (rest := []) (lenOf pd_d4 rfl) rfl (W := 0) (by show 2 * 0 + _ ≤ _; exact Nat.le_of_eq rfl) (Jvm.hb hby at_85) (by decide) (by decide) (by decide) (by decide)
        obtain ⟨rfl, Nq20, Khbp, BVhbp, Bahbp, Bchbp⟩ := hQ20
        have N20 := Fr.app N19 Nq20
        refine own_go (t' := T20.setTop (mkF m 88 #[.val (.int p0), .val (.int p1), .val (.int (0 : Int32)), .val (.ref t), .val (.ref bp), .val (.ref bq)] [(.ref bp)])) st20 ?_
        have Zhbp : n0 ≤ T20.heap.size := Nat.le_trans Zhaq Khbp.1
        have TVhbp := own_TV_keep TVhaq Khbp (own_nin3 (by omega))
        have aR_hbp := own_Ar_keep Khbp (own_nin3 (by omega)) aR_haq
        have aO_hbp := own_Ar_keep Khbp (own_nin3 (by omega)) aO_haq
        have aS_hbp := own_Ar_keep Khbp (own_nin3 (by omega)) aS_haq
        have aF_hbp := own_Ar_keep Khbp (own_nin3 (by omega)) aF_haq
        have aA_hbp := own_Ar_keep Khbp (own_nin3 (by omega)) aA_haq
        have aC_hbp := own_Ar_keep Khbp (own_nin3 (by omega)) aC_haq
        have BVobp := own_BV_keep BVhaq Khbp (own_nin3 (by omega))
        have Baobp := own_Ar_keep Khbp (own_nin3 (by omega)) Bahaq
        have Bcobp := own_Ar_keep Khbp (own_nin3 (by omega)) Bchaq
        refine own_go (t' := T20.setTop (mkF m 89 #[.val (.int p0), .val (.int p1), .val (.int (0 : Int32)), .val (.ref t), .val (.ref bp), .val (.ref bq)] [])) (fun _ k_ => XS.pop X20.here hx rfl (Jvm.hb hby at_88) rfl rfl k_) ?_
        refine own_go (t' := T20.setTop (mkF m 91 #[.val (.int p0), .val (.int p1), .val (.int (0 : Int32)), .val (.ref t), .val (.ref bp), .val (.ref bq)] [(.ref bq)])) (fun _ k_ => XS.aload X20.here hx rfl (Jvm.hb hby at_89) rfl rfl k_) ?_
        refine own_go (t' := T20.setTop (mkF m 92 #[.val (.int p0), .val (.int p1), .val (.int (0 : Int32)), .val (.ref t), .val (.ref bp), .val (.ref bq)] [(.int (1 : Int32)), (.ref bq)])) (fun _ k_ => XS.iconst X20.here hx rfl (Jvm.hb hby at_91) k_) ?_
        refine own_go (t' := T20.setTop (mkF m 93 #[.val (.int p0), .val (.int p1), .val (.int (0 : Int32)), .val (.ref t), .val (.ref bp), .val (.ref bq)] [(.int (0 : Int32)), (.int (1 : Int32)), (.ref bq)])) (fun _ k_ => XS.iconst X20.here hx rfl (Jvm.hb hby at_92) k_) ?_
        obtain ⟨T21, L21, v21, X21, hQ21, st21⟩ := own_virtual X20 hx hZ (y := (⟨"com/example/brisk_rules/briskrules/GroundRule$Builder", "head", "(IZ)Lcom/example/brisk_rules/briskrules/GroundRule$Builder;"⟩ : MethodName)) hown (hw _ (List.mem_of_getElem? (i := 45) rfl)) (hw _ (List.mem_of_getElem? (i := 46) rfl)) (hw _ (List.mem_of_getElem? (i := 48) rfl)) (hw _ (List.mem_of_getElem? (i := 47) rfl)) (hw _ (List.mem_of_getElem? (i := 49) rfl)) (hw _ (List.mem_of_getElem? (i := 28) rfl)) (by decide) BVobp.1 (rm_head l Z a0 hw [] bq aaq acq 1 1 (1 : Int32) _ _ T20.heap n0 Zhbp BVobp Baobp Bcobp (by decide) (by decide) (by omega) gbq) (rfl : T20.heap = T20.heap) (g := (mkF m 93 #[.val (.int p0), .val (.int p1), .val (.int (0 : Int32)), .val (.ref t), .val (.ref bp), .val (.ref bq)] [(.int (0 : Int32)), (.int (1 : Int32)), (.ref bq)])) rfl (by rw [hml]; rfl) (argsL := [(.int (1 : Int32)), (.int (0 : Int32))]) (rest := []) (lenOf pd_d4 rfl) rfl (W := 0) (by show 2 * 0 + _ ≤ _; exact Nat.le_of_eq rfl) (Jvm.hb hby at_93) (by decide) (by decide) (by decide) (by decide)
        obtain ⟨rfl, Nq21, Khbq, BVhbq, Bahbq, Bchbq⟩ := hQ21
        have N21 := Fr.app N20 Nq21
        refine own_go (t' := T21.setTop (mkF m 96 #[.val (.int p0), .val (.int p1), .val (.int (0 : Int32)), .val (.ref t), .val (.ref bp), .val (.ref bq)] [(.ref bq)])) st21 ?_
        have Zhbq : n0 ≤ T21.heap.size := Nat.le_trans Zhbp Khbq.1
        have TVhbq := own_TV_keep TVhbp Khbq (own_nin3 (by omega))
        have aR_hbq := own_Ar_keep Khbq (own_nin3 (by omega)) aR_hbp
        have aO_hbq := own_Ar_keep Khbq (own_nin3 (by omega)) aO_hbp
        have aS_hbq := own_Ar_keep Khbq (own_nin3 (by omega)) aS_hbp
        have aF_hbq := own_Ar_keep Khbq (own_nin3 (by omega)) aF_hbp
        have aA_hbq := own_Ar_keep Khbq (own_nin3 (by omega)) aA_hbp
        have aC_hbq := own_Ar_keep Khbq (own_nin3 (by omega)) aC_hbp
        have BVobq := own_BV_keep BVhbp Khbq (own_nin3 (by omega))
        have Baobq := own_Ar_keep Khbq (own_nin3 (by omega)) Bahbp
        have Bcobq := own_Ar_keep Khbq (own_nin3 (by omega)) Bchbp
        refine own_go (t' := T21.setTop (mkF m 97 #[.val (.int p0), .val (.int p1), .val (.int (0 : Int32)), .val (.ref t), .val (.ref bp), .val (.ref bq)] [])) (fun _ k_ => XS.pop X21.here hx rfl (Jvm.hb hby at_96) rfl rfl k_) ?_
        exact J97 T21 _ _ 2 4 11 13 (own_ua (own_ua (fun _ => (0 : Int32)) 0 0) 1 1) _ _ _ _ X21 (rfl : T21.heap = T21.heap) N21 (by decide) TVhbq aR_hbq aO_hbq aS_hbq aF_hbq aA_hbq aC_hbq BVobq Baobq Bcobq BVhbq Bahbq Bchbq (own_upd_at (k := 1) (at0 := (own_ua (fun _ => (0 : Int32)) 0 0)) 1 (own_upd_at (k := 0) (at0 := (fun _ => (0 : Int32))) 0 (fun j hj0 => absurd hj0 (by omega)))) (own_upd_c (k := 1) (own_upd_c (k := 0) (fun j hj0 => absurd hj0 (by omega)))) (own_upd_at (k := 1) (at0 := (own_ua (fun _ => (0 : Int32)) 0 0)) 1 (own_upd_at (k := 0) (at0 := (fun _ => (0 : Int32))) 0 (fun j hj0 => absurd hj0 (by omega)))) (own_upd_c (k := 1) (own_upd_c (k := 0) (fun j hj0 => absurd hj0 (by omega)))) (by decide +kernel) (by decide +kernel) (by unfold own_Fit; decide +kernel) Zhbq
  ·
    refine own_go (t' := s₁.setTop (mkF m 6 #[.val (.int p0), .val (.int p1), .unset, .unset, .unset, .unset] [])) (fun _ k_ => XS.ifNo X0.here hx rfl (Jvm.hb hby at_3) rfl ((if0 _ _).trans (feq hs0).1) k_) ?_
    refine own_go (t' := s₁.setTop (mkF m 7 #[.val (.int p0), .val (.int p1), .unset, .unset, .unset, .unset] [(.int (1 : Int32))])) (fun _ k_ => XS.iconst X0.here hx rfl (Jvm.hb hby at_6) k_) ?_
    refine own_go (t' := s₁.setTop (mkF m 11 #[.val (.int p0), .val (.int p1), .unset, .unset, .unset, .unset] [(.int (1 : Int32))])) (fun _ k_ => XS.goto X0.here hx rfl (pc0 := 7) (pc' := 11) rfl (Jvm.hb hby at_7) (by decide) (by decide) k_) ?_
    refine own_go (t' := s₁.setTop (mkF m 12 #[.val (.int p0), .val (.int p1), .val (.int (1 : Int32)), .unset, .unset, .unset] [])) (fun _ k_ => XS.istoreN X0.here hx rfl (Jvm.hb hby at_11) rfl (l' := #[.val (.int p0), .val (.int p1), .val (.int (1 : Int32)), .unset, .unset, .unset]) rfl k_) ?_
    obtain ⟨T22, h22, X22, e22, E22, A22, D22, -, st22⟩ := newO X0 hx hZ hown (hw _ (List.mem_of_getElem? (i := 0) rfl)) (hw _ (List.mem_of_getElem? (i := 1) rfl)) (hw _ (List.mem_of_getElem? (i := 2) rfl)) e0 (g := (mkF m 12 #[.val (.int p0), .val (.int p1), .val (.int (1 : Int32)), .unset, .unset, .unset] [])) rfl (Jvm.hb hby at_12) (by decide) (by decide)
    obtain ⟨t, g22⟩ : ∃ z, z = h0.size := ⟨_, rfl⟩
    rw [← g22] at A22 D22 st22
    refine own_go (t' := T22.setTop (mkF m 15 #[.val (.int p0), .val (.int p1), .val (.int (1 : Int32)), .unset, .unset, .unset] [(.ref t)])) st22 ?_
    have TVd : own_TV Z h22 t .null .null .null .null .null .null (.long 0) (.int 0) (.int 0) (.long 0) := ⟨A22, D22 (ty := (.array .long)) (Or.inl (hw _ (List.mem_of_getElem? (i := 12) rfl))) (by decide), D22 (ty := (.array .int)) (Or.inl (hw _ (List.mem_of_getElem? (i := 15) rfl))) (by decide), D22 (ty := (.array .long)) (Or.inl (hw _ (List.mem_of_getElem? (i := 17) rfl))) (by decide), D22 (ty := (.array .long)) (Or.inl (hw _ (List.mem_of_getElem? (i := 19) rfl))) (by decide), D22 (ty := (.array .int)) (Or.inl (hw _ (List.mem_of_getElem? (i := 21) rfl))) (by decide), D22 (ty := (.array .int)) (Or.inl (hw _ (List.mem_of_getElem? (i := 23) rfl))) (by decide), D22 (ty := .long) (Or.inr (hw _ (List.mem_of_getElem? (i := 25) rfl))) (by decide), D22 (ty := .int) (Or.inl (hw _ (List.mem_of_getElem? (i := 121) rfl))) (by decide), D22 (ty := .int) (Or.inl (hw _ (List.mem_of_getElem? (i := 123) rfl))) (by decide), D22 (ty := .long) (Or.inl (hw _ (List.mem_of_getElem? (i := 129) rfl))) (by decide)⟩
    have Zt : n0 ≤ h22.size := Nat.le_trans Z0 E22.1
    have gt : n0 ≤ t := by omega
    refine own_go (t' := T22.setTop (mkF m 16 #[.val (.int p0), .val (.int p1), .val (.int (1 : Int32)), .unset, .unset, .unset] [(.ref t), (.ref t)])) (fun _ k_ => XS.dup X22.here hx rfl (Jvm.hb hby at_15) rfl rfl k_) ?_
    refine own_go (t' := T22.setTop (mkF m 19 #[.val (.int p0), .val (.int p1), .val (.int (1 : Int32)), .unset, .unset, .unset] [(.long (9223372036854775807 : Int64)), (.ref t), (.ref t)])) (fun _ k_ => X22.ldc2J (own := "com/example/brisk_rules/briskrules/GroundRuleTableIsSquaredPinLaw") (index := 11) (v := (9223372036854775807 : Int64)) hx hown (mvT hZ (hw _ (List.mem_of_getElem? (i := 3) rfl))) rfl (Jvm.hb hby at_16) k_) ?_
    obtain ⟨T23, L23, v23, X23, hQ23, st23⟩ := own_special X22 hx hZ (y := (⟨"com/example/brisk_rules/briskrules/GroundRuleTable", "<init>", "(J)V"⟩ : MethodName)) rfl hown (hw _ (List.mem_of_getElem? (i := 4) rfl)) (hw _ (List.mem_of_getElem? (i := 5) rfl)) (hw _ (List.mem_of_getElem? (i := 6) rfl)) (hw _ (List.mem_of_getElem? (i := 2) rfl)) (by decide) (rm_tinit l Z a0 hw [] t h22 n0 Zt TVd gt) e22 (g := (mkF m 19 #[.val (.int p0), .val (.int p1), .val (.int (1 : Int32)), .unset, .unset, .unset] [(.long (9223372036854775807 : Int64)), (.ref t), (.ref t)])) rfl (by rw [hml]; rfl) (argsL := [(.long (9223372036854775807 : Int64))]) (rest := [(.ref t)]) (lenOf pd_d1 rfl) rfl (W := 1) (by show 2 * 0 + _ ≤ _; exact Nat.le_of_eq rfl) (Jvm.hb hby at_19) (by decide) (by decide) (by decide) (by decide)
    obtain ⟨rfl, Nq23, Kt, aR, aO, aS, aF, aA, aC, TVt, ⟨Rt, Ot, St, Ft, At, Ct⟩, o1, o2, o3, o4, o5, o6, o7⟩ := hQ23
    have N23 := Fr.app N0 Nq23
    refine own_go (t' := T23.setTop (mkF m 22 #[.val (.int p0), .val (.int p1), .val (.int (1 : Int32)), .unset, .unset, .unset] [(.ref t)])) st23 ?_
    have Zt2 : n0 ≤ T23.heap.size := Nat.le_trans Zt Kt.1
    have htl := own_exlt TVd.1
    refine own_go (t' := T23.setTop (mkF m 23 #[.val (.int p0), .val (.int p1), .val (.int (1 : Int32)), .val (.ref t), .unset, .unset] [])) (fun _ k_ => XS.astoreN X23.here hx rfl (Jvm.hb hby at_22) rfl rfl (l' := #[.val (.int p0), .val (.int p1), .val (.int (1 : Int32)), .val (.ref t), .unset, .unset]) rfl k_) ?_
    obtain ⟨T24, h24, X24, e24, E24, A24, D24, -, st24⟩ := newO X23 hx hZ hown (hw _ (List.mem_of_getElem? (i := 26) rfl)) (hw _ (List.mem_of_getElem? (i := 27) rfl)) (hw _ (List.mem_of_getElem? (i := 28) rfl)) (rfl : T23.heap = T23.heap) (g := (mkF m 23 #[.val (.int p0), .val (.int p1), .val (.int (1 : Int32)), .val (.ref t), .unset, .unset] [])) rfl (Jvm.hb hby at_23) (by decide) (by decide)
    obtain ⟨bp, g24⟩ : ∃ z, z = T23.heap.size := ⟨_, rfl⟩
    rw [← g24] at A24 D24 st24
    refine own_go (t' := T24.setTop (mkF m 26 #[.val (.int p0), .val (.int p1), .val (.int (1 : Int32)), .val (.ref t), .unset, .unset] [(.ref bp)])) st24 ?_
    have TVep := own_TV_ext TVt E24
    have aR_ep := own_Ar_ext E24 Rt
    have aO_ep := own_Ar_ext E24 Ot
    have aS_ep := own_Ar_ext E24 St
    have aF_ep := own_Ar_ext E24 Ft
    have aA_ep := own_Ar_ext E24 At
    have aC_ep := own_Ar_ext E24 Ct
    have BVdp : own_BV Z h24 bp (.double 0) (.int 0) (.double 0) .null .null (.int 0) := ⟨A24, D24 (ty := .double) (Or.inr (hw _ (List.mem_of_getElem? (i := 42) rfl))) (by decide), D24 (ty := .boolean) (Or.inr (hw _ (List.mem_of_getElem? (i := 44) rfl))) (by decide), D24 (ty := .double) (Or.inl (hw _ (List.mem_of_getElem? (i := 34) rfl))) (by decide), D24 (ty := (.array .int)) (Or.inl (hw _ (List.mem_of_getElem? (i := 36) rfl))) (by decide), D24 (ty := (.array .double)) (Or.inl (hw _ (List.mem_of_getElem? (i := 39) rfl))) (by decide), D24 (ty := .int) (Or.inl (hw _ (List.mem_of_getElem? (i := 51) rfl))) (by decide)⟩
    have Zbp : n0 ≤ h24.size := Nat.le_trans Zt2 E24.1
    have hlbp := own_exlt BVdp.1
    have gbp : n0 ≤ bp := by omega
    refine own_go (t' := T24.setTop (mkF m 27 #[.val (.int p0), .val (.int p1), .val (.int (1 : Int32)), .val (.ref t), .unset, .unset] [(.ref bp), (.ref bp)])) (fun _ k_ => XS.dup X24.here hx rfl (Jvm.hb hby at_26) rfl rfl k_) ?_
    refine own_go (t' := T24.setTop (mkF m 28 #[.val (.int p0), .val (.int p1), .val (.int (1 : Int32)), .val (.ref t), .unset, .unset] [(.double (4607182418800017408 : UInt64)), (.ref bp), (.ref bp)])) (fun _ k_ => XS.dconst1 X24.here hx rfl (Jvm.hb hby at_27) rfl k_) ?_
    refine own_go (t' := T24.setTop (mkF m 29 #[.val (.int p0), .val (.int p1), .val (.int (1 : Int32)), .val (.ref t), .unset, .unset] [(.int (1 : Int32)), (.double (4607182418800017408 : UInt64)), (.ref bp), (.ref bp)])) (fun _ k_ => XS.iloadN X24.here hx rfl (Jvm.hb hby at_28) rfl k_) ?_
    obtain ⟨T25, L25, v25, X25, hQ25, st25⟩ := own_special X24 hx hZ (y := (⟨"com/example/brisk_rules/briskrules/GroundRule$Builder", "<init>", "(DZ)V"⟩ : MethodName)) rfl hown (hw _ (List.mem_of_getElem? (i := 29) rfl)) (hw _ (List.mem_of_getElem? (i := 30) rfl)) (hw _ (List.mem_of_getElem? (i := 31) rfl)) (hw _ (List.mem_of_getElem? (i := 28) rfl)) (by decide) (rm_binit l Z a0 hw [] bp (1 : Int32) h24 n0 Zbp BVdp (by decide) gbp) e24 (g := (mkF m 29 #[.val (.int p0), .val (.int p1), .val (.int (1 : Int32)), .val (.ref t), .unset, .unset] [(.int (1 : Int32)), (.double (4607182418800017408 : UInt64)), (.ref bp), (.ref bp)])) rfl (by rw [hml]; rfl) (argsL := [(.double (4607182418800017408 : UInt64)), (.int (1 : Int32))]) (rest := [(.ref bp)]) (lenOf pd_d3 rfl) rfl (W := 1) (by show 2 * 0 + _ ≤ _; exact Nat.le_of_eq rfl) (Jvm.hb hby at_29) (by decide) (by decide) (by decide) (by decide)
    obtain ⟨rfl, Nq25, Kbp, aap, acp, BVp, ⟨gap, Bap⟩, ⟨gcp, Bcp⟩, r1p, r2p, r3p⟩ := hQ25
    have N25 := Fr.app N23 Nq25
    refine own_go (t' := T25.setTop (mkF m 32 #[.val (.int p0), .val (.int p1), .val (.int (1 : Int32)), .val (.ref t), .unset, .unset] [(.ref bp)])) st25 ?_
    have Zbp2 : n0 ≤ T25.heap.size := Nat.le_trans Zbp Kbp.1
    have TVkp := own_TV_keep TVep Kbp (own_nin1 (by omega))
    have aR_kp := own_Ar_keep Kbp (own_nin1 (by omega)) aR_ep
    have aO_kp := own_Ar_keep Kbp (own_nin1 (by omega)) aO_ep
    have aS_kp := own_Ar_keep Kbp (own_nin1 (by omega)) aS_ep
    have aF_kp := own_Ar_keep Kbp (own_nin1 (by omega)) aF_ep
    have aA_kp := own_Ar_keep Kbp (own_nin1 (by omega)) aA_ep
    have aC_kp := own_Ar_keep Kbp (own_nin1 (by omega)) aC_ep
    refine own_go (t' := T25.setTop (mkF m 34 #[.val (.int p0), .val (.int p1), .val (.int (1 : Int32)), .val (.ref t), .val (.ref bp), .unset] [])) (fun _ k_ => XS.astore X25.here hx rfl (Jvm.hb hby at_32) rfl rfl (l' := #[.val (.int p0), .val (.int p1), .val (.int (1 : Int32)), .val (.ref t), .val (.ref bp), .unset]) rfl k_) ?_
    obtain ⟨T26, h26, X26, e26, E26, A26, D26, -, st26⟩ := newO X25 hx hZ hown (hw _ (List.mem_of_getElem? (i := 26) rfl)) (hw _ (List.mem_of_getElem? (i := 27) rfl)) (hw _ (List.mem_of_getElem? (i := 28) rfl)) (rfl : T25.heap = T25.heap) (g := (mkF m 34 #[.val (.int p0), .val (.int p1), .val (.int (1 : Int32)), .val (.ref t), .val (.ref bp), .unset] [])) rfl (Jvm.hb hby at_34) (by decide) (by decide)
    obtain ⟨bq, g26⟩ : ∃ z, z = T25.heap.size := ⟨_, rfl⟩
    rw [← g26] at A26 D26 st26
    refine own_go (t' := T26.setTop (mkF m 37 #[.val (.int p0), .val (.int p1), .val (.int (1 : Int32)), .val (.ref t), .val (.ref bp), .unset] [(.ref bq)])) st26 ?_
    have TVeq := own_TV_ext TVkp E26
    have aR_eq := own_Ar_ext E26 aR_kp
    have aO_eq := own_Ar_ext E26 aO_kp
    have aS_eq := own_Ar_ext E26 aS_kp
    have aF_eq := own_Ar_ext E26 aF_kp
    have aA_eq := own_Ar_ext E26 aA_kp
    have aC_eq := own_Ar_ext E26 aC_kp
    have BVpe := own_BV_ext BVp E26
    have Bape := own_Ar_ext E26 Bap
    have Bcpe := own_Ar_ext E26 Bcp
    have BVdq : own_BV Z h26 bq (.double 0) (.int 0) (.double 0) .null .null (.int 0) := ⟨A26, D26 (ty := .double) (Or.inr (hw _ (List.mem_of_getElem? (i := 42) rfl))) (by decide), D26 (ty := .boolean) (Or.inr (hw _ (List.mem_of_getElem? (i := 44) rfl))) (by decide), D26 (ty := .double) (Or.inl (hw _ (List.mem_of_getElem? (i := 34) rfl))) (by decide), D26 (ty := (.array .int)) (Or.inl (hw _ (List.mem_of_getElem? (i := 36) rfl))) (by decide), D26 (ty := (.array .double)) (Or.inl (hw _ (List.mem_of_getElem? (i := 39) rfl))) (by decide), D26 (ty := .int) (Or.inl (hw _ (List.mem_of_getElem? (i := 51) rfl))) (by decide)⟩
    have Zbq : n0 ≤ h26.size := Nat.le_trans Zbp2 E26.1
    have hlbq := own_exlt BVdq.1
    have gbq : n0 ≤ bq := by omega
    refine own_go (t' := T26.setTop (mkF m 38 #[.val (.int p0), .val (.int p1), .val (.int (1 : Int32)), .val (.ref t), .val (.ref bp), .unset] [(.ref bq), (.ref bq)])) (fun _ k_ => XS.dup X26.here hx rfl (Jvm.hb hby at_37) rfl rfl k_) ?_
    refine own_go (t' := T26.setTop (mkF m 39 #[.val (.int p0), .val (.int p1), .val (.int (1 : Int32)), .val (.ref t), .val (.ref bp), .unset] [(.double (4607182418800017408 : UInt64)), (.ref bq), (.ref bq)])) (fun _ k_ => XS.dconst1 X26.here hx rfl (Jvm.hb hby at_38) rfl k_) ?_
    refine own_go (t' := T26.setTop (mkF m 40 #[.val (.int p0), .val (.int p1), .val (.int (1 : Int32)), .val (.ref t), .val (.ref bp), .unset] [(.int (1 : Int32)), (.double (4607182418800017408 : UInt64)), (.ref bq), (.ref bq)])) (fun _ k_ => XS.iloadN X26.here hx rfl (Jvm.hb hby at_39) rfl k_) ?_
    refine own_go (t' := T26.setTop (mkF m 47 #[.val (.int p0), .val (.int p1), .val (.int (1 : Int32)), .val (.ref t), .val (.ref bp), .unset] [(.double (4607182418800017408 : UInt64)), (.ref bq), (.ref bq)])) (fun _ k_ => XS.ifYes X26.here hx rfl (pc0 := 40) (pc' := 47) rfl (Jvm.hb hby at_40) rfl ((if0 _ _).trans (feq (by decide)).2) (by decide) (by decide) k_) ?_
    refine own_go (t' := T26.setTop (mkF m 48 #[.val (.int p0), .val (.int p1), .val (.int (1 : Int32)), .val (.ref t), .val (.ref bp), .unset] [(.int (0 : Int32)), (.double (4607182418800017408 : UInt64)), (.ref bq), (.ref bq)])) (fun _ k_ => XS.iconst X26.here hx rfl (Jvm.hb hby at_47) k_) ?_
    obtain ⟨T27, L27, v27, X27, hQ27, st27⟩ := own_special X26 hx hZ (y := (⟨"com/example/brisk_rules/briskrules/GroundRule$Builder", "<init>", "(DZ)V"⟩ : MethodName)) rfl hown (hw _ (List.mem_of_getElem? (i := 29) rfl)) (hw _ (List.mem_of_getElem? (i := 30) rfl)) (hw _ (List.mem_of_getElem? (i := 31) rfl)) (hw _ (List.mem_of_getElem? (i := 28) rfl)) (by decide) (rm_binit l Z a0 hw [] bq (0 : Int32) h26 n0 Zbq BVdq (by decide) gbq) e26 (g := (mkF m 48 #[.val (.int p0), .val (.int p1), .val (.int (1 : Int32)), .val (.ref t), .val (.ref bp), .unset] [(.int (0 : Int32)), (.double (4607182418800017408 : UInt64)), (.ref bq), (.ref bq)])) rfl (by rw [hml]; rfl) (argsL := [(.double (4607182418800017408 : UInt64)), (.int (0 : Int32))]) (rest := [(.ref bq)]) (lenOf pd_d3 rfl) rfl (W := 1) (by show 2 * 0 + _ ≤ _; exact Nat.le_of_eq rfl) (Jvm.hb hby at_48) (by decide) (by decide) (by decide) (by decide)
    obtain ⟨rfl, Nq27, Kbq, aaq, acq, BVq, ⟨gaq, Baq⟩, ⟨gcq, Bcq⟩, r1q, r2q, r3q⟩ := hQ27
    have N27 := Fr.app N25 Nq27
    refine own_go (t' := T27.setTop (mkF m 51 #[.val (.int p0), .val (.int p1), .val (.int (1 : Int32)), .val (.ref t), .val (.ref bp), .unset] [(.ref bq)])) st27 ?_
    have Zbq2 : n0 ≤ T27.heap.size := Nat.le_trans Zbq Kbq.1
    have TVkq := own_TV_keep TVeq Kbq (own_nin1 (by omega))
    have aR_kq := own_Ar_keep Kbq (own_nin1 (by omega)) aR_eq
    have aO_kq := own_Ar_keep Kbq (own_nin1 (by omega)) aO_eq
    have aS_kq := own_Ar_keep Kbq (own_nin1 (by omega)) aS_eq
    have aF_kq := own_Ar_keep Kbq (own_nin1 (by omega)) aF_eq
    have aA_kq := own_Ar_keep Kbq (own_nin1 (by omega)) aA_eq
    have aC_kq := own_Ar_keep Kbq (own_nin1 (by omega)) aC_eq
    have BVpk := own_BV_keep BVpe Kbq (own_nin1 (by omega))
    have Bapk := own_Ar_keep Kbq (own_nin1 (by omega)) Bape
    have Bcpk := own_Ar_keep Kbq (own_nin1 (by omega)) Bcpe
    refine own_go (t' := T27.setTop (mkF m 53 #[.val (.int p0), .val (.int p1), .val (.int (1 : Int32)), .val (.ref t), .val (.ref bp), .val (.ref bq)] [])) (fun _ k_ => XS.astore X27.here hx rfl (Jvm.hb hby at_51) rfl rfl (l' := #[.val (.int p0), .val (.int p1), .val (.int (1 : Int32)), .val (.ref t), .val (.ref bp), .val (.ref bq)]) rfl k_) ?_
    have J97 : ∀ (Tj28 : State) (lj28 : List Loc) (hj28 : Heap) (k i1 i2 i3 : Nat) (at0 : Nat → Int32) (gpa gpc gqa gqc : Nat → Value), Stand p l e room_1 s m #[(.int p0), (.int p1)] below meth c Tj28 lj28 13 168 → Tj28.heap = hj28 → Fr n0 lj28 → (k ≤ 2) → (own_TV Z hj28 t (.ref aR) (.ref aO) (.ref aS) (.ref aF) (.ref aA) (.ref aC) (.long (9223372036854775807 : Int64)) (.int (Int32.ofNat 0)) (.int (Int32.ofNat 0)) (.long 0)) → (own_Ar Z hj28 aR .long 64 (fun _ => .long 0)) → (own_Ar Z hj28 aO .int 16 (fun _ => .int 0)) → (own_Ar Z hj28 aS .long 32 (fun _ => .long 0)) → (own_Ar Z hj28 aF .long 8 (fun _ => .long 0)) → (own_Ar Z hj28 aA .int 4 (fun _ => .int 0)) → (own_Ar Z hj28 aC .int 4 (fun _ => .int 0)) → (own_BV Z hj28 bp (.double (4607182418800017408 : UInt64)) (.int (1 : Int32)) (.double (4607182418800017408 : UInt64)) (.ref aap) (.ref acp) (.int (Int32.ofNat k))) → (own_Ar Z hj28 aap .int 4 gpa) → (own_Ar Z hj28 acp .double 4 gpc) → (own_BV Z hj28 bq (.double (4607182418800017408 : UInt64)) (.int (0 : Int32)) (.double (4607182418800017408 : UInt64)) (.ref aaq) (.ref acq) (.int (Int32.ofNat k))) → (own_Ar Z hj28 aaq .int 4 gqa) → (own_Ar Z hj28 acq .double 4 gqc) → (∀ j, j < k → gpa j = .int (at0 j)) → (∀ j, j < k → gpc j = .double (13830554455654793216 : UInt64)) → (∀ j, j < k → gqa j = .int (at0 j)) → (∀ j, j < k → gqc j = .double (13830554455654793216 : UInt64)) → (∀ j, j < k + 1 → j + 1 < k + 1 → own_ua at0 k 2 j < own_ua at0 k 2 (j + 1)) → (∀ j, j < k + 1 → (own_lit (own_ua at0 k 2 j)).toInt32 = -1) → (own_Fit k at0 (1 : Int32) (0 : Int32) i1 i2 i3) → (n0 ≤ hj28.size) → own_Ends p.tables e below (own_F s (fun v h L => v = some (.int 1) ∧ Fr n0 L) room_1.cells room_1.slots) (Tj28.setTop (mkF m 97 #[.val (.int p0), .val (.int p1), .val (.int (1 : Int32)), .val (.ref t), .val (.ref bp), .val (.ref bq)] [])) := by
      intro Tj28 lj28 hj28 k i1 i2 i3 at0 gpa gpc gqa gqc Xj28 ej28 Nj28 hk2 TV0 aR0 aO0 aS0 aF0 aA0 aC0 BP0 Pa0 Pc0 BQ0 Qa0 Qc0 hpa hpc hqa hqc asc hla hfit Zj
      obtain ⟨⟨hi1, hi2, hi3, h21, h31, h32⟩, hf1, hf2, hf3⟩ := hfit
      have ua : ∀ j, j < k → own_ua at0 k 2 j = at0 j := fun j hj0 => if_neg (by omega)
      have asc1 : ∀ j, j < k → j + 1 < k → at0 j < at0 (j + 1) := fun j h1 h2 => by have := asc j (by omega) (by omega); rw [ua j h1, ua (j + 1) h2] at this; exact this
      have hla1 : ∀ j, j < k → (own_lit (at0 j)).toInt32 = -1 := fun j h1 => by have := hla j (by omega); rw [ua j h1] at this; exact this
      refine own_go (t' := Tj28.setTop (mkF m 98 #[.val (.int p0), .val (.int p1), .val (.int (1 : Int32)), .val (.ref t), .val (.ref bp), .val (.ref bq)] [(.ref t)])) (fun _ k_ => XS.aloadN Xj28.here hx rfl (Jvm.hb hby at_97) rfl rfl k_) ?_
      refine own_go (t' := Tj28.setTop (mkF m 100 #[.val (.int p0), .val (.int p1), .val (.int (1 : Int32)), .val (.ref t), .val (.ref bp), .val (.ref bq)] [(.ref bp), (.ref t)])) (fun _ k_ => XS.aload Xj28.here hx rfl (Jvm.hb hby at_98) rfl rfl k_) ?_
      obtain ⟨T29, L29, v29, X29, hQ29, st29⟩ := own_virtual Xj28 hx hZ (y := (⟨"com/example/brisk_rules/briskrules/GroundRuleTable", "add", "(Lcom/example/brisk_rules/briskrules/GroundRule$Builder;)V"⟩ : MethodName)) hown (hw _ (List.mem_of_getElem? (i := 53) rfl)) (hw _ (List.mem_of_getElem? (i := 54) rfl)) (hw _ (List.mem_of_getElem? (i := 56) rfl)) (hw _ (List.mem_of_getElem? (i := 55) rfl)) (hw _ (List.mem_of_getElem? (i := 57) rfl)) (hw _ (List.mem_of_getElem? (i := 2) rfl)) (by decide) TV0.1 (rm_add l Z a0 hw [] t aR aO aS aF aA aC bp aap acp 0 0 k 0 (1 : Int32) _ _ _ gpa gpc at0 _ _ _ i1 hj28 n0 Zj TV0 BP0 aF0 aA0 aC0 Pa0 Pc0 (by omega) gt (by omega) hpa hpc asc1 aR0 aO0 aS0 hla1 (by decide) (by decide) (by omega) hi1 rfl (Or.inl hf1)) ej28 (g := (mkF m 100 #[.val (.int p0), .val (.int p1), .val (.int (1 : Int32)), .val (.ref t), .val (.ref bp), .val (.ref bq)] [(.ref bp), (.ref t)])) rfl (by rw [hml]; rfl) (argsL := [(.ref bp)]) (rest := []) (lenOf pd_d5 rfl) rfl (W := 0) (by show 2 * 0 + _ ≤ _; exact Nat.le_of_eq rfl) (Jvm.hb hby at_100) (by decide) (by decide) (by decide) (by decide)
      obtain ⟨rfl, Nq29, Ka, TVa, fRa, fFa, fAa, fCa, AFa, AAa, ACa, ARa, ra1, ra2, AOa, ASa⟩ := hQ29
      have N29 := Fr.app Nj28 Nq29
      refine own_go (t' := T29.setTop (mkF m 103 #[.val (.int p0), .val (.int p1), .val (.int (1 : Int32)), .val (.ref t), .val (.ref bp), .val (.ref bq)] [])) st29 ?_
      have Za : n0 ≤ T29.heap.size := Nat.le_trans Zj Ka.1
      have BQa := own_BV_keep BQ0 Ka (own_nin7 (by omega))
      have Qaa := own_Ar_keep Ka (own_nin7 (by omega)) Qa0
      have Qca := own_Ar_keep Ka (own_nin7 (by omega)) Qc0
      refine own_go (t' := T29.setTop (mkF m 104 #[.val (.int p0), .val (.int p1), .val (.int (1 : Int32)), .val (.ref t), .val (.ref bp), .val (.ref bq)] [(.ref t)])) (fun _ k_ => XS.aloadN X29.here hx rfl (Jvm.hb hby at_103) rfl rfl k_) ?_
      refine own_go (t' := T29.setTop (mkF m 106 #[.val (.int p0), .val (.int p1), .val (.int (1 : Int32)), .val (.ref t), .val (.ref bp), .val (.ref bq)] [(.ref bq), (.ref t)])) (fun _ k_ => XS.aload X29.here hx rfl (Jvm.hb hby at_104) rfl rfl k_) ?_
      obtain ⟨T30, L30, v30, X30, hQ30, st30⟩ := own_virtual X29 hx hZ (y := (⟨"com/example/brisk_rules/briskrules/GroundRuleTable", "add", "(Lcom/example/brisk_rules/briskrules/GroundRule$Builder;)V"⟩ : MethodName)) hown (hw _ (List.mem_of_getElem? (i := 53) rfl)) (hw _ (List.mem_of_getElem? (i := 54) rfl)) (hw _ (List.mem_of_getElem? (i := 56) rfl)) (hw _ (List.mem_of_getElem? (i := 55) rfl)) (hw _ (List.mem_of_getElem? (i := 57) rfl)) (hw _ (List.mem_of_getElem? (i := 2) rfl)) (by decide) TVa.1 (rm_add l Z a0 hw [] t aR aO aS aF aA aC bq aaq acq 1 (0 + (4 + k)) k _ (0 : Int32) _ _ _ gqa gqc at0 _ _ _ i2 T29.heap n0 Za TVa BQa AFa AAa ACa Qaa Qca (by omega) gt (by omega) hqa hqc asc1 ARa AOa ASa hla1 (by decide) (by decide) (by omega) hi2 (if_neg h21) (Or.inl hf2)) (rfl : T29.heap = T29.heap) (g := (mkF m 106 #[.val (.int p0), .val (.int p1), .val (.int (1 : Int32)), .val (.ref t), .val (.ref bp), .val (.ref bq)] [(.ref bq), (.ref t)])) rfl (by rw [hml]; rfl) (argsL := [(.ref bq)]) (rest := []) (lenOf pd_d5 rfl) rfl (W := 0) (by show 2 * 0 + _ ≤ _; exact Nat.le_of_eq rfl) (Jvm.hb hby at_106) (by decide) (by decide) (by decide) (by decide)
      obtain ⟨rfl, Nq30, Kb, TVb, fRb, fFb, fAb, fCb, AFb, AAb, ACb, ARb, rb1, rb2, AOb, ASb⟩ := hQ30
      have N30 := Fr.app N29 Nq30
      refine own_go (t' := T30.setTop (mkF m 109 #[.val (.int p0), .val (.int p1), .val (.int (1 : Int32)), .val (.ref t), .val (.ref bp), .val (.ref bq)] [])) st30 ?_
      have Zb : n0 ≤ T30.heap.size := Nat.le_trans Za Kb.1
      have BQb := own_BV_keep BQa Kb (own_nin7 (by omega))
      have Qab := own_Ar_keep Kb (own_nin7 (by omega)) Qaa
      have Qcb := own_Ar_keep Kb (own_nin7 (by omega)) Qca
      refine own_go (t' := T30.setTop (mkF m 111 #[.val (.int p0), .val (.int p1), .val (.int (1 : Int32)), .val (.ref t), .val (.ref bp), .val (.ref bq)] [(.ref bq)])) (fun _ k_ => XS.aload X30.here hx rfl (Jvm.hb hby at_109) rfl rfl k_) ?_
      refine own_go (t' := T30.setTop (mkF m 112 #[.val (.int p0), .val (.int p1), .val (.int (1 : Int32)), .val (.ref t), .val (.ref bp), .val (.ref bq)] [(.int (2 : Int32)), (.ref bq)])) (fun _ k_ => XS.iconst X30.here hx rfl (Jvm.hb hby at_111) k_) ?_
      refine own_go (t' := T30.setTop (mkF m 113 #[.val (.int p0), .val (.int p1), .val (.int (1 : Int32)), .val (.ref t), .val (.ref bp), .val (.ref bq)] [(.int (0 : Int32)), (.int (2 : Int32)), (.ref bq)])) (fun _ k_ => XS.iconst X30.here hx rfl (Jvm.hb hby at_112) k_) ?_
      obtain ⟨T31, L31, v31, X31, hQ31, st31⟩ := own_virtual X30 hx hZ (y := (⟨"com/example/brisk_rules/briskrules/GroundRule$Builder", "head", "(IZ)Lcom/example/brisk_rules/briskrules/GroundRule$Builder;"⟩ : MethodName)) hown (hw _ (List.mem_of_getElem? (i := 45) rfl)) (hw _ (List.mem_of_getElem? (i := 46) rfl)) (hw _ (List.mem_of_getElem? (i := 48) rfl)) (hw _ (List.mem_of_getElem? (i := 47) rfl)) (hw _ (List.mem_of_getElem? (i := 49) rfl)) (hw _ (List.mem_of_getElem? (i := 28) rfl)) (by decide) BQb.1 (rm_head l Z a0 hw [] bq aaq acq k 2 (0 : Int32) gqa gqc T30.heap n0 Zb BQb Qab Qcb (by decide) (by omega) (by omega) gbq) (rfl : T30.heap = T30.heap) (g := (mkF m 113 #[.val (.int p0), .val (.int p1), .val (.int (1 : Int32)), .val (.ref t), .val (.ref bp), .val (.ref bq)] [(.int (0 : Int32)), (.int (2 : Int32)), (.ref bq)])) rfl (by rw [hml]; rfl) (argsL := [(.int (2 : Int32)), (.int (0 : Int32))]) (rest := []) (lenOf pd_d4 rfl) rfl (W := 0) (by show 2 * 0 + _ ≤ _; exact Nat.le_of_eq rfl) (Jvm.hb hby at_113) (by decide) (by decide) (by decide) (by decide)
      obtain ⟨rfl, Nq31, Kc, BQc, Qac, Qcc⟩ := hQ31
      have N31 := Fr.app N30 Nq31
      refine own_go (t' := T31.setTop (mkF m 116 #[.val (.int p0), .val (.int p1), .val (.int (1 : Int32)), .val (.ref t), .val (.ref bp), .val (.ref bq)] [(.ref bq)])) st31 ?_
      refine own_go (t' := T31.setTop (mkF m 117 #[.val (.int p0), .val (.int p1), .val (.int (1 : Int32)), .val (.ref t), .val (.ref bp), .val (.ref bq)] [])) (fun _ k_ => XS.pop X31.here hx rfl (Jvm.hb hby at_116) rfl rfl k_) ?_
      refine own_go (t' := T31.setTop (mkF m 118 #[.val (.int p0), .val (.int p1), .val (.int (1 : Int32)), .val (.ref t), .val (.ref bp), .val (.ref bq)] [(.ref t)])) (fun _ k_ => XS.aloadN X31.here hx rfl (Jvm.hb hby at_117) rfl rfl k_) ?_
      refine own_go (t' := T31.setTop (mkF m 120 #[.val (.int p0), .val (.int p1), .val (.int (1 : Int32)), .val (.ref t), .val (.ref bp), .val (.ref bq)] [(.ref bq), (.ref t)])) (fun _ k_ => XS.aload X31.here hx rfl (Jvm.hb hby at_118) rfl rfl k_) ?_
      have Zc : n0 ≤ T31.heap.size := Nat.le_trans Zb Kc.1
      have TVc := own_TV_keep TVb Kc (own_nin3 (by omega))
      have AFc := own_Ar_keep Kc (own_nin3 (by omega)) AFb
      have AAc := own_Ar_keep Kc (own_nin3 (by omega)) AAb
      have ACc := own_Ar_keep Kc (own_nin3 (by omega)) ACb
      have ARc := own_Ar_keep Kc (own_nin3 (by omega)) ARb
      have AOc := own_Ar_keep Kc (own_nin3 (by omega)) AOb
      have ASc := own_Ar_keep Kc (own_nin3 (by omega)) ASb
      have hs3 : own_hv (k + 1) (own_ua at0 k 2) (0 : Int32) &&& 31 = Int32.ofNat i3 ∨ ∃ (i1' : Nat) (v1 : Int64), i1' < 32 ∧ own_hv (k + 1) (own_ua at0 k 2) (0 : Int32) &&& 31 = Int32.ofNat i1' ∧ own_upd (own_upd (fun _ => .long 0) i1 (.long (own_ent (own_hv k at0 (1 : Int32)) 0))) i2 (.long (own_ent (own_hv k at0 (0 : Int32)) (0 + (4 + k)))) i1' = .long v1 ∧ v1 ≠ 0 ∧ own_hi v1 ≠ own_hv (k + 1) (own_ua at0 k 2) (0 : Int32) ∧ (Int32.ofNat i1' + 1) &&& 31 = Int32.ofNat i3 := by
        rcases hf3 with q | ⟨q1, q2, q3, q4⟩
        · exact Or.inl q
        · exact Or.inr ⟨i2, _, hi2, q1, if_pos rfl, q2, q3, q4⟩
      obtain ⟨T32, L32, v32, X32, hQ32, st32⟩ := own_virtual X31 hx hZ (y := (⟨"com/example/brisk_rules/briskrules/GroundRuleTable", "add", "(Lcom/example/brisk_rules/briskrules/GroundRule$Builder;)V"⟩ : MethodName)) hown (hw _ (List.mem_of_getElem? (i := 53) rfl)) (hw _ (List.mem_of_getElem? (i := 54) rfl)) (hw _ (List.mem_of_getElem? (i := 56) rfl)) (hw _ (List.mem_of_getElem? (i := 55) rfl)) (hw _ (List.mem_of_getElem? (i := 57) rfl)) (hw _ (List.mem_of_getElem? (i := 2) rfl)) (by decide) TVc.1 (rm_add l Z a0 hw [] t aR aO aS aF aA aC bq aaq acq 2 (0 + (4 + k) + (4 + k)) (k + 1) _ (0 : Int32) _ _ _ _ _ (own_ua at0 k 2) _ _ _ i3 T31.heap n0 Zc TVc BQc AFc AAc ACc Qac Qcc (by omega) gt (by omega) (own_upd_at 2 hqa) (own_upd_c hqc) asc ARc AOc ASc hla (by decide) (by decide) (by omega) hi3 ((if_neg h32).trans (if_neg h31)) hs3) (rfl : T31.heap = T31.heap) (g := (mkF m 120 #[.val (.int p0), .val (.int p1), .val (.int (1 : Int32)), .val (.ref t), .val (.ref bp), .val (.ref bq)] [(.ref bq), (.ref t)])) rfl (by rw [hml]; rfl) (argsL := [(.ref bq)]) (rest := []) (lenOf pd_d5 rfl) rfl (W := 0) (by show 2 * 0 + _ ≤ _; exact Nat.le_of_eq rfl) (Jvm.hb hby at_120) (by decide) (by decide) (by decide) (by decide)
      obtain ⟨rfl, Nq32, Kd, TVd3, fRd, fFd, fAd, fCd, AFd, AAd, ACd, ARd, rd1, rd2, AOd, ASd⟩ := hQ32
      have N32 := Fr.app N31 Nq32
      refine own_go (t' := T32.setTop (mkF m 123 #[.val (.int p0), .val (.int p1), .val (.int (1 : Int32)), .val (.ref t), .val (.ref bp), .val (.ref bq)] [])) st32 ?_
      have Zd : n0 ≤ T32.heap.size := Nat.le_trans Zc Kd.1
      refine own_go (t' := T32.setTop (mkF m 124 #[.val (.int p0), .val (.int p1), .val (.int (1 : Int32)), .val (.ref t), .val (.ref bp), .val (.ref bq)] [(.ref t)])) (fun _ k_ => XS.aloadN X32.here hx rfl (Jvm.hb hby at_123) rfl rfl k_) ?_
      obtain ⟨T33, L33, v33, X33, hQ33, st33⟩ := own_virtual X32 hx hZ (y := (⟨"com/example/brisk_rules/briskrules/GroundRuleTable", "size", "()I"⟩ : MethodName)) hown (hw _ (List.mem_of_getElem? (i := 130) rfl)) (hw _ (List.mem_of_getElem? (i := 131) rfl)) (hw _ (List.mem_of_getElem? (i := 133) rfl)) (hw _ (List.mem_of_getElem? (i := 132) rfl)) (hw _ (List.mem_of_getElem? (i := 134) rfl)) (hw _ (List.mem_of_getElem? (i := 2) rfl)) (by decide) TVd3.1 (rm_tsize l Z a0 hw [] t _ T32.heap n0 Zd (TVd3.2.2.2.2.2.2.2.2.1)) (rfl : T32.heap = T32.heap) (g := (mkF m 124 #[.val (.int p0), .val (.int p1), .val (.int (1 : Int32)), .val (.ref t), .val (.ref bp), .val (.ref bq)] [(.ref t)])) rfl (by rw [hml]; rfl) (argsL := []) (rest := []) (lenOf pd_d18 rfl) rfl (W := 0) (by show 2 * 0 + _ ≤ _; exact Nat.le_of_eq rfl) (Jvm.hb hby at_124) (by decide) (by decide) (by decide) (by decide)
      obtain ⟨rfl, Nq33, e33⟩ := hQ33
      have N33 := Fr.app N32 Nq33
      refine own_go (t' := T33.setTop (mkF m 127 #[.val (.int p0), .val (.int p1), .val (.int (1 : Int32)), .val (.ref t), .val (.ref bp), .val (.ref bq)] [(.int (Int32.ofNat 3))])) st33 ?_
      refine own_go (t' := T33.setTop (mkF m 128 #[.val (.int p0), .val (.int p1), .val (.int (1 : Int32)), .val (.ref t), .val (.ref bp), .val (.ref bq)] [(.int (3 : Int32)), (.int (Int32.ofNat 3))])) (fun _ k_ => XS.iconst X33.here hx rfl (Jvm.hb hby at_127) k_) ?_
      refine own_go (t' := T33.setTop (mkF m 131 #[.val (.int p0), .val (.int p1), .val (.int (1 : Int32)), .val (.ref t), .val (.ref bp), .val (.ref bq)] [])) (fun _ k_ => XS.icmpNo X33.here hx rfl (Jvm.hb hby at_128) rfl (teq rfl).2 k_) ?_
      refine own_go (t' := T33.setTop (mkF m 132 #[.val (.int p0), .val (.int p1), .val (.int (1 : Int32)), .val (.ref t), .val (.ref bp), .val (.ref bq)] [(.ref t)])) (fun _ k_ => XS.aloadN X33.here hx rfl (Jvm.hb hby at_131) rfl rfl k_) ?_
      refine own_go (t' := T33.setTop (mkF m 133 #[.val (.int p0), .val (.int p1), .val (.int (1 : Int32)), .val (.ref t), .val (.ref bp), .val (.ref bq)] [(.int (0 : Int32)), (.ref t)])) (fun _ k_ => XS.iconst X33.here hx rfl (Jvm.hb hby at_132) k_) ?_
      obtain ⟨T34, L34, v34, X34, hQ34, st34⟩ := own_virtual X33 hx hZ (y := (⟨"com/example/brisk_rules/briskrules/GroundRuleTable", "isSquared", "(I)Z"⟩ : MethodName)) hown (hw _ (List.mem_of_getElem? (i := 135) rfl)) (hw _ (List.mem_of_getElem? (i := 136) rfl)) (hw _ (List.mem_of_getElem? (i := 138) rfl)) (hw _ (List.mem_of_getElem? (i := 137) rfl)) (hw _ (List.mem_of_getElem? (i := 139) rfl)) (hw _ (List.mem_of_getElem? (i := 2) rfl)) (by decide) TVd3.1 (rm_tisq l Z a0 hw [] t aR aO 0 0 fRd _ (own_f3 k (1 : Int32)) T32.heap n0 Zd (TVd3.2.1) (TVd3.2.2.1) ARd AOd (by decide) rfl (by omega) ((rd1 3 (by omega)).trans ((rb1 3 (by omega)).trans ra2))) e33 (g := (mkF m 133 #[.val (.int p0), .val (.int p1), .val (.int (1 : Int32)), .val (.ref t), .val (.ref bp), .val (.ref bq)] [(.int (0 : Int32)), (.ref t)])) rfl (by rw [hml]; rfl) (argsL := [(.int (0 : Int32))]) (rest := []) (lenOf pd_d19 rfl) rfl (W := 0) (by show 2 * 0 + _ ≤ _; exact Nat.le_of_eq rfl) (Jvm.hb hby at_133) (by decide) (by decide) (by decide) (by decide)
      obtain ⟨rfl, Nq34, e34⟩ := hQ34
      have N34 := Fr.app N33 Nq34
      refine own_go (t' := T34.setTop (mkF m 136 #[.val (.int p0), .val (.int p1), .val (.int (1 : Int32)), .val (.ref t), .val (.ref bp), .val (.ref bq)] [(.int (if own_f3 k (1 : Int32) &&& (1 : Int64) = 0 then (0 : Int32) else 1))])) st34 ?_
      rw [own_f3_bit (k := k) (by omega) (show (1 : Int32) = 0 ∨ (1 : Int32) = 1 by decide)]
      refine own_go (t' := T34.setTop (mkF m 137 #[.val (.int p0), .val (.int p1), .val (.int (1 : Int32)), .val (.ref t), .val (.ref bp), .val (.ref bq)] [(.int (1 : Int32)), (.int (1 : Int32))])) (fun _ k_ => XS.iloadN X34.here hx rfl (Jvm.hb hby at_136) rfl k_) ?_
      refine own_go (t' := T34.setTop (mkF m 140 #[.val (.int p0), .val (.int p1), .val (.int (1 : Int32)), .val (.ref t), .val (.ref bp), .val (.ref bq)] [])) (fun _ k_ => XS.icmpNo X34.here hx rfl (Jvm.hb hby at_137) rfl (teq rfl).2 k_) ?_
      refine own_go (t' := T34.setTop (mkF m 141 #[.val (.int p0), .val (.int p1), .val (.int (1 : Int32)), .val (.ref t), .val (.ref bp), .val (.ref bq)] [(.ref t)])) (fun _ k_ => XS.aloadN X34.here hx rfl (Jvm.hb hby at_140) rfl rfl k_) ?_
      refine own_go (t' := T34.setTop (mkF m 142 #[.val (.int p0), .val (.int p1), .val (.int (1 : Int32)), .val (.ref t), .val (.ref bp), .val (.ref bq)] [(.int (1 : Int32)), (.ref t)])) (fun _ k_ => XS.iconst X34.here hx rfl (Jvm.hb hby at_141) k_) ?_
      obtain ⟨T35, L35, v35, X35, hQ35, st35⟩ := own_virtual X34 hx hZ (y := (⟨"com/example/brisk_rules/briskrules/GroundRuleTable", "isSquared", "(I)Z"⟩ : MethodName)) hown (hw _ (List.mem_of_getElem? (i := 135) rfl)) (hw _ (List.mem_of_getElem? (i := 136) rfl)) (hw _ (List.mem_of_getElem? (i := 138) rfl)) (hw _ (List.mem_of_getElem? (i := 137) rfl)) (hw _ (List.mem_of_getElem? (i := 139) rfl)) (hw _ (List.mem_of_getElem? (i := 2) rfl)) (by decide) TVd3.1 (rm_tisq l Z a0 hw [] t aR aO 1 (0 + (4 + k)) fRd _ (own_f3 k (0 : Int32)) T32.heap n0 Zd (TVd3.2.1) (TVd3.2.2.1) ARd AOd (by decide) rfl (by omega) ((rd1 ((0 + (4 + k)) + 3) (by omega)).trans rb2)) e34 (g := (mkF m 142 #[.val (.int p0), .val (.int p1), .val (.int (1 : Int32)), .val (.ref t), .val (.ref bp), .val (.ref bq)] [(.int (1 : Int32)), (.ref t)])) rfl (by rw [hml]; rfl) (argsL := [(.int (1 : Int32))]) (rest := []) (lenOf pd_d19 rfl) rfl (W := 0) (by show 2 * 0 + _ ≤ _; exact Nat.le_of_eq rfl) (Jvm.hb hby at_142) (by decide) (by decide) (by decide) (by decide)
      obtain ⟨rfl, Nq35, e35⟩ := hQ35
      have N35 := Fr.app N34 Nq35
      refine own_go (t' := T35.setTop (mkF m 145 #[.val (.int p0), .val (.int p1), .val (.int (1 : Int32)), .val (.ref t), .val (.ref bp), .val (.ref bq)] [(.int (if own_f3 k (0 : Int32) &&& (1 : Int64) = 0 then (0 : Int32) else 1))])) st35 ?_
      rw [own_f3_bit (k := k) (by omega) (show (0 : Int32) = 0 ∨ (0 : Int32) = 1 by decide)]
      refine own_go (t' := T35.setTop (mkF m 146 #[.val (.int p0), .val (.int p1), .val (.int (1 : Int32)), .val (.ref t), .val (.ref bp), .val (.ref bq)] [(.int (1 : Int32)), (.int (0 : Int32))])) (fun _ k_ => XS.iloadN X35.here hx rfl (Jvm.hb hby at_145) rfl k_) ?_
      refine own_go (t' := T35.setTop (mkF m 153 #[.val (.int p0), .val (.int p1), .val (.int (1 : Int32)), .val (.ref t), .val (.ref bp), .val (.ref bq)] [(.int (0 : Int32))])) (fun _ k_ => XS.ifYes X35.here hx rfl (pc0 := 146) (pc' := 153) rfl (Jvm.hb hby at_146) rfl ((if0 _ _).trans (feq (by decide)).2) (by decide) (by decide) k_) ?_
      refine own_go (t' := T35.setTop (mkF m 154 #[.val (.int p0), .val (.int p1), .val (.int (1 : Int32)), .val (.ref t), .val (.ref bp), .val (.ref bq)] [(.int (0 : Int32)), (.int (0 : Int32))])) (fun _ k_ => XS.iconst X35.here hx rfl (Jvm.hb hby at_153) k_) ?_
      refine own_go (t' := T35.setTop (mkF m 157 #[.val (.int p0), .val (.int p1), .val (.int (1 : Int32)), .val (.ref t), .val (.ref bp), .val (.ref bq)] [])) (fun _ k_ => XS.icmpNo X35.here hx rfl (Jvm.hb hby at_154) rfl (teq rfl).2 k_) ?_
      refine own_go (t' := T35.setTop (mkF m 158 #[.val (.int p0), .val (.int p1), .val (.int (1 : Int32)), .val (.ref t), .val (.ref bp), .val (.ref bq)] [(.ref t)])) (fun _ k_ => XS.aloadN X35.here hx rfl (Jvm.hb hby at_157) rfl rfl k_) ?_
      refine own_go (t' := T35.setTop (mkF m 159 #[.val (.int p0), .val (.int p1), .val (.int (1 : Int32)), .val (.ref t), .val (.ref bp), .val (.ref bq)] [(.int (2 : Int32)), (.ref t)])) (fun _ k_ => XS.iconst X35.here hx rfl (Jvm.hb hby at_158) k_) ?_
      obtain ⟨T36, L36, v36, X36, hQ36, st36⟩ := own_virtual X35 hx hZ (y := (⟨"com/example/brisk_rules/briskrules/GroundRuleTable", "isSquared", "(I)Z"⟩ : MethodName)) hown (hw _ (List.mem_of_getElem? (i := 135) rfl)) (hw _ (List.mem_of_getElem? (i := 136) rfl)) (hw _ (List.mem_of_getElem? (i := 138) rfl)) (hw _ (List.mem_of_getElem? (i := 137) rfl)) (hw _ (List.mem_of_getElem? (i := 139) rfl)) (hw _ (List.mem_of_getElem? (i := 2) rfl)) (by decide) TVd3.1 (rm_tisq l Z a0 hw [] t aR aO 2 (0 + (4 + k) + (4 + k)) fRd _ (own_f3 (k + 1) (0 : Int32)) T32.heap n0 Zd (TVd3.2.1) (TVd3.2.2.1) ARd AOd (by decide) rfl (by omega) (rd2)) e35 (g := (mkF m 159 #[.val (.int p0), .val (.int p1), .val (.int (1 : Int32)), .val (.ref t), .val (.ref bp), .val (.ref bq)] [(.int (2 : Int32)), (.ref t)])) rfl (by rw [hml]; rfl) (argsL := [(.int (2 : Int32))]) (rest := []) (lenOf pd_d19 rfl) rfl (W := 0) (by show 2 * 0 + _ ≤ _; exact Nat.le_of_eq rfl) (Jvm.hb hby at_159) (by decide) (by decide) (by decide) (by decide)
      obtain ⟨rfl, Nq36, e36⟩ := hQ36
      have N36 := Fr.app N35 Nq36
      refine own_go (t' := T36.setTop (mkF m 162 #[.val (.int p0), .val (.int p1), .val (.int (1 : Int32)), .val (.ref t), .val (.ref bp), .val (.ref bq)] [(.int (if own_f3 (k + 1) (0 : Int32) &&& (1 : Int64) = 0 then (0 : Int32) else 1))])) st36 ?_
      rw [own_f3_bit (k := (k + 1)) (by omega) (show (0 : Int32) = 0 ∨ (0 : Int32) = 1 by decide)]
      refine own_go (t' := T36.setTop (mkF m 163 #[.val (.int p0), .val (.int p1), .val (.int (1 : Int32)), .val (.ref t), .val (.ref bp), .val (.ref bq)] [(.int (1 : Int32)), (.int (0 : Int32))])) (fun _ k_ => XS.iloadN X36.here hx rfl (Jvm.hb hby at_162) rfl k_) ?_
      refine own_go (t' := T36.setTop (mkF m 170 #[.val (.int p0), .val (.int p1), .val (.int (1 : Int32)), .val (.ref t), .val (.ref bp), .val (.ref bq)] [(.int (0 : Int32))])) (fun _ k_ => XS.ifYes X36.here hx rfl (pc0 := 163) (pc' := 170) rfl (Jvm.hb hby at_163) rfl ((if0 _ _).trans (feq (by decide)).2) (by decide) (by decide) k_) ?_
      refine own_go (t' := T36.setTop (mkF m 171 #[.val (.int p0), .val (.int p1), .val (.int (1 : Int32)), .val (.ref t), .val (.ref bp), .val (.ref bq)] [(.int (0 : Int32)), (.int (0 : Int32))])) (fun _ k_ => XS.iconst X36.here hx rfl (Jvm.hb hby at_170) k_) ?_
      refine own_go (t' := T36.setTop (mkF m 174 #[.val (.int p0), .val (.int p1), .val (.int (1 : Int32)), .val (.ref t), .val (.ref bp), .val (.ref bq)] [])) (fun _ k_ => XS.icmpNo X36.here hx rfl (Jvm.hb hby at_171) rfl (teq rfl).2 k_) ?_
      refine own_go (t' := T36.setTop (mkF m 175 #[.val (.int p0), .val (.int p1), .val (.int (1 : Int32)), .val (.ref t), .val (.ref bp), .val (.ref bq)] [(.int (1 : Int32))])) (fun _ k_ => XS.iconst X36.here hx rfl (Jvm.hb hby at_174) k_) ?_
      refine own_go (t' := T36.setTop (mkF m 179 #[.val (.int p0), .val (.int p1), .val (.int (1 : Int32)), .val (.ref t), .val (.ref bp), .val (.ref bq)] [(.int (1 : Int32))])) (fun _ k_ => XS.goto X36.here hx rfl (pc0 := 175) (pc' := 179) rfl (Jvm.hb hby at_175) (by decide) (by decide) k_) ?_
      exact own_retZ X36 hx Bd.returns (BodyLoose.notSynchronized Bd) rfl (Jvm.hb hby at_179) (by decide) (by decide) ⟨rfl, N36⟩
    refine own_go (t' := T27.setTop (mkF m 54 #[.val (.int p0), .val (.int p1), .val (.int (1 : Int32)), .val (.ref t), .val (.ref bp), .val (.ref bq)] [(.int p1)])) (fun _ k_ => XS.iloadN X27.here hx rfl (Jvm.hb hby at_53) rfl k_) ?_
    refine own_go (t' := T27.setTop (mkF m 55 #[.val (.int p0), .val (.int p1), .val (.int (1 : Int32)), .val (.ref t), .val (.ref bp), .val (.ref bq)] [(.int (1 : Int32)), (.int p1)])) (fun _ k_ => XS.iconst X27.here hx rfl (Jvm.hb hby at_54) k_) ?_
    refine own_go (t' := T27.setTop (mkF m 56 #[.val (.int p0), .val (.int p1), .val (.int (1 : Int32)), .val (.ref t), .val (.ref bp), .val (.ref bq)] [(.int (p1 &&& (1 : Int32)))])) (fun _ k_ => XS.iand X27.here hx rfl (Jvm.hb hby at_55) rfl k_) ?_
    by_cases hb1 : (p1 &&& (1 : Int32)) = 0
    ·
      refine own_go (t' := T27.setTop (mkF m 75 #[.val (.int p0), .val (.int p1), .val (.int (1 : Int32)), .val (.ref t), .val (.ref bp), .val (.ref bq)] [])) (fun _ k_ => XS.ifYes X27.here hx rfl (pc0 := 56) (pc' := 75) rfl (Jvm.hb hby at_56) rfl ((if0 _ _).trans (teq hb1).1) (by decide) (by decide) k_) ?_
      refine own_go (t' := T27.setTop (mkF m 76 #[.val (.int p0), .val (.int p1), .val (.int (1 : Int32)), .val (.ref t), .val (.ref bp), .val (.ref bq)] [(.int p1)])) (fun _ k_ => XS.iloadN X27.here hx rfl (Jvm.hb hby at_75) rfl k_) ?_
      refine own_go (t' := T27.setTop (mkF m 77 #[.val (.int p0), .val (.int p1), .val (.int (1 : Int32)), .val (.ref t), .val (.ref bp), .val (.ref bq)] [(.int (2 : Int32)), (.int p1)])) (fun _ k_ => XS.iconst X27.here hx rfl (Jvm.hb hby at_76) k_) ?_
      refine own_go (t' := T27.setTop (mkF m 78 #[.val (.int p0), .val (.int p1), .val (.int (1 : Int32)), .val (.ref t), .val (.ref bp), .val (.ref bq)] [(.int (p1 &&& (2 : Int32)))])) (fun _ k_ => XS.iand X27.here hx rfl (Jvm.hb hby at_77) rfl k_) ?_
      by_cases hb2 : (p1 &&& (2 : Int32)) = 0
      ·
        refine own_go (t' := T27.setTop (mkF m 97 #[.val (.int p0), .val (.int p1), .val (.int (1 : Int32)), .val (.ref t), .val (.ref bp), .val (.ref bq)] [])) (fun _ k_ => XS.ifYes X27.here hx rfl (pc0 := 78) (pc' := 97) rfl (Jvm.hb hby at_78) rfl ((if0 _ _).trans (teq hb2).1) (by decide) (by decide) k_) ?_
        exact J97 T27 _ _ 0 10 16 15 (fun _ => (0 : Int32)) _ _ _ _ X27 (rfl : T27.heap = T27.heap) N27 (by decide) TVkq aR_kq aO_kq aS_kq aF_kq aA_kq aC_kq BVpk Bapk Bcpk BVq Baq Bcq (fun j hj0 => absurd hj0 (by omega)) (fun j hj0 => absurd hj0 (by omega)) (fun j hj0 => absurd hj0 (by omega)) (fun j hj0 => absurd hj0 (by omega)) (by decide +kernel) (by decide +kernel) (by unfold own_Fit; decide +kernel) Zbq2
      ·
        refine own_go (t' := T27.setTop (mkF m 81 #[.val (.int p0), .val (.int p1), .val (.int (1 : Int32)), .val (.ref t), .val (.ref bp), .val (.ref bq)] [])) (fun _ k_ => XS.ifNo X27.here hx rfl (Jvm.hb hby at_78) rfl ((if0 _ _).trans (feq hb2).1) k_) ?_
        refine own_go (t' := T27.setTop (mkF m 83 #[.val (.int p0), .val (.int p1), .val (.int (1 : Int32)), .val (.ref t), .val (.ref bp), .val (.ref bq)] [(.ref bp)])) (fun _ k_ => XS.aload X27.here hx rfl (Jvm.hb hby at_81) rfl rfl k_) ?_
        refine own_go (t' := T27.setTop (mkF m 84 #[.val (.int p0), .val (.int p1), .val (.int (1 : Int32)), .val (.ref t), .val (.ref bp), .val (.ref bq)] [(.int (1 : Int32)), (.ref bp)])) (fun _ k_ => XS.iconst X27.here hx rfl (Jvm.hb hby at_83) k_) ?_
        refine own_go (t' := T27.setTop (mkF m 85 #[.val (.int p0), .val (.int p1), .val (.int (1 : Int32)), .val (.ref t), .val (.ref bp), .val (.ref bq)] [(.int (0 : Int32)), (.int (1 : Int32)), (.ref bp)])) (fun _ k_ => XS.iconst X27.here hx rfl (Jvm.hb hby at_84) k_) ?_
        obtain ⟨T37, L37, v37, X37, hQ37, st37⟩ := own_virtual X27 hx hZ (y := (⟨"com/example/brisk_rules/briskrules/GroundRule$Builder", "head", "(IZ)Lcom/example/brisk_rules/briskrules/GroundRule$Builder;"⟩ : MethodName)) hown (hw _ (List.mem_of_getElem? (i := 45) rfl)) (hw _ (List.mem_of_getElem? (i := 46) rfl)) (hw _ (List.mem_of_getElem? (i := 48) rfl)) (hw _ (List.mem_of_getElem? (i := 47) rfl)) (hw _ (List.mem_of_getElem? (i := 49) rfl)) (hw _ (List.mem_of_getElem? (i := 28) rfl)) (by decide) BVpk.1 (rm_head l Z a0 hw [] bp aap acp 0 1 (1 : Int32) _ _ T27.heap n0 Zbq2 BVpk Bapk Bcpk (by decide) (by decide) (by omega) gbp) (rfl : T27.heap = T27.heap) (g := (mkF m 85 #[.val (.int p0), .val (.int p1), .val (.int (1 : Int32)), .val (.ref t), .val (.ref bp), .val (.ref bq)] [(.int (0 : Int32)), (.int (1 : Int32)), (.ref bp)])) rfl (by rw [hml]; rfl) (argsL := [(.int (1 : Int32)), (.int (0 : Int32))]) (rest := []) (lenOf pd_d4 rfl) rfl (W := 0) (by show 2 * 0 + _ ≤ _; exact Nat.le_of_eq rfl) (Jvm.hb hby at_85) (by decide) (by decide) (by decide) (by decide)
        obtain ⟨rfl, Nq37, Khbp, BVhbp, Bahbp, Bchbp⟩ := hQ37
        have N37 := Fr.app N27 Nq37
        refine own_go (t' := T37.setTop (mkF m 88 #[.val (.int p0), .val (.int p1), .val (.int (1 : Int32)), .val (.ref t), .val (.ref bp), .val (.ref bq)] [(.ref bp)])) st37 ?_
        have Zhbp : n0 ≤ T37.heap.size := Nat.le_trans Zbq2 Khbp.1
        have TVhbp := own_TV_keep TVkq Khbp (own_nin3 (by omega))
        have aR_hbp := own_Ar_keep Khbp (own_nin3 (by omega)) aR_kq
        have aO_hbp := own_Ar_keep Khbp (own_nin3 (by omega)) aO_kq
        have aS_hbp := own_Ar_keep Khbp (own_nin3 (by omega)) aS_kq
        have aF_hbp := own_Ar_keep Khbp (own_nin3 (by omega)) aF_kq
        have aA_hbp := own_Ar_keep Khbp (own_nin3 (by omega)) aA_kq
        have aC_hbp := own_Ar_keep Khbp (own_nin3 (by omega)) aC_kq
        have BVobp := own_BV_keep BVq Khbp (own_nin3 (by omega))
        have Baobp := own_Ar_keep Khbp (own_nin3 (by omega)) Baq
        have Bcobp := own_Ar_keep Khbp (own_nin3 (by omega)) Bcq
        refine own_go (t' := T37.setTop (mkF m 89 #[.val (.int p0), .val (.int p1), .val (.int (1 : Int32)), .val (.ref t), .val (.ref bp), .val (.ref bq)] [])) (fun _ k_ => XS.pop X37.here hx rfl (Jvm.hb hby at_88) rfl rfl k_) ?_
        refine own_go (t' := T37.setTop (mkF m 91 #[.val (.int p0), .val (.int p1), .val (.int (1 : Int32)), .val (.ref t), .val (.ref bp), .val (.ref bq)] [(.ref bq)])) (fun _ k_ => XS.aload X37.here hx rfl (Jvm.hb hby at_89) rfl rfl k_) ?_
        refine own_go (t' := T37.setTop (mkF m 92 #[.val (.int p0), .val (.int p1), .val (.int (1 : Int32)), .val (.ref t), .val (.ref bp), .val (.ref bq)] [(.int (1 : Int32)), (.ref bq)])) (fun _ k_ => XS.iconst X37.here hx rfl (Jvm.hb hby at_91) k_) ?_
        refine own_go (t' := T37.setTop (mkF m 93 #[.val (.int p0), .val (.int p1), .val (.int (1 : Int32)), .val (.ref t), .val (.ref bp), .val (.ref bq)] [(.int (0 : Int32)), (.int (1 : Int32)), (.ref bq)])) (fun _ k_ => XS.iconst X37.here hx rfl (Jvm.hb hby at_92) k_) ?_
        obtain ⟨T38, L38, v38, X38, hQ38, st38⟩ := own_virtual X37 hx hZ (y := (⟨"com/example/brisk_rules/briskrules/GroundRule$Builder", "head", "(IZ)Lcom/example/brisk_rules/briskrules/GroundRule$Builder;"⟩ : MethodName)) hown (hw _ (List.mem_of_getElem? (i := 45) rfl)) (hw _ (List.mem_of_getElem? (i := 46) rfl)) (hw _ (List.mem_of_getElem? (i := 48) rfl)) (hw _ (List.mem_of_getElem? (i := 47) rfl)) (hw _ (List.mem_of_getElem? (i := 49) rfl)) (hw _ (List.mem_of_getElem? (i := 28) rfl)) (by decide) BVobp.1 (rm_head l Z a0 hw [] bq aaq acq 0 1 (0 : Int32) _ _ T37.heap n0 Zhbp BVobp Baobp Bcobp (by decide) (by decide) (by omega) gbq) (rfl : T37.heap = T37.heap) (g := (mkF m 93 #[.val (.int p0), .val (.int p1), .val (.int (1 : Int32)), .val (.ref t), .val (.ref bp), .val (.ref bq)] [(.int (0 : Int32)), (.int (1 : Int32)), (.ref bq)])) rfl (by rw [hml]; rfl) (argsL := [(.int (1 : Int32)), (.int (0 : Int32))]) (rest := []) (lenOf pd_d4 rfl) rfl (W := 0) (by show 2 * 0 + _ ≤ _; exact Nat.le_of_eq rfl) (Jvm.hb hby at_93) (by decide) (by decide) (by decide) (by decide)
        obtain ⟨rfl, Nq38, Khbq, BVhbq, Bahbq, Bchbq⟩ := hQ38
        have N38 := Fr.app N37 Nq38
        refine own_go (t' := T38.setTop (mkF m 96 #[.val (.int p0), .val (.int p1), .val (.int (1 : Int32)), .val (.ref t), .val (.ref bp), .val (.ref bq)] [(.ref bq)])) st38 ?_
        have Zhbq : n0 ≤ T38.heap.size := Nat.le_trans Zhbp Khbq.1
        have TVhbq := own_TV_keep TVhbp Khbq (own_nin3 (by omega))
        have aR_hbq := own_Ar_keep Khbq (own_nin3 (by omega)) aR_hbp
        have aO_hbq := own_Ar_keep Khbq (own_nin3 (by omega)) aO_hbp
        have aS_hbq := own_Ar_keep Khbq (own_nin3 (by omega)) aS_hbp
        have aF_hbq := own_Ar_keep Khbq (own_nin3 (by omega)) aF_hbp
        have aA_hbq := own_Ar_keep Khbq (own_nin3 (by omega)) aA_hbp
        have aC_hbq := own_Ar_keep Khbq (own_nin3 (by omega)) aC_hbp
        have BVobq := own_BV_keep BVhbp Khbq (own_nin3 (by omega))
        have Baobq := own_Ar_keep Khbq (own_nin3 (by omega)) Bahbp
        have Bcobq := own_Ar_keep Khbq (own_nin3 (by omega)) Bchbp
        refine own_go (t' := T38.setTop (mkF m 97 #[.val (.int p0), .val (.int p1), .val (.int (1 : Int32)), .val (.ref t), .val (.ref bp), .val (.ref bq)] [])) (fun _ k_ => XS.pop X38.here hx rfl (Jvm.hb hby at_96) rfl rfl k_) ?_
        exact J97 T38 _ _ 1 6 3 22 (own_ua (fun _ => (0 : Int32)) 0 1) _ _ _ _ X38 (rfl : T38.heap = T38.heap) N38 (by decide) TVhbq aR_hbq aO_hbq aS_hbq aF_hbq aA_hbq aC_hbq BVobq Baobq Bcobq BVhbq Bahbq Bchbq (own_upd_at (k := 0) (at0 := (fun _ => (0 : Int32))) 1 (fun j hj0 => absurd hj0 (by omega))) (own_upd_c (k := 0) (fun j hj0 => absurd hj0 (by omega))) (own_upd_at (k := 0) (at0 := (fun _ => (0 : Int32))) 1 (fun j hj0 => absurd hj0 (by omega))) (own_upd_c (k := 0) (fun j hj0 => absurd hj0 (by omega))) (by decide +kernel) (by decide +kernel) (by unfold own_Fit; decide +kernel) Zhbq
    ·
      refine own_go (t' := T27.setTop (mkF m 59 #[.val (.int p0), .val (.int p1), .val (.int (1 : Int32)), .val (.ref t), .val (.ref bp), .val (.ref bq)] [])) (fun _ k_ => XS.ifNo X27.here hx rfl (Jvm.hb hby at_56) rfl ((if0 _ _).trans (feq hb1).1) k_) ?_
      refine own_go (t' := T27.setTop (mkF m 61 #[.val (.int p0), .val (.int p1), .val (.int (1 : Int32)), .val (.ref t), .val (.ref bp), .val (.ref bq)] [(.ref bp)])) (fun _ k_ => XS.aload X27.here hx rfl (Jvm.hb hby at_59) rfl rfl k_) ?_
      refine own_go (t' := T27.setTop (mkF m 62 #[.val (.int p0), .val (.int p1), .val (.int (1 : Int32)), .val (.ref t), .val (.ref bp), .val (.ref bq)] [(.int (0 : Int32)), (.ref bp)])) (fun _ k_ => XS.iconst X27.here hx rfl (Jvm.hb hby at_61) k_) ?_
      refine own_go (t' := T27.setTop (mkF m 63 #[.val (.int p0), .val (.int p1), .val (.int (1 : Int32)), .val (.ref t), .val (.ref bp), .val (.ref bq)] [(.int (0 : Int32)), (.int (0 : Int32)), (.ref bp)])) (fun _ k_ => XS.iconst X27.here hx rfl (Jvm.hb hby at_62) k_) ?_
      obtain ⟨T39, L39, v39, X39, hQ39, st39⟩ := own_virtual X27 hx hZ (y := (⟨"com/example/brisk_rules/briskrules/GroundRule$Builder", "head", "(IZ)Lcom/example/brisk_rules/briskrules/GroundRule$Builder;"⟩ : MethodName)) hown (hw _ (List.mem_of_getElem? (i := 45) rfl)) (hw _ (List.mem_of_getElem? (i := 46) rfl)) (hw _ (List.mem_of_getElem? (i := 48) rfl)) (hw _ (List.mem_of_getElem? (i := 47) rfl)) (hw _ (List.mem_of_getElem? (i := 49) rfl)) (hw _ (List.mem_of_getElem? (i := 28) rfl)) (by decide) BVpk.1 (rm_head l Z a0 hw [] bp aap acp 0 0 (1 : Int32) _ _ T27.heap n0 Zbq2 BVpk Bapk Bcpk (by decide) (by decide) (by omega) gbp) (rfl : T27.heap = T27.heap) (g := (mkF m 63 #[.val (.int p0), .val (.int p1), .val (.int (1 : Int32)), .val (.ref t), .val (.ref bp), .val (.ref bq)] [(.int (0 : Int32)), (.int (0 : Int32)), (.ref bp)])) rfl (by rw [hml]; rfl) (argsL := [(.int (0 : Int32)), (.int (0 : Int32))]) (rest := []) (lenOf pd_d4 rfl) rfl (W := 0) (by show 2 * 0 + _ ≤ _; exact Nat.le_of_eq rfl) (Jvm.hb hby at_63) (by decide) (by decide) (by decide) (by decide)
      obtain ⟨rfl, Nq39, Khap, BVhap, Bahap, Bchap⟩ := hQ39
      have N39 := Fr.app N27 Nq39
      refine own_go (t' := T39.setTop (mkF m 66 #[.val (.int p0), .val (.int p1), .val (.int (1 : Int32)), .val (.ref t), .val (.ref bp), .val (.ref bq)] [(.ref bp)])) st39 ?_
      have Zhap : n0 ≤ T39.heap.size := Nat.le_trans Zbq2 Khap.1
      have TVhap := own_TV_keep TVkq Khap (own_nin3 (by omega))
      have aR_hap := own_Ar_keep Khap (own_nin3 (by omega)) aR_kq
      have aO_hap := own_Ar_keep Khap (own_nin3 (by omega)) aO_kq
      have aS_hap := own_Ar_keep Khap (own_nin3 (by omega)) aS_kq
      have aF_hap := own_Ar_keep Khap (own_nin3 (by omega)) aF_kq
      have aA_hap := own_Ar_keep Khap (own_nin3 (by omega)) aA_kq
      have aC_hap := own_Ar_keep Khap (own_nin3 (by omega)) aC_kq
      have BVoap := own_BV_keep BVq Khap (own_nin3 (by omega))
      have Baoap := own_Ar_keep Khap (own_nin3 (by omega)) Baq
      have Bcoap := own_Ar_keep Khap (own_nin3 (by omega)) Bcq
      refine own_go (t' := T39.setTop (mkF m 67 #[.val (.int p0), .val (.int p1), .val (.int (1 : Int32)), .val (.ref t), .val (.ref bp), .val (.ref bq)] [])) (fun _ k_ => XS.pop X39.here hx rfl (Jvm.hb hby at_66) rfl rfl k_) ?_
      refine own_go (t' := T39.setTop (mkF m 69 #[.val (.int p0), .val (.int p1), .val (.int (1 : Int32)), .val (.ref t), .val (.ref bp), .val (.ref bq)] [(.ref bq)])) (fun _ k_ => XS.aload X39.here hx rfl (Jvm.hb hby at_67) rfl rfl k_) ?_
      refine own_go (t' := T39.setTop (mkF m 70 #[.val (.int p0), .val (.int p1), .val (.int (1 : Int32)), .val (.ref t), .val (.ref bp), .val (.ref bq)] [(.int (0 : Int32)), (.ref bq)])) (fun _ k_ => XS.iconst X39.here hx rfl (Jvm.hb hby at_69) k_) ?_
      refine own_go (t' := T39.setTop (mkF m 71 #[.val (.int p0), .val (.int p1), .val (.int (1 : Int32)), .val (.ref t), .val (.ref bp), .val (.ref bq)] [(.int (0 : Int32)), (.int (0 : Int32)), (.ref bq)])) (fun _ k_ => XS.iconst X39.here hx rfl (Jvm.hb hby at_70) k_) ?_
      obtain ⟨T40, L40, v40, X40, hQ40, st40⟩ := own_virtual X39 hx hZ (y := (⟨"com/example/brisk_rules/briskrules/GroundRule$Builder", "head", "(IZ)Lcom/example/brisk_rules/briskrules/GroundRule$Builder;"⟩ : MethodName)) hown (hw _ (List.mem_of_getElem? (i := 45) rfl)) (hw _ (List.mem_of_getElem? (i := 46) rfl)) (hw _ (List.mem_of_getElem? (i := 48) rfl)) (hw _ (List.mem_of_getElem? (i := 47) rfl)) (hw _ (List.mem_of_getElem? (i := 49) rfl)) (hw _ (List.mem_of_getElem? (i := 28) rfl)) (by decide) BVoap.1 (rm_head l Z a0 hw [] bq aaq acq 0 0 (0 : Int32) _ _ T39.heap n0 Zhap BVoap Baoap Bcoap (by decide) (by decide) (by omega) gbq) (rfl : T39.heap = T39.heap) (g := (mkF m 71 #[.val (.int p0), .val (.int p1), .val (.int (1 : Int32)), .val (.ref t), .val (.ref bp), .val (.ref bq)] [(.int (0 : Int32)), (.int (0 : Int32)), (.ref bq)])) rfl (by rw [hml]; rfl) (argsL := [(.int (0 : Int32)), (.int (0 : Int32))]) (rest := []) (lenOf pd_d4 rfl) rfl (W := 0) (by show 2 * 0 + _ ≤ _; exact Nat.le_of_eq rfl) (Jvm.hb hby at_71) (by decide) (by decide) (by decide) (by decide)
      obtain ⟨rfl, Nq40, Khaq, BVhaq, Bahaq, Bchaq⟩ := hQ40
      have N40 := Fr.app N39 Nq40
      refine own_go (t' := T40.setTop (mkF m 74 #[.val (.int p0), .val (.int p1), .val (.int (1 : Int32)), .val (.ref t), .val (.ref bp), .val (.ref bq)] [(.ref bq)])) st40 ?_
      have Zhaq : n0 ≤ T40.heap.size := Nat.le_trans Zhap Khaq.1
      have TVhaq := own_TV_keep TVhap Khaq (own_nin3 (by omega))
      have aR_haq := own_Ar_keep Khaq (own_nin3 (by omega)) aR_hap
      have aO_haq := own_Ar_keep Khaq (own_nin3 (by omega)) aO_hap
      have aS_haq := own_Ar_keep Khaq (own_nin3 (by omega)) aS_hap
      have aF_haq := own_Ar_keep Khaq (own_nin3 (by omega)) aF_hap
      have aA_haq := own_Ar_keep Khaq (own_nin3 (by omega)) aA_hap
      have aC_haq := own_Ar_keep Khaq (own_nin3 (by omega)) aC_hap
      have BVoaq := own_BV_keep BVhap Khaq (own_nin3 (by omega))
      have Baoaq := own_Ar_keep Khaq (own_nin3 (by omega)) Bahap
      have Bcoaq := own_Ar_keep Khaq (own_nin3 (by omega)) Bchap
      refine own_go (t' := T40.setTop (mkF m 75 #[.val (.int p0), .val (.int p1), .val (.int (1 : Int32)), .val (.ref t), .val (.ref bp), .val (.ref bq)] [])) (fun _ k_ => XS.pop X40.here hx rfl (Jvm.hb hby at_74) rfl rfl k_) ?_
      refine own_go (t' := T40.setTop (mkF m 76 #[.val (.int p0), .val (.int p1), .val (.int (1 : Int32)), .val (.ref t), .val (.ref bp), .val (.ref bq)] [(.int p1)])) (fun _ k_ => XS.iloadN X40.here hx rfl (Jvm.hb hby at_75) rfl k_) ?_
      refine own_go (t' := T40.setTop (mkF m 77 #[.val (.int p0), .val (.int p1), .val (.int (1 : Int32)), .val (.ref t), .val (.ref bp), .val (.ref bq)] [(.int (2 : Int32)), (.int p1)])) (fun _ k_ => XS.iconst X40.here hx rfl (Jvm.hb hby at_76) k_) ?_
      refine own_go (t' := T40.setTop (mkF m 78 #[.val (.int p0), .val (.int p1), .val (.int (1 : Int32)), .val (.ref t), .val (.ref bp), .val (.ref bq)] [(.int (p1 &&& (2 : Int32)))])) (fun _ k_ => XS.iand X40.here hx rfl (Jvm.hb hby at_77) rfl k_) ?_
      by_cases hb2 : (p1 &&& (2 : Int32)) = 0
      ·
        refine own_go (t' := T40.setTop (mkF m 97 #[.val (.int p0), .val (.int p1), .val (.int (1 : Int32)), .val (.ref t), .val (.ref bp), .val (.ref bq)] [])) (fun _ k_ => XS.ifYes X40.here hx rfl (pc0 := 78) (pc' := 97) rfl (Jvm.hb hby at_78) rfl ((if0 _ _).trans (teq hb2).1) (by decide) (by decide) k_) ?_
        exact J97 T40 _ _ 1 17 21 12 (own_ua (fun _ => (0 : Int32)) 0 0) _ _ _ _ X40 (rfl : T40.heap = T40.heap) N40 (by decide) TVhaq aR_haq aO_haq aS_haq aF_haq aA_haq aC_haq BVoaq Baoaq Bcoaq BVhaq Bahaq Bchaq (own_upd_at (k := 0) (at0 := (fun _ => (0 : Int32))) 0 (fun j hj0 => absurd hj0 (by omega))) (own_upd_c (k := 0) (fun j hj0 => absurd hj0 (by omega))) (own_upd_at (k := 0) (at0 := (fun _ => (0 : Int32))) 0 (fun j hj0 => absurd hj0 (by omega))) (own_upd_c (k := 0) (fun j hj0 => absurd hj0 (by omega))) (by decide +kernel) (by decide +kernel) (by unfold own_Fit; decide +kernel) Zhaq
      ·
        refine own_go (t' := T40.setTop (mkF m 81 #[.val (.int p0), .val (.int p1), .val (.int (1 : Int32)), .val (.ref t), .val (.ref bp), .val (.ref bq)] [])) (fun _ k_ => XS.ifNo X40.here hx rfl (Jvm.hb hby at_78) rfl ((if0 _ _).trans (feq hb2).1) k_) ?_
        refine own_go (t' := T40.setTop (mkF m 83 #[.val (.int p0), .val (.int p1), .val (.int (1 : Int32)), .val (.ref t), .val (.ref bp), .val (.ref bq)] [(.ref bp)])) (fun _ k_ => XS.aload X40.here hx rfl (Jvm.hb hby at_81) rfl rfl k_) ?_
        refine own_go (t' := T40.setTop (mkF m 84 #[.val (.int p0), .val (.int p1), .val (.int (1 : Int32)), .val (.ref t), .val (.ref bp), .val (.ref bq)] [(.int (1 : Int32)), (.ref bp)])) (fun _ k_ => XS.iconst X40.here hx rfl (Jvm.hb hby at_83) k_) ?_
        refine own_go (t' := T40.setTop (mkF m 85 #[.val (.int p0), .val (.int p1), .val (.int (1 : Int32)), .val (.ref t), .val (.ref bp), .val (.ref bq)] [(.int (0 : Int32)), (.int (1 : Int32)), (.ref bp)])) (fun _ k_ => XS.iconst X40.here hx rfl (Jvm.hb hby at_84) k_) ?_
        obtain ⟨T41, L41, v41, X41, hQ41, st41⟩ := own_virtual X40 hx hZ (y := (⟨"com/example/brisk_rules/briskrules/GroundRule$Builder", "head", "(IZ)Lcom/example/brisk_rules/briskrules/GroundRule$Builder;"⟩ : MethodName)) hown (hw _ (List.mem_of_getElem? (i := 45) rfl)) (hw _ (List.mem_of_getElem? (i := 46) rfl)) (hw _ (List.mem_of_getElem? (i := 48) rfl)) (hw _ (List.mem_of_getElem? (i := 47) rfl)) (hw _ (List.mem_of_getElem? (i := 49) rfl)) (hw _ (List.mem_of_getElem? (i := 28) rfl)) (by decide) BVoaq.1 (rm_head l Z a0 hw [] bp aap acp 1 1 (1 : Int32) _ _ T40.heap n0 Zhaq BVoaq Baoaq Bcoaq (by decide) (by decide) (by omega) gbp) (rfl : T40.heap = T40.heap) (g := (mkF m 85 #[.val (.int p0), .val (.int p1), .val (.int (1 : Int32)), .val (.ref t), .val (.ref bp), .val (.ref bq)] [(.int (0 : Int32)), (.int (1 : Int32)), (.ref bp)])) rfl (by rw [hml]; rfl) (argsL := [(.int (1 : Int32)), (.int (0 : Int32))]) (rest := []) (lenOf pd_d4 rfl) rfl (W := 0) (by show 2 * 0 + _ ≤ _; exact Nat.le_of_eq rfl) (Jvm.hb hby at_85) (by decide) (by decide) (by decide) (by decide)
        obtain ⟨rfl, Nq41, Khbp, BVhbp, Bahbp, Bchbp⟩ := hQ41
        have N41 := Fr.app N40 Nq41
        refine own_go (t' := T41.setTop (mkF m 88 #[.val (.int p0), .val (.int p1), .val (.int (1 : Int32)), .val (.ref t), .val (.ref bp), .val (.ref bq)] [(.ref bp)])) st41 ?_
        have Zhbp : n0 ≤ T41.heap.size := Nat.le_trans Zhaq Khbp.1
        have TVhbp := own_TV_keep TVhaq Khbp (own_nin3 (by omega))
        have aR_hbp := own_Ar_keep Khbp (own_nin3 (by omega)) aR_haq
        have aO_hbp := own_Ar_keep Khbp (own_nin3 (by omega)) aO_haq
        have aS_hbp := own_Ar_keep Khbp (own_nin3 (by omega)) aS_haq
        have aF_hbp := own_Ar_keep Khbp (own_nin3 (by omega)) aF_haq
        have aA_hbp := own_Ar_keep Khbp (own_nin3 (by omega)) aA_haq
        have aC_hbp := own_Ar_keep Khbp (own_nin3 (by omega)) aC_haq
        have BVobp := own_BV_keep BVhaq Khbp (own_nin3 (by omega))
        have Baobp := own_Ar_keep Khbp (own_nin3 (by omega)) Bahaq
        have Bcobp := own_Ar_keep Khbp (own_nin3 (by omega)) Bchaq
        refine own_go (t' := T41.setTop (mkF m 89 #[.val (.int p0), .val (.int p1), .val (.int (1 : Int32)), .val (.ref t), .val (.ref bp), .val (.ref bq)] [])) (fun _ k_ => XS.pop X41.here hx rfl (Jvm.hb hby at_88) rfl rfl k_) ?_
        refine own_go (t' := T41.setTop (mkF m 91 #[.val (.int p0), .val (.int p1), .val (.int (1 : Int32)), .val (.ref t), .val (.ref bp), .val (.ref bq)] [(.ref bq)])) (fun _ k_ => XS.aload X41.here hx rfl (Jvm.hb hby at_89) rfl rfl k_) ?_
        refine own_go (t' := T41.setTop (mkF m 92 #[.val (.int p0), .val (.int p1), .val (.int (1 : Int32)), .val (.ref t), .val (.ref bp), .val (.ref bq)] [(.int (1 : Int32)), (.ref bq)])) (fun _ k_ => XS.iconst X41.here hx rfl (Jvm.hb hby at_91) k_) ?_
        refine own_go (t' := T41.setTop (mkF m 93 #[.val (.int p0), .val (.int p1), .val (.int (1 : Int32)), .val (.ref t), .val (.ref bp), .val (.ref bq)] [(.int (0 : Int32)), (.int (1 : Int32)), (.ref bq)])) (fun _ k_ => XS.iconst X41.here hx rfl (Jvm.hb hby at_92) k_) ?_
        obtain ⟨T42, L42, v42, X42, hQ42, st42⟩ := own_virtual X41 hx hZ (y := (⟨"com/example/brisk_rules/briskrules/GroundRule$Builder", "head", "(IZ)Lcom/example/brisk_rules/briskrules/GroundRule$Builder;"⟩ : MethodName)) hown (hw _ (List.mem_of_getElem? (i := 45) rfl)) (hw _ (List.mem_of_getElem? (i := 46) rfl)) (hw _ (List.mem_of_getElem? (i := 48) rfl)) (hw _ (List.mem_of_getElem? (i := 47) rfl)) (hw _ (List.mem_of_getElem? (i := 49) rfl)) (hw _ (List.mem_of_getElem? (i := 28) rfl)) (by decide) BVobp.1 (rm_head l Z a0 hw [] bq aaq acq 1 1 (0 : Int32) _ _ T41.heap n0 Zhbp BVobp Baobp Bcobp (by decide) (by decide) (by omega) gbq) (rfl : T41.heap = T41.heap) (g := (mkF m 93 #[.val (.int p0), .val (.int p1), .val (.int (1 : Int32)), .val (.ref t), .val (.ref bp), .val (.ref bq)] [(.int (0 : Int32)), (.int (1 : Int32)), (.ref bq)])) rfl (by rw [hml]; rfl) (argsL := [(.int (1 : Int32)), (.int (0 : Int32))]) (rest := []) (lenOf pd_d4 rfl) rfl (W := 0) (by show 2 * 0 + _ ≤ _; exact Nat.le_of_eq rfl) (Jvm.hb hby at_93) (by decide) (by decide) (by decide) (by decide)
        obtain ⟨rfl, Nq42, Khbq, BVhbq, Bahbq, Bchbq⟩ := hQ42
        have N42 := Fr.app N41 Nq42
        refine own_go (t' := T42.setTop (mkF m 96 #[.val (.int p0), .val (.int p1), .val (.int (1 : Int32)), .val (.ref t), .val (.ref bp), .val (.ref bq)] [(.ref bq)])) st42 ?_
        have Zhbq : n0 ≤ T42.heap.size := Nat.le_trans Zhbp Khbq.1
        have TVhbq := own_TV_keep TVhbp Khbq (own_nin3 (by omega))
        have aR_hbq := own_Ar_keep Khbq (own_nin3 (by omega)) aR_hbp
        have aO_hbq := own_Ar_keep Khbq (own_nin3 (by omega)) aO_hbp
        have aS_hbq := own_Ar_keep Khbq (own_nin3 (by omega)) aS_hbp
        have aF_hbq := own_Ar_keep Khbq (own_nin3 (by omega)) aF_hbp
        have aA_hbq := own_Ar_keep Khbq (own_nin3 (by omega)) aA_hbp
        have aC_hbq := own_Ar_keep Khbq (own_nin3 (by omega)) aC_hbp
        have BVobq := own_BV_keep BVhbp Khbq (own_nin3 (by omega))
        have Baobq := own_Ar_keep Khbq (own_nin3 (by omega)) Bahbp
        have Bcobq := own_Ar_keep Khbq (own_nin3 (by omega)) Bchbp
        refine own_go (t' := T42.setTop (mkF m 97 #[.val (.int p0), .val (.int p1), .val (.int (1 : Int32)), .val (.ref t), .val (.ref bp), .val (.ref bq)] [])) (fun _ k_ => XS.pop X42.here hx rfl (Jvm.hb hby at_96) rfl rfl k_) ?_
        exact J97 T42 _ _ 2 11 4 6 (own_ua (own_ua (fun _ => (0 : Int32)) 0 0) 1 1) _ _ _ _ X42 (rfl : T42.heap = T42.heap) N42 (by decide) TVhbq aR_hbq aO_hbq aS_hbq aF_hbq aA_hbq aC_hbq BVobq Baobq Bcobq BVhbq Bahbq Bchbq (own_upd_at (k := 1) (at0 := (own_ua (fun _ => (0 : Int32)) 0 0)) 1 (own_upd_at (k := 0) (at0 := (fun _ => (0 : Int32))) 0 (fun j hj0 => absurd hj0 (by omega)))) (own_upd_c (k := 1) (own_upd_c (k := 0) (fun j hj0 => absurd hj0 (by omega)))) (own_upd_at (k := 1) (at0 := (own_ua (fun _ => (0 : Int32)) 0 0)) 1 (own_upd_at (k := 0) (at0 := (fun _ => (0 : Int32))) 0 (fun j hj0 => absurd hj0 (by omega)))) (own_upd_c (k := 1) (own_upd_c (k := 0) (fun j hj0 => absurd hj0 (by omega)))) (by decide +kernel) (by decide +kernel) (by unfold own_Fit; decide +kernel) Zhbq
set_option maxRecDepth 65536 in
set_option maxHeartbeats 40000000 in
theorem comes_1 {Post : Tables → Env → Array Value → State → Outcome → State → Prop} (hpost : ∀ tb e args s v u, (limb_1_1.after args s (.returned v) u = true ∧ limb_1_2.after args s (.returned v) u = true ∧ True) → FrameEnd s (.returned v) u (Jvm.fieldLocs frame_1_writes args s ++ Jvm.arrayLocs frame_1_arrays args s ++ Jvm.staticLocs frame_1_statics s) 40 448 → Post tb e args s (.returned v) u) :
    ArmFor flags0 classFile x code maxLocals ret World_1 tables_1 room_1 Calls_1 rest_1 Pre_1 Post := by
  intro l hfl _ _ p e ha hc hk s m args below hf hA hF happ hP
  obtain ⟨hcalls, hrest, hpre⟩ := hP
  obtain ⟨-, -, -, hnamed, -, -, -, hat⟩ := (Spec.applies_iff hf).mp happ
  obtain ⟨hg, hn⟩ := and_e (Cond.before_iff.mp (show (Jvm.Cond.and given_1 narrow_1).before args s = true from hpre))
  obtain ⟨h1, g0⟩ := and_e hg
  obtain ⟨k0, g1⟩ := and_e g0
  have k1 := g1
  obtain ⟨w0, w1, rfl⟩ : ∃ w0 w1 : Value, args = #[w0, w1] := by
    have hs : args.size = 2 := by simpa [Cond.value, given_1] using h1
    obtain ⟨L⟩ := args
    match L, hs with
    | [w0, w1], _ => exact ⟨w0, w1, rfl⟩
  have hw := fun d (hd : d ∈ tables_1) => atoms_spec (ws := Jvm.Cond.code x code maxLocals ret :: tables_1) hat d (List.mem_cons_of_mem _ hd)
  have hfit : Fit s := fun {y c} hc i hi => by
    obtain ⟨ha, rfl⟩ := Array.getElem?_eq_some_iff.mp hc
    have q := List.all_eq_true.mp ((Array.all_eq_true_iff_forall_mem.mp hF) _ (Array.getElem_mem ha)) i (List.mem_range.mpr hi)
    simpa [Array.getElem?_eq_getElem hi] using q
  obtain ⟨i0, e0⟩ := is_v k0
  obtain rfl : w0 = (.int i0) := Option.some.inj e0
  obtain ⟨i1, e1⟩ := is_v k1
  obtain rfl : w1 = (.int i1) := Option.some.inj e1
  obtain ⟨n, o, q1, q2, q3, _, L, rfl, ⟨rfl, N⟩, hq⟩ := rm_law l s _ hw tables_1 i0 i1 s.heap s.heap.size (Nat.le_refl _)  p e ha hc hk s m _ below hf ((Spec.applies_iff_loose hf).mp happ).1 ⟨rfl, State.Warmed39.refl s, rfl⟩ trivial
  refine ⟨n, _, q1, q2, q3, hpost _ _ _ _ _ _ ⟨Cond.after_iff.mpr rfl, Cond.after_iff.mpr (eq_i res_at (Term.int_eval (1)) rfl), trivial⟩ ⟨hq.1, hq.2.1, (hq.2.2.sift fun y hy => Or.inr (N y hy)).mono (by decide) (by decide)⟩⟩
theorem main_1_1 : Claimed_1_1 := comes_1 fun _ _ _ _ _ _ h hF => ⟨h.1, hF⟩
theorem main_1_2 : Claimed_1_2 := comes_1 fun _ _ _ _ _ _ h hF => ⟨h.2.1, hF⟩
end Jvm.Pilot.@@N@@
namespace Jvm.Pilot.@@N@@
open Jvm Jvm.ClassFile Sem Op Lib Jvm.Free Jvm.Stand Jvm.Pilot.@@N@@.Jvm.D
/-! MADE BY PROGRAM (witnessworld.py) out of the Statement's table words and the real class files: 21 classes; the members and pool entries that the words name. The judged class is class 1, her method 1. -/
namespace start1
open Jvm.ClassFile
def u (s : String) : CpInfo := .utf8 (stringToUtf16 s)
/-- a pool by its gaps: so many unusable entries, then the entry; so many at the end -/
def gap : Nat → List CpInfo → List CpInfo
  | 0, r => r
  | n + 1, r => .unusable :: gap n r
def poolList (es : List (Nat × CpInfo)) (last : Nat) : List CpInfo := es.foldr (fun e r => gap e.1 (e.2 :: r)) (gap last [])
def pool (es : List (Nat × CpInfo)) (last : Nat) : Array CpInfo := ⟨poolList es last⟩
def fileOf (pool : Array CpInfo) (this : Nat) (attrs : Array Attribute := #[]) (ms : Array MethodInfo := #[]) (fl : Nat := 33) (sup : Nat := 0) (ifs : Array Nat := #[]) (fds : Array FieldInfo := #[]) : ClassFile where
  minorVersion := 0
  majorVersion := 65
  constantPool := pool
  accessFlags := fl
  thisClass := this
  superClass := sup
  interfaces := ifs
  fields := fds
  methods := ms
  attributes := attrs
def plain (name : String) (sup : Option ClassId) : Class where
  name := name
  kind := .ordinary
  loader := none
  accessFlags := 33
  super := sup
  interfaces := #[]
  cf := none
  fields := #[]
  methods := #[]
  instanceTypes := #[]
  staticTypes := #[]
  resolved := #[]
  callSites := []
  init := .initialized
  statics := none
  mirror := none

def pool0 : Array CpInfo := pool [(5, u "<init>"), (0, u "()V"), (1, .class_ 10), (1, u "java/lang/Object")] 113

def k0c0 : Code := { maxStack := 0, maxLocals := 1, code := object_method_1_code, exceptionTable := #[], attributes := #[] }
def k0m0 : Method := { name := "<init>", desc := "()V", sig := { parameters := [], returnType := none }, accessFlags := 1, code := some k0c0 }
/-- java/lang/Object -/
def k0 : Class := { plain "java/lang/Object" none with
  accessFlags := 33
  interfaces := #[]
  cf := some (fileOf pool0 8 #[] #[{ accessFlags := 1, nameIndex := 5, descriptorIndex := 6, attributes := #[] }] 33 0 #[] #[])
  fields := #[]
  methods := #[k0m0]
  instanceTypes := #[]
  staticTypes := #[]
  resolved := Array.replicate 124 none
  statics := none }

def pool1 : Array CpInfo := pool [(2, .class_ 4), (1, u "java/lang/Object"), (0, u "<init>"), (0, u "()V"), (0, .class_ 8), (0, u "com/example/brisk_rules/briskrules/GroundRuleTable"), (2, .long 9223372036854775807), (1, .methodref 7 14), (0, .nameAndType 5 15), (0, u "(J)V"), (0, .class_ 17), (0, u "com/example/brisk_rules/briskrules/GroundRule$Builder"), (0, .methodref 16 19), (0, .nameAndType 5 20), (0, u "(DZ)V"), (0, .methodref 16 22), (0, .nameAndType 23 24), (0, u "head"), (0, u "(IZ)Lcom/example/brisk_rules/briskrules/GroundRule$Builder;"), (0, .methodref 7 26), (0, .nameAndType 27 28), (0, u "add"), (0, u "(Lcom/example/brisk_rules/briskrules/GroundRule$Builder;)V"), (0, .methodref 7 30), (0, .nameAndType 31 32), (0, u "size"), (0, u "()I"), (0, .methodref 7 34), (0, .nameAndType 35 36), (0, u "isSquared"), (0, u "(I)Z"), (0, .class_ 38), (0, u "com/example/brisk_rules/briskrules/GroundRuleTableIsSquaredPinLaw"), (2, u "law"), (0, u "(II)Z")] 7

def k1m0 : Method := { name := "<init>", desc := "()V", sig := { parameters := [], returnType := none }, accessFlags := 1, code := none }
def k1c1 : Code := { maxStack := 5, maxLocals := 6, code := code, exceptionTable := #[], attributes := #[] }
def k1m1 : Method := { name := "law", desc := "(II)Z", sig := { parameters := [.int, .int], returnType := some .boolean }, accessFlags := 9, code := some k1c1 }
/-- com/example/brisk_rules/briskrules/GroundRuleTableIsSquaredPinLaw -/
def k1 : Class := { plain "com/example/brisk_rules/briskrules/GroundRuleTableIsSquaredPinLaw" (some 0) with
  accessFlags := 49
  interfaces := #[]
  cf := some (fileOf pool1 37 #[] #[{ accessFlags := 1, nameIndex := 5, descriptorIndex := 6, attributes := #[] }, { accessFlags := 9, nameIndex := 41, descriptorIndex := 42, attributes := #[] }] 49 2 #[] #[])
  fields := #[]
  methods := #[k1m0, k1m1]
  instanceTypes := #[]
  staticTypes := #[]
  resolved := Array.replicate 50 none
  statics := none }

def pool2 : Array CpInfo := pool [(1, .methodref 2 3), (0, .class_ 4), (0, .nameAndType 5 6), (0, u "java/lang/Object"), (0, u "<init>"), (0, u "()V"), (0, .fieldref 8 9), (0, .class_ 10), (0, .nameAndType 11 12), (0, u "com/example/brisk_rules/briskrules/GroundRuleTable"), (0, u "records"), (0, u "[J"), (0, .fieldref 8 14), (0, .nameAndType 15 16), (0, u "offsets"), (0, u "[I"), (0, .fieldref 8 18), (0, .nameAndType 19 12), (0, u "slots"), (0, .fieldref 8 21), (0, .nameAndType 22 12), (0, u "form"), (0, .fieldref 8 24), (0, .nameAndType 25 16), (0, u "formAtoms"), (0, .fieldref 8 27), (0, .nameAndType 28 16), (0, u "formCoefficients"), (0, .fieldref 8 30), (0, .nameAndType 31 32), (0, u "limit"), (0, u "J"), (6, u "(J)V"), (0, .methodref 41 42), (0, .class_ 43), (0, .nameAndType 44 45), (0, u "com/example/brisk_rules/briskrules/GroundRule$Builder"), (0, u "weight"), (0, u "()D"), (0, .methodref 8 47), (0, .nameAndType 48 49), (0, u "canonical"), (0, u "(Lcom/example/brisk_rules/briskrules/GroundRule$Builder;)I"), (0, .methodref 41 51), (0, .nameAndType 52 45), (0, u "constant"), (0, .methodref 8 54), (0, .nameAndType 55 56), (0, u "canBeUnsatisfied"), (0, u "(DI)Z"), (0, .methodref 58 59), (0, .class_ 60), (0, .nameAndType 61 62), (0, u "java/lang/Double"), (0, u "doubleToRawLongBits"), (0, u "(D)J"), (0, .long 2), (1, .methodref 41 66), (0, .nameAndType 67 68), (0, u "isSquared"), (0, u "()Z"), (0, .methodref 8 70), (0, .nameAndType 71 72), (0, u "hash"), (0, u "()I"), (3, u "(I)Z"), (0, .fieldref 8 78), (0, .nameAndType 79 80), (0, u "sealed"), (0, u "I"), (4, .fieldref 8 86), (0, .nameAndType 87 32), (0, u "groundRules"), (0, .fieldref 8 89), (0, .nameAndType 90 80), (0, u "size"), (0, .fieldref 8 92), (0, .nameAndType 93 94), (0, u "full"), (0, u "Z"), (0, .fieldref 8 96), (0, .nameAndType 97 80), (0, u "used"), (0, .methodref 8 99), (0, .nameAndType 100 6), (0, u "appendForm"), (13, u "(I)I"), (0, .methodref 8 116), (0, .nameAndType 117 118), (0, u "literalCount"), (0, u "([JI)I"), (4, .nameAndType 124 114), (0, u "atom"), (2, u "(I)D"), (1, .nameAndType 130 127), (0, u "coefficient"), (9, .class_ 142), (1, u "java/lang/Math"), (0, u "max"), (14, .methodref 41 159), (0, .nameAndType 90 72), (0, .methodref 41 123), (0, .methodref 41 129), (0, .methodref 163 164), (0, .class_ 165), (0, .nameAndType 166 167), (0, u "java/lang/System"), (0, u "arraycopy"), (0, u "(Ljava/lang/Object;ILjava/lang/Object;II)V"), (0, .long 4294967295), (1, .methodref 140 171), (0, .nameAndType 143 172), (0, u "(II)I"), (0, .long 31), (1, .long 18397679294719823053), (1, .long 14181476777654086739), (29, u "CONSTANT"), (2, u "WEIGHT"), (1, u "COUNT"), (1, u "SHAPE"), (1, u "LITERALS"), (3, u "add"), (0, u "(Lcom/example/brisk_rules/briskrules/GroundRule$Builder;)V")] 34

def k2c0 : Code := { maxStack := 3, maxLocals := 3, code := prog_11_method_1_code, exceptionTable := #[], attributes := #[] }
def k2m0 : Method := { name := "<init>", desc := "(J)V", sig := { parameters := [.long], returnType := none }, accessFlags := 0, code := some k2c0 }
def k2m1 : Method := { name := "<init>", desc := "()V", sig := { parameters := [], returnType := none }, accessFlags := 0, code := none }
def k2c2 : Code := { maxStack := 6, maxLocals := 12, code := prog_11_method_3_code, exceptionTable := #[], attributes := #[] }
def k2m2 : Method := { name := "add", desc := "(Lcom/example/brisk_rules/briskrules/GroundRule$Builder;)V", sig := { parameters := [(.object "com/example/brisk_rules/briskrules/GroundRule$Builder")], returnType := none }, accessFlags := 0, code := some k2c2 }
def k2c3 : Code := { maxStack := 1, maxLocals := 1, code := prog_11_method_7_code, exceptionTable := #[], attributes := #[] }
def k2m3 : Method := { name := "size", desc := "()I", sig := { parameters := [], returnType := some .int }, accessFlags := 0, code := some k2c3 }
def k2c4 : Code := { maxStack := 4, maxLocals := 2, code := prog_11_method_11_code, exceptionTable := #[], attributes := #[] }
def k2m4 : Method := { name := "isSquared", desc := "(I)Z", sig := { parameters := [.int], returnType := some .boolean }, accessFlags := 0, code := some k2c4 }
def k2c5 : Code := { maxStack := 8, maxLocals := 7, code := prog_11_method_22_code, exceptionTable := #[], attributes := #[] }
def k2m5 : Method := { name := "canonical", desc := "(Lcom/example/brisk_rules/briskrules/GroundRule$Builder;)I", sig := { parameters := [(.object "com/example/brisk_rules/briskrules/GroundRule$Builder")], returnType := some .int }, accessFlags := 2, code := some k2c5 }
def k2c6 : Code := { maxStack := 6, maxLocals := 7, code := prog_11_method_23_code, exceptionTable := #[], attributes := #[] }
def k2m6 : Method := { name := "canBeUnsatisfied", desc := "(DI)Z", sig := { parameters := [.double, .int], returnType := some .boolean }, accessFlags := 2, code := some k2c6 }
def k2c7 : Code := { maxStack := 5, maxLocals := 4, code := prog_11_method_24_code, exceptionTable := #[], attributes := #[] }
def k2m7 : Method := { name := "hash", desc := "()I", sig := { parameters := [], returnType := some .int }, accessFlags := 2, code := some k2c7 }
def k2c8 : Code := { maxStack := 3, maxLocals := 2, code := prog_11_method_26_code, exceptionTable := #[], attributes := #[] }
def k2m8 : Method := { name := "literalCount", desc := "([JI)I", sig := { parameters := [(.array .long), .int], returnType := some .int }, accessFlags := 10, code := some k2c8 }
def k2c9 : Code := { maxStack := 5, maxLocals := 2, code := prog_11_method_27_code, exceptionTable := #[], attributes := #[] }
def k2m9 : Method := { name := "appendForm", desc := "()V", sig := { parameters := [], returnType := none }, accessFlags := 2, code := some k2c9 }
/-- com/example/brisk_rules/briskrules/GroundRuleTable -/
def k2 : Class := { plain "com/example/brisk_rules/briskrules/GroundRuleTable" (some 0) with
  accessFlags := 48
  interfaces := #[]
  cf := some (fileOf pool2 8 #[] #[{ accessFlags := 0, nameIndex := 5, descriptorIndex := 39, attributes := #[] }, { accessFlags := 0, nameIndex := 5, descriptorIndex := 6, attributes := #[] }, { accessFlags := 0, nameIndex := 220, descriptorIndex := 221, attributes := #[] }, { accessFlags := 0, nameIndex := 90, descriptorIndex := 72, attributes := #[] }, { accessFlags := 0, nameIndex := 67, descriptorIndex := 76, attributes := #[] }, { accessFlags := 2, nameIndex := 48, descriptorIndex := 49, attributes := #[] }, { accessFlags := 2, nameIndex := 55, descriptorIndex := 56, attributes := #[] }, { accessFlags := 2, nameIndex := 71, descriptorIndex := 72, attributes := #[] }, { accessFlags := 10, nameIndex := 117, descriptorIndex := 118, attributes := #[] }, { accessFlags := 2, nameIndex := 100, descriptorIndex := 6, attributes := #[] }] 48 2 #[] #[{ accessFlags := 26, nameIndex := 207, descriptorIndex := 80, attributes := #[] }, { accessFlags := 26, nameIndex := 210, descriptorIndex := 80, attributes := #[] }, { accessFlags := 26, nameIndex := 212, descriptorIndex := 80, attributes := #[] }, { accessFlags := 26, nameIndex := 214, descriptorIndex := 80, attributes := #[] }, { accessFlags := 26, nameIndex := 216, descriptorIndex := 80, attributes := #[] }, { accessFlags := 18, nameIndex := 31, descriptorIndex := 32, attributes := #[] }, { accessFlags := 2, nameIndex := 93, descriptorIndex := 94, attributes := #[] }, { accessFlags := 2, nameIndex := 90, descriptorIndex := 80, attributes := #[] }, { accessFlags := 2, nameIndex := 79, descriptorIndex := 80, attributes := #[] }, { accessFlags := 2, nameIndex := 87, descriptorIndex := 32, attributes := #[] }, { accessFlags := 2, nameIndex := 11, descriptorIndex := 12, attributes := #[] }, { accessFlags := 2, nameIndex := 97, descriptorIndex := 80, attributes := #[] }, { accessFlags := 2, nameIndex := 15, descriptorIndex := 16, attributes := #[] }, { accessFlags := 2, nameIndex := 19, descriptorIndex := 12, attributes := #[] }, { accessFlags := 2, nameIndex := 22, descriptorIndex := 12, attributes := #[] }, { accessFlags := 2, nameIndex := 25, descriptorIndex := 16, attributes := #[] }, { accessFlags := 2, nameIndex := 28, descriptorIndex := 16, attributes := #[] }])
  fields := #[{ name := "CONSTANT", type := .int, accessFlags := 26, slot := 0, constantValue := 0 }, { name := "WEIGHT", type := .int, accessFlags := 26, slot := 1, constantValue := 0 }, { name := "COUNT", type := .int, accessFlags := 26, slot := 2, constantValue := 0 }, { name := "SHAPE", type := .int, accessFlags := 26, slot := 3, constantValue := 0 }, { name := "LITERALS", type := .int, accessFlags := 26, slot := 4, constantValue := 0 }, { name := "limit", type := .long, accessFlags := 18, slot := 0, constantValue := 0 }, { name := "full", type := .boolean, accessFlags := 2, slot := 1, constantValue := 0 }, { name := "size", type := .int, accessFlags := 2, slot := 2, constantValue := 0 }, { name := "sealed", type := .int, accessFlags := 2, slot := 3, constantValue := 0 }, { name := "groundRules", type := .long, accessFlags := 2, slot := 4, constantValue := 0 }, { name := "records", type := (.array .long), accessFlags := 2, slot := 5, constantValue := 0 }, { name := "used", type := .int, accessFlags := 2, slot := 6, constantValue := 0 }, { name := "offsets", type := (.array .int), accessFlags := 2, slot := 7, constantValue := 0 }, { name := "slots", type := (.array .long), accessFlags := 2, slot := 8, constantValue := 0 }, { name := "form", type := (.array .long), accessFlags := 2, slot := 9, constantValue := 0 }, { name := "formAtoms", type := (.array .int), accessFlags := 2, slot := 10, constantValue := 0 }, { name := "formCoefficients", type := (.array .int), accessFlags := 2, slot := 11, constantValue := 0 }]
  methods := #[k2m0, k2m1, k2m2, k2m3, k2m4, k2m5, k2m6, k2m7, k2m8, k2m9]
  instanceTypes := #[.long, .boolean, .int, .int, .long, (.array .long), .int, (.array .int), (.array .long), (.array .long), (.array .int), (.array .int)]
  staticTypes := #[.int, .int, .int, .int, .int]
  resolved := Array.replicate 256 none
  statics := none }

def pool3 : Array CpInfo := pool [(1, .methodref 2 3), (0, .class_ 4), (0, .nameAndType 5 6), (0, u "java/lang/Object"), (0, u "<init>"), (0, u "()V"), (0, .fieldref 8 9), (0, .class_ 10), (0, .nameAndType 11 12), (0, u "com/example/brisk_rules/briskrules/GroundRule$Builder"), (0, u "constant"), (0, u "D"), (0, .fieldref 8 14), (0, .nameAndType 15 16), (0, u "atoms"), (0, u "[I"), (0, .fieldref 8 18), (0, .nameAndType 19 20), (0, u "coefficients"), (0, u "[D"), (2, .double 9218868437227405312), (10, .fieldref 8 35), (0, .nameAndType 36 12), (0, u "weight"), (0, .fieldref 8 38), (0, .nameAndType 39 40), (0, u "squared"), (0, u "Z"), (2, u "head"), (0, u "(IZ)Lcom/example/brisk_rules/briskrules/GroundRule$Builder;"), (3, .fieldref 8 49), (0, .nameAndType 50 51), (0, u "size"), (0, u "I"), (9, .double 13830554455654793216), (6, .class_ 69), (0, u "com/example/brisk_rules/briskrules/GroundRule"), (7, u "(DZ)V"), (9, u "()D"), (0, u "isSquared"), (0, u "()Z"), (0, u "()I"), (0, u "atom"), (0, u "(I)I"), (0, u "coefficient"), (0, u "(I)D")] 24

def k3c0 : Code := { maxStack := 4, maxLocals := 4, code := prog_10_method_1_code, exceptionTable := #[], attributes := #[] }
def k3m0 : Method := { name := "<init>", desc := "(DZ)V", sig := { parameters := [.double, .boolean], returnType := none }, accessFlags := 1, code := some k3c0 }
def k3c1 : Code := { maxStack := 5, maxLocals := 3, code := prog_10_method_3_code, exceptionTable := #[], attributes := #[] }
def k3m1 : Method := { name := "head", desc := "(IZ)Lcom/example/brisk_rules/briskrules/GroundRule$Builder;", sig := { parameters := [.int, .boolean], returnType := some (.object "com/example/brisk_rules/briskrules/GroundRule$Builder") }, accessFlags := 1, code := some k3c1 }
def k3c2 : Code := { maxStack := 2, maxLocals := 1, code := prog_10_method_8_code, exceptionTable := #[], attributes := #[] }
def k3m2 : Method := { name := "weight", desc := "()D", sig := { parameters := [], returnType := some .double }, accessFlags := 0, code := some k3c2 }
def k3c3 : Code := { maxStack := 1, maxLocals := 1, code := prog_10_method_9_code, exceptionTable := #[], attributes := #[] }
def k3m3 : Method := { name := "isSquared", desc := "()Z", sig := { parameters := [], returnType := some .boolean }, accessFlags := 0, code := some k3c3 }
def k3c4 : Code := { maxStack := 2, maxLocals := 1, code := prog_10_method_10_code, exceptionTable := #[], attributes := #[] }
def k3m4 : Method := { name := "constant", desc := "()D", sig := { parameters := [], returnType := some .double }, accessFlags := 0, code := some k3c4 }
def k3c5 : Code := { maxStack := 1, maxLocals := 1, code := prog_10_method_11_code, exceptionTable := #[], attributes := #[] }
def k3m5 : Method := { name := "size", desc := "()I", sig := { parameters := [], returnType := some .int }, accessFlags := 0, code := some k3c5 }
def k3c6 : Code := { maxStack := 2, maxLocals := 2, code := prog_10_method_12_code, exceptionTable := #[], attributes := #[] }
def k3m6 : Method := { name := "atom", desc := "(I)I", sig := { parameters := [.int], returnType := some .int }, accessFlags := 0, code := some k3c6 }
def k3c7 : Code := { maxStack := 2, maxLocals := 2, code := prog_10_method_13_code, exceptionTable := #[], attributes := #[] }
def k3m7 : Method := { name := "coefficient", desc := "(I)D", sig := { parameters := [.int], returnType := some .double }, accessFlags := 0, code := some k3c7 }
/-- com/example/brisk_rules/briskrules/GroundRule$Builder -/
def k3 : Class := { plain "com/example/brisk_rules/briskrules/GroundRule$Builder" (some 0) with
  accessFlags := 49
  interfaces := #[]
  cf := some (fileOf pool3 8 #[.nestHost 68] #[{ accessFlags := 1, nameIndex := 5, descriptorIndex := 77, attributes := #[] }, { accessFlags := 1, nameIndex := 43, descriptorIndex := 44, attributes := #[] }, { accessFlags := 0, nameIndex := 36, descriptorIndex := 87, attributes := #[] }, { accessFlags := 0, nameIndex := 88, descriptorIndex := 89, attributes := #[] }, { accessFlags := 0, nameIndex := 11, descriptorIndex := 87, attributes := #[] }, { accessFlags := 0, nameIndex := 50, descriptorIndex := 90, attributes := #[] }, { accessFlags := 0, nameIndex := 91, descriptorIndex := 92, attributes := #[] }, { accessFlags := 0, nameIndex := 93, descriptorIndex := 94, attributes := #[] }] 49 2 #[] #[{ accessFlags := 18, nameIndex := 36, descriptorIndex := 12, attributes := #[] }, { accessFlags := 18, nameIndex := 39, descriptorIndex := 40, attributes := #[] }, { accessFlags := 2, nameIndex := 11, descriptorIndex := 12, attributes := #[] }, { accessFlags := 2, nameIndex := 15, descriptorIndex := 16, attributes := #[] }, { accessFlags := 2, nameIndex := 19, descriptorIndex := 20, attributes := #[] }, { accessFlags := 2, nameIndex := 50, descriptorIndex := 51, attributes := #[] }])
  fields := #[{ name := "weight", type := .double, accessFlags := 18, slot := 0, constantValue := 0 }, { name := "squared", type := .boolean, accessFlags := 18, slot := 1, constantValue := 0 }, { name := "constant", type := .double, accessFlags := 2, slot := 2, constantValue := 0 }, { name := "atoms", type := (.array .int), accessFlags := 2, slot := 3, constantValue := 0 }, { name := "coefficients", type := (.array .double), accessFlags := 2, slot := 4, constantValue := 0 }, { name := "size", type := .int, accessFlags := 2, slot := 5, constantValue := 0 }]
  methods := #[k3m0, k3m1, k3m2, k3m3, k3m4, k3m5, k3m6, k3m7]
  instanceTypes := #[.double, .boolean, .double, (.array .int), (.array .double), .int]
  staticTypes := #[]
  resolved := Array.replicate 119 none
  statics := none }

def pool4 : Array CpInfo := pool [(2, .class_ 4), (1, u "java/lang/Object"), (0, u "<init>"), (0, u "()V"), (1, .class_ 10), (1, u "java/lang/System"), (0, u "allowSecurityManager"), (0, u "I"), (16, u "cons"), (0, u "Ljava/io/Console;"), (77, .class_ 110), (1, u "java/lang/System$CallersHolder"), (43, u "initialErrStream"), (0, u "Ljava/io/PrintStream;"), (19, u "security"), (0, u "Ljava/lang/SecurityManager;"), (31, .class_ 209), (0, u "java/lang/System$1"), (7, u "props"), (0, u "Ljava/util/Properties;"), (2, u "lineSeparator"), (0, u "Ljava/lang/String;"), (96, .class_ 321), (1, u "java/lang/System$LoggerFinder"), (5, .class_ 328), (0, u "java/lang/System$Logger"), (67, u "err"), (2, u "out"), (91, u "notSupportedJnuEncoding"), (15, u "in"), (17, u "initialIn"), (0, u "Ljava/io/InputStream;"), (35, u "bootLayer"), (0, u "Ljava/lang/ModuleLayer;"), (99, .class_ 664), (0, u "java/lang/System$2"), (9, u "NEVER"), (2, u "MAYBE"), (49, u "arraycopy"), (0, u "(Ljava/lang/Object;ILjava/lang/Object;II)V"), (72, .class_ 802), (0, u "java/lang/System$Logger$Level")] 31

def k4m0 : Method := { name := "<init>", desc := "()V", sig := { parameters := [], returnType := none }, accessFlags := 2, code := none }
def k4m1 : Method := { name := "arraycopy", desc := "(Ljava/lang/Object;ILjava/lang/Object;II)V", sig := { parameters := [(.object "java/lang/Object"), .int, (.object "java/lang/Object"), .int, .int], returnType := none }, accessFlags := 265, code := none }
/-- java/lang/System -/
def k4 : Class := { plain "java/lang/System" (some 0) with
  accessFlags := 49
  interfaces := #[]
  cf := some (fileOf pool4 8 #[.nestMembers #[319, 327, 801, 108, 663, 208]] #[{ accessFlags := 2, nameIndex := 5, descriptorIndex := 6, attributes := #[] }, { accessFlags := 265, nameIndex := 727, descriptorIndex := 728, attributes := #[] }] 49 2 #[] #[{ accessFlags := 25, nameIndex := 507, descriptorIndex := 526, attributes := #[] }, { accessFlags := 25, nameIndex := 399, descriptorIndex := 155, attributes := #[] }, { accessFlags := 25, nameIndex := 396, descriptorIndex := 155, attributes := #[] }, { accessFlags := 10, nameIndex := 525, descriptorIndex := 526, attributes := #[] }, { accessFlags := 26, nameIndex := 674, descriptorIndex := 12, attributes := #[] }, { accessFlags := 26, nameIndex := 677, descriptorIndex := 12, attributes := #[] }, { accessFlags := 10, nameIndex := 11, descriptorIndex := 12, attributes := #[] }, { accessFlags := 74, nameIndex := 175, descriptorIndex := 176, attributes := #[] }, { accessFlags := 10, nameIndex := 491, descriptorIndex := 222, attributes := #[] }, { accessFlags := 74, nameIndex := 29, descriptorIndex := 30, attributes := #[] }, { accessFlags := 74, nameIndex := 154, descriptorIndex := 155, attributes := #[] }, { accessFlags := 10, nameIndex := 217, descriptorIndex := 218, attributes := #[] }, { accessFlags := 10, nameIndex := 221, descriptorIndex := 222, attributes := #[] }, { accessFlags := 8, nameIndex := 562, descriptorIndex := 563, attributes := #[] }])
  fields := #[{ name := "in", type := (.object "java/io/InputStream"), accessFlags := 25, slot := 0, constantValue := 0 }, { name := "out", type := (.object "java/io/PrintStream"), accessFlags := 25, slot := 1, constantValue := 0 }, { name := "err", type := (.object "java/io/PrintStream"), accessFlags := 25, slot := 2, constantValue := 0 }, { name := "initialIn", type := (.object "java/io/InputStream"), accessFlags := 10, slot := 3, constantValue := 0 }, { name := "NEVER", type := .int, accessFlags := 26, slot := 4, constantValue := 0 }, { name := "MAYBE", type := .int, accessFlags := 26, slot := 5, constantValue := 0 }, { name := "allowSecurityManager", type := .int, accessFlags := 10, slot := 6, constantValue := 0 }, { name := "security", type := (.object "java/lang/SecurityManager"), accessFlags := 74, slot := 7, constantValue := 0 }, { name := "notSupportedJnuEncoding", type := (.object "java/lang/String"), accessFlags := 10, slot := 8, constantValue := 0 }, { name := "cons", type := (.object "java/io/Console"), accessFlags := 74, slot := 9, constantValue := 0 }, { name := "initialErrStream", type := (.object "java/io/PrintStream"), accessFlags := 74, slot := 10, constantValue := 0 }, { name := "props", type := (.object "java/util/Properties"), accessFlags := 10, slot := 11, constantValue := 0 }, { name := "lineSeparator", type := (.object "java/lang/String"), accessFlags := 10, slot := 12, constantValue := 0 }, { name := "bootLayer", type := (.object "java/lang/ModuleLayer"), accessFlags := 8, slot := 13, constantValue := 0 }]
  methods := #[k4m0, k4m1]
  instanceTypes := #[]
  staticTypes := #[(.object "java/io/InputStream"), (.object "java/io/PrintStream"), (.object "java/io/PrintStream"), (.object "java/io/InputStream"), .int, .int, .int, (.object "java/lang/SecurityManager"), (.object "java/lang/String"), (.object "java/io/Console"), (.object "java/io/PrintStream"), (.object "java/util/Properties"), (.object "java/lang/String"), (.object "java/lang/ModuleLayer")]
  resolved := Array.replicate 834 none
  statics := none }

def pool5 : Array CpInfo := pool [(1, .class_ 2), (0, u "java/lang/Math"), (1, .class_ 6), (1, u "java/lang/Object"), (0, u "<init>"), (0, u "()V"), (89, .class_ 100), (1, u "java/lang/Math$RandomNumberGeneratorHolder"), (71, u "negativeZeroFloatBits"), (0, u "J"), (2, u "negativeZeroDoubleBits"), (21, u "max"), (46, u "$assertionsDisabled"), (0, u "Z"), (88, u "(II)I"), (2, u "twoToTheDoubleScaleDown"), (0, u "D"), (4, u "twoToTheDoubleScaleUp"), (9, u "E"), (3, u "PI"), (2, u "TAU"), (2, u "DEGREES_TO_RADIANS"), (0, u "RADIANS_TO_DEGREES")] 94

def k5m0 : Method := { name := "<init>", desc := "()V", sig := { parameters := [], returnType := none }, accessFlags := 2, code := none }
def k5c1 : Code := { maxStack := 2, maxLocals := 2, code := jdk_29_method_65_code, exceptionTable := #[], attributes := #[] }
def k5m1 : Method := { name := "max", desc := "(II)I", sig := { parameters := [.int, .int], returnType := some .int }, accessFlags := 9, code := some k5c1 }
/-- java/lang/Math -/
def k5 : Class := { plain "java/lang/Math" (some 0) with
  accessFlags := 49
  interfaces := #[]
  cf := some (fileOf pool5 1 #[.nestMembers #[98]] #[{ accessFlags := 2, nameIndex := 7, descriptorIndex := 8, attributes := #[] }, { accessFlags := 9, nameIndex := 198, descriptorIndex := 335, attributes := #[] }] 49 4 #[] #[{ accessFlags := 25, nameIndex := 354, descriptorIndex := 339, attributes := #[] }, { accessFlags := 25, nameIndex := 358, descriptorIndex := 339, attributes := #[] }, { accessFlags := 25, nameIndex := 361, descriptorIndex := 339, attributes := #[] }, { accessFlags := 26, nameIndex := 364, descriptorIndex := 339, attributes := #[] }, { accessFlags := 26, nameIndex := 365, descriptorIndex := 339, attributes := #[] }, { accessFlags := 26, nameIndex := 172, descriptorIndex := 173, attributes := #[] }, { accessFlags := 26, nameIndex := 176, descriptorIndex := 173, attributes := #[] }, { accessFlags := 8, nameIndex := 344, descriptorIndex := 339, attributes := #[] }, { accessFlags := 8, nameIndex := 338, descriptorIndex := 339, attributes := #[] }, { accessFlags := 4120, nameIndex := 245, descriptorIndex := 246, attributes := #[] }])
  fields := #[{ name := "E", type := .double, accessFlags := 25, slot := 0, constantValue := 0 }, { name := "PI", type := .double, accessFlags := 25, slot := 1, constantValue := 0 }, { name := "TAU", type := .double, accessFlags := 25, slot := 2, constantValue := 0 }, { name := "DEGREES_TO_RADIANS", type := .double, accessFlags := 26, slot := 3, constantValue := 0 }, { name := "RADIANS_TO_DEGREES", type := .double, accessFlags := 26, slot := 4, constantValue := 0 }, { name := "negativeZeroFloatBits", type := .long, accessFlags := 26, slot := 5, constantValue := 0 }, { name := "negativeZeroDoubleBits", type := .long, accessFlags := 26, slot := 6, constantValue := 0 }, { name := "twoToTheDoubleScaleUp", type := .double, accessFlags := 8, slot := 7, constantValue := 0 }, { name := "twoToTheDoubleScaleDown", type := .double, accessFlags := 8, slot := 8, constantValue := 0 }, { name := "$assertionsDisabled", type := .boolean, accessFlags := 4120, slot := 9, constantValue := 0 }]
  methods := #[k5m0, k5m1]
  instanceTypes := #[]
  staticTypes := #[.double, .double, .double, .double, .double, .long, .long, .double, .double, .boolean]
  resolved := Array.replicate 460 none
  statics := none }

def pool6 : Array CpInfo := pool [(1, .class_ 2), (0, u "java/io/Serializable"), (0, .class_ 4), (0, u "java/lang/Object")] 2

/-- java/io/Serializable -/
def k6 : Class := { plain "java/io/Serializable" (some 0) with
  accessFlags := 1537
  interfaces := #[]
  cf := some (fileOf pool6 1 #[] #[] 1537 3 #[] #[])
  fields := #[]
  methods := #[]
  instanceTypes := #[]
  staticTypes := #[]
  resolved := Array.replicate 7 none
  statics := none }

def pool7 : Array CpInfo := pool [(2, .class_ 4), (1, u "java/lang/Object"), (0, u "<init>"), (0, u "()V"), (1, .class_ 10), (1, u "java/lang/Number"), (2, .class_ 14), (0, u "java/io/Serializable"), (0, u "serialVersionUID"), (0, u "J")] 20

def k7m0 : Method := { name := "<init>", desc := "()V", sig := { parameters := [], returnType := none }, accessFlags := 1, code := none }
/-- java/lang/Number -/
def k7 : Class := { plain "java/lang/Number" (some 0) with
  accessFlags := 1057
  interfaces := #[6]
  cf := some (fileOf pool7 8 #[] #[{ accessFlags := 1, nameIndex := 5, descriptorIndex := 6, attributes := #[] }] 1057 2 #[13] #[{ accessFlags := 26, nameIndex := 15, descriptorIndex := 16, attributes := #[] }])
  fields := #[{ name := "serialVersionUID", type := .long, accessFlags := 26, slot := 0, constantValue := 0 }]
  methods := #[k7m0]
  instanceTypes := #[]
  staticTypes := #[.long]
  resolved := Array.replicate 37 none
  statics := none }

def pool8 : Array CpInfo := pool [(1, .class_ 2), (0, u "java/lang/Comparable"), (0, .class_ 4), (0, u "java/lang/Object")] 7

/-- java/lang/Comparable -/
def k8 : Class := { plain "java/lang/Comparable" (some 0) with
  accessFlags := 1537
  interfaces := #[]
  cf := some (fileOf pool8 1 #[] #[] 1537 3 #[] #[])
  fields := #[]
  methods := #[]
  instanceTypes := #[]
  staticTypes := #[]
  resolved := Array.replicate 12 none
  statics := none }

def pool9 : Array CpInfo := pool [(1, .class_ 2), (0, u "java/lang/constant/Constable"), (0, .class_ 4), (0, u "java/lang/Object")] 6

/-- java/lang/constant/Constable -/
def k9 : Class := { plain "java/lang/constant/Constable" (some 0) with
  accessFlags := 1537
  interfaces := #[]
  cf := some (fileOf pool9 1 #[] #[] 1537 3 #[] #[])
  fields := #[]
  methods := #[]
  instanceTypes := #[]
  staticTypes := #[]
  resolved := Array.replicate 11 none
  statics := none }

def pool10 : Array CpInfo := pool [(1, .class_ 2), (0, u "java/lang/constant/ConstantDesc"), (0, .class_ 4), (0, u "java/lang/Object")] 32

/-- java/lang/constant/ConstantDesc -/
def k10 : Class := { plain "java/lang/constant/ConstantDesc" (some 0) with
  accessFlags := 1537
  interfaces := #[]
  cf := some (fileOf pool10 1 #[] #[] 1537 3 #[] #[])
  fields := #[]
  methods := #[]
  instanceTypes := #[]
  staticTypes := #[]
  resolved := Array.replicate 37 none
  statics := none }

def pool11 : Array CpInfo := pool [(1, .class_ 2), (0, u "java/lang/Double"), (46, u "(D)J"), (64, .class_ 116), (1, u "java/lang/Number"), (3, u "value"), (0, u "D"), (14, u "doubleToRawLongBits"), (36, u "TYPE"), (0, u "Ljava/lang/Class;"), (0, .class_ 176), (0, u "java/lang/Comparable"), (0, .class_ 178), (0, u "java/lang/constant/Constable"), (0, .class_ 180), (0, u "java/lang/constant/ConstantDesc"), (0, u "POSITIVE_INFINITY"), (3, u "NEGATIVE_INFINITY"), (2, u "NaN"), (2, u "MAX_VALUE"), (0, u "MIN_NORMAL"), (0, u "MIN_VALUE"), (2, u "SIZE"), (0, u "I"), (1, u "PRECISION"), (1, u "MAX_EXPONENT"), (1, u "MIN_EXPONENT"), (1, u "BYTES"), (3, u "serialVersionUID"), (0, u "J")] 79

def k11m0 : Method := { name := "doubleToRawLongBits", desc := "(D)J", sig := { parameters := [.double], returnType := some .long }, accessFlags := 265, code := none }
/-- java/lang/Double -/
def k11 : Class := { plain "java/lang/Double" (some 7) with
  accessFlags := 49
  interfaces := #[8, 9, 10]
  cf := some (fileOf pool11 1 #[] #[{ accessFlags := 265, nameIndex := 136, descriptorIndex := 49, attributes := #[] }] 49 114 #[175, 177, 179] #[{ accessFlags := 25, nameIndex := 181, descriptorIndex := 121, attributes := #[] }, { accessFlags := 25, nameIndex := 185, descriptorIndex := 121, attributes := #[] }, { accessFlags := 25, nameIndex := 188, descriptorIndex := 121, attributes := #[] }, { accessFlags := 25, nameIndex := 191, descriptorIndex := 121, attributes := #[] }, { accessFlags := 25, nameIndex := 192, descriptorIndex := 121, attributes := #[] }, { accessFlags := 25, nameIndex := 193, descriptorIndex := 121, attributes := #[] }, { accessFlags := 25, nameIndex := 196, descriptorIndex := 197, attributes := #[] }, { accessFlags := 25, nameIndex := 199, descriptorIndex := 197, attributes := #[] }, { accessFlags := 25, nameIndex := 201, descriptorIndex := 197, attributes := #[] }, { accessFlags := 25, nameIndex := 203, descriptorIndex := 197, attributes := #[] }, { accessFlags := 25, nameIndex := 205, descriptorIndex := 197, attributes := #[] }, { accessFlags := 25, nameIndex := 173, descriptorIndex := 174, attributes := #[] }, { accessFlags := 18, nameIndex := 120, descriptorIndex := 121, attributes := #[] }, { accessFlags := 26, nameIndex := 209, descriptorIndex := 210, attributes := #[] }])
  fields := #[{ name := "POSITIVE_INFINITY", type := .double, accessFlags := 25, slot := 0, constantValue := 0 }, { name := "NEGATIVE_INFINITY", type := .double, accessFlags := 25, slot := 1, constantValue := 0 }, { name := "NaN", type := .double, accessFlags := 25, slot := 2, constantValue := 0 }, { name := "MAX_VALUE", type := .double, accessFlags := 25, slot := 3, constantValue := 0 }, { name := "MIN_NORMAL", type := .double, accessFlags := 25, slot := 4, constantValue := 0 }, { name := "MIN_VALUE", type := .double, accessFlags := 25, slot := 5, constantValue := 0 }, { name := "SIZE", type := .int, accessFlags := 25, slot := 6, constantValue := 0 }, { name := "PRECISION", type := .int, accessFlags := 25, slot := 7, constantValue := 0 }, { name := "MAX_EXPONENT", type := .int, accessFlags := 25, slot := 8, constantValue := 0 }, { name := "MIN_EXPONENT", type := .int, accessFlags := 25, slot := 9, constantValue := 0 }, { name := "BYTES", type := .int, accessFlags := 25, slot := 10, constantValue := 0 }, { name := "TYPE", type := (.object "java/lang/Class"), accessFlags := 25, slot := 11, constantValue := 0 }, { name := "value", type := .double, accessFlags := 18, slot := 0, constantValue := 0 }, { name := "serialVersionUID", type := .long, accessFlags := 26, slot := 12, constantValue := 0 }]
  methods := #[k11m0]
  instanceTypes := #[.double]
  staticTypes := #[.double, .double, .double, .double, .double, .double, .int, .int, .int, .int, .int, (.object "java/lang/Class"), .long]
  resolved := Array.replicate 290 none
  statics := none }

def pool12 : Array CpInfo := pool [(1, u "java/lang/Cloneable"), (0, .class_ 1), (0, u "java/lang/Object"), (0, .class_ 3)] 3

/-- java/lang/Cloneable -/
def k12 : Class := { plain "java/lang/Cloneable" (some 0) with
  accessFlags := 1537
  interfaces := #[]
  cf := some (fileOf pool12 2 #[] #[] 1537 4 #[] #[])
  fields := #[]
  methods := #[]
  instanceTypes := #[]
  staticTypes := #[]
  resolved := Array.replicate 8 none
  statics := none }

/-- the primitive byte -/
def k13 : Class := { plain "byte" none with kind := .primitive 'B', accessFlags := 0x411 }
/-- [B -/
def k14 : Class := { plain "[B" (some 0) with kind := .array 13 .byte, interfaces := #[12, 6], accessFlags := 1041 }

/-- the primitive double -/
def k15 : Class := { plain "double" none with kind := .primitive 'D', accessFlags := 0x411 }
/-- [D -/
def k16 : Class := { plain "[D" (some 0) with kind := .array 15 .double, interfaces := #[12, 6], accessFlags := 1041 }

/-- the primitive int -/
def k17 : Class := { plain "int" none with kind := .primitive 'I', accessFlags := 0x411 }
/-- [I -/
def k18 : Class := { plain "[I" (some 0) with kind := .array 17 .int, interfaces := #[12, 6], accessFlags := 1041 }

/-- the primitive long -/
def k19 : Class := { plain "long" none with kind := .primitive 'J', accessFlags := 0x411 }
/-- [J -/
def k20 : Class := { plain "[J" (some 0) with kind := .array 19 .long, interfaces := #[12, 6], accessFlags := 1041 }

def heap : Heap := #[]
def classes : Array Class := #[k0, k1, k2, k3, k4, k5, k6, k7, k8, k9, k10, k11, k12, k13, k14, k15, k16, k17, k18, k19, k20]
def interned : List (Array UInt16 × Addr) := []
def slotsUsed : Nat := 0
def theMethod : MethodId := ⟨1, 1⟩
def args0 : Array Value := #[.int 5, .int 7]
def aboutOver (below : List Frame) : State where
  vm := { classes := classes, interned := interned.toArray }
  heap := heap
  slotsUsed := slotsUsed
  threads := #[{ frames := .invoking theMethod args0 :: below }]
def below0 : List Frame := [.native { method := ⟨0, 0⟩, args := #[] }]
def about1 : State := aboutOver below0
def p0 : Program := .bare "" "" ""
def e0 : Env := launch0.env 0 0 0
theorem w_frames : about1.frames = Frame.invoking theMethod args0 :: below0 := rfl
set_option maxRecDepth 65536 in
theorem w_args : argsFit about1.vm theMethod args0 = true := by decide +kernel
set_option maxRecDepth 65536 in
theorem w_heap : heapFits about1 = true := by decide +kernel
set_option maxRecDepth 65536 in
theorem w_runnable : about1.curStatus? = some .runnable := by decide +kernel
set_option maxRecDepth 65536 in
theorem w_alone : about1.alone = true := by decide +kernel
set_option maxRecDepth 65536 in
theorem w_named : about1.methodNamed? x = some theMethod := by decide +kernel
set_option maxRecDepth 65536 in
theorem w_hears : about1.hears theMethod below0 = true := by decide +kernel
set_option maxRecDepth 65536 in
theorem w_ripe : about1.ripe theMethod args0 below0 = true := by decide +kernel
theorem w_running : about1.status = .running := rfl
set_option maxRecDepth 65536 in
theorem w_room : about1.hasRoom e0.platform room_1 = true :=
  launch0.hasRoom_least _ room_1 (by decide +kernel) (by decide +kernel) (by decide +kernel) (by decide +kernel) (by decide +kernel) (by decide +kernel)
theorem allAtoms_all (ts : List Jvm.Cond) (a : Array Jvm.Value) (st : Jvm.State) : (allAtoms ts).before a st = ts.all (fun c => c.before a st) := by
  induction ts with
  | nil => rfl
  | cons c t ih =>
    show (Jvm.Cond.and c (allAtoms t)).before a st = _
    rw [Jvm.Cond.before_and, ih, List.all_cons]
def words1 : List Jvm.Cond := Jvm.Cond.code x code maxLocals ret :: tables_1
/-- a 'code' word, met by the world's own term for the bytes: nothing is compared byte by byte -/
theorem code_word {y : MethodName} {bytes : ByteArray} {mx : Nat} {rt : Option FieldType} {a : Array Value} {s : State} {m : MethodId} {meth : Method} {c : Code} (h1 : s.methodNamed? y = some m) (h2 : s.vm.method? m = some meth) (h3 : meth.code = some c) (h4 : c.code = bytes)
    (h5 : (c.maxLocals == mx && c.exceptionTable.isEmpty && decide (c.maxStack ≤ mostOperands) && decide (meth.sig.returnType = rt) && !meth.locks && decide (parseMethodDescriptor y.desc = some meth.sig)) = true) : (Jvm.Cond.code y bytes mx rt).before a s = true := by
  simp only [Bool.and_eq_true, beq_iff_eq, Bool.not_eq_true', decide_eq_true_eq] at h5
  obtain ⟨⟨⟨⟨⟨g1, g2⟩, g3⟩, g4⟩, g5⟩, g6⟩ := h5
  simp [Cond.before, Cond.holds, Cond.value, h1, h2, h3, h4, g1, g2, g3, g4, g5, g6]
def isCode : Jvm.Cond → Bool
  | .code _ _ _ _ => true
  | _ => false
theorem all_split {L : List Jvm.Cond} {P : Jvm.Cond → Bool} (h1 : L.all (fun c => isCode c || P c) = true) (h2 : ∀ c ∈ L.filter isCode, P c = true) : L.all P = true := by
  refine List.all_eq_true.mpr fun c hc => ?_
  have h := List.all_eq_true.mp h1 c hc
  rcases Bool.eq_false_or_eq_true (isCode c) with hi | hi
  · exact h2 c (List.mem_filter.mpr ⟨hc, hi⟩)
  · simpa [hi] using h
set_option maxRecDepth 65536 in
theorem w_c0 : (Jvm.Cond.code x code maxLocals ret).before args0 about1 = true := code_word (m := ⟨1, 1⟩) (meth := k1m1) (c := k1c1) (by decide +kernel) rfl rfl rfl (by decide +kernel)
set_option maxRecDepth 65536 in
theorem w_c1 : (Jvm.Cond.code ({ cls := "com/example/brisk_rules/briskrules/GroundRuleTable", name := "<init>", desc := "(J)V" } : Jvm.MethodName) prog_11_method_1_code (3 : Nat) (Option.none : Option Jvm.ClassFile.FieldType)).before args0 about1 = true := code_word (m := ⟨2, 0⟩) (meth := k2m0) (c := k2c0) (by decide +kernel) rfl rfl rfl (by decide +kernel)
set_option maxRecDepth 65536 in
theorem w_c2 : (Jvm.Cond.code ({ cls := "java/lang/Object", name := "<init>", desc := "()V" } : Jvm.MethodName) object_method_1_code (1 : Nat) (Option.none : Option Jvm.ClassFile.FieldType)).before args0 about1 = true := code_word (m := ⟨0, 0⟩) (meth := k0m0) (c := k0c0) (by decide +kernel) rfl rfl rfl (by decide +kernel)
set_option maxRecDepth 65536 in
theorem w_c3 : (Jvm.Cond.code ({ cls := "com/example/brisk_rules/briskrules/GroundRule$Builder", name := "<init>", desc := "(DZ)V" } : Jvm.MethodName) prog_10_method_1_code (4 : Nat) (Option.none : Option Jvm.ClassFile.FieldType)).before args0 about1 = true := code_word (m := ⟨3, 0⟩) (meth := k3m0) (c := k3c0) (by decide +kernel) rfl rfl rfl (by decide +kernel)
set_option maxRecDepth 65536 in
theorem w_c4 : (Jvm.Cond.code ({ cls := "com/example/brisk_rules/briskrules/GroundRule$Builder", name := "head", desc := "(IZ)Lcom/example/brisk_rules/briskrules/GroundRule$Builder;" } : Jvm.MethodName) prog_10_method_3_code (3 : Nat) (Option.some (Jvm.ClassFile.FieldType.object "com/example/brisk_rules/briskrules/GroundRule$Builder"))).before args0 about1 = true := code_word (m := ⟨3, 1⟩) (meth := k3m1) (c := k3c1) (by decide +kernel) rfl rfl rfl (by decide +kernel)
set_option maxRecDepth 65536 in
theorem w_c5 : (Jvm.Cond.code ({ cls := "com/example/brisk_rules/briskrules/GroundRuleTable", name := "add", desc := "(Lcom/example/brisk_rules/briskrules/GroundRule$Builder;)V" } : Jvm.MethodName) prog_11_method_3_code (12 : Nat) (Option.none : Option Jvm.ClassFile.FieldType)).before args0 about1 = true := code_word (m := ⟨2, 2⟩) (meth := k2m2) (c := k2c2) (by decide +kernel) rfl rfl rfl (by decide +kernel)
set_option maxRecDepth 65536 in
theorem w_c6 : (Jvm.Cond.code ({ cls := "com/example/brisk_rules/briskrules/GroundRule$Builder", name := "weight", desc := "()D" } : Jvm.MethodName) prog_10_method_8_code (1 : Nat) (Option.some Jvm.ClassFile.FieldType.double)).before args0 about1 = true := code_word (m := ⟨3, 2⟩) (meth := k3m2) (c := k3c2) (by decide +kernel) rfl rfl rfl (by decide +kernel)
set_option maxRecDepth 65536 in
theorem w_c7 : (Jvm.Cond.code ({ cls := "com/example/brisk_rules/briskrules/GroundRuleTable", name := "canonical", desc := "(Lcom/example/brisk_rules/briskrules/GroundRule$Builder;)I" } : Jvm.MethodName) prog_11_method_22_code (7 : Nat) (Option.some Jvm.ClassFile.FieldType.int)).before args0 about1 = true := code_word (m := ⟨2, 5⟩) (meth := k2m5) (c := k2c5) (by decide +kernel) rfl rfl rfl (by decide +kernel)
set_option maxRecDepth 65536 in
theorem w_c8 : (Jvm.Cond.code ({ cls := "com/example/brisk_rules/briskrules/GroundRule$Builder", name := "size", desc := "()I" } : Jvm.MethodName) prog_10_method_11_code (1 : Nat) (Option.some Jvm.ClassFile.FieldType.int)).before args0 about1 = true := code_word (m := ⟨3, 5⟩) (meth := k3m5) (c := k3c5) (by decide +kernel) rfl rfl rfl (by decide +kernel)
set_option maxRecDepth 65536 in
theorem w_c9 : (Jvm.Cond.code ({ cls := "com/example/brisk_rules/briskrules/GroundRule$Builder", name := "atom", desc := "(I)I" } : Jvm.MethodName) prog_10_method_12_code (2 : Nat) (Option.some Jvm.ClassFile.FieldType.int)).before args0 about1 = true := code_word (m := ⟨3, 6⟩) (meth := k3m6) (c := k3c6) (by decide +kernel) rfl rfl rfl (by decide +kernel)
set_option maxRecDepth 65536 in
theorem w_c10 : (Jvm.Cond.code ({ cls := "com/example/brisk_rules/briskrules/GroundRule$Builder", name := "coefficient", desc := "(I)D" } : Jvm.MethodName) prog_10_method_13_code (2 : Nat) (Option.some Jvm.ClassFile.FieldType.double)).before args0 about1 = true := code_word (m := ⟨3, 7⟩) (meth := k3m7) (c := k3c7) (by decide +kernel) rfl rfl rfl (by decide +kernel)
set_option maxRecDepth 65536 in
theorem w_c11 : (Jvm.Cond.code ({ cls := "com/example/brisk_rules/briskrules/GroundRule$Builder", name := "constant", desc := "()D" } : Jvm.MethodName) prog_10_method_10_code (1 : Nat) (Option.some Jvm.ClassFile.FieldType.double)).before args0 about1 = true := code_word (m := ⟨3, 4⟩) (meth := k3m4) (c := k3c4) (by decide +kernel) rfl rfl rfl (by decide +kernel)
set_option maxRecDepth 65536 in
theorem w_c12 : (Jvm.Cond.code ({ cls := "com/example/brisk_rules/briskrules/GroundRuleTable", name := "canBeUnsatisfied", desc := "(DI)Z" } : Jvm.MethodName) prog_11_method_23_code (7 : Nat) (Option.some Jvm.ClassFile.FieldType.boolean)).before args0 about1 = true := code_word (m := ⟨2, 6⟩) (meth := k2m6) (c := k2c6) (by decide +kernel) rfl rfl rfl (by decide +kernel)
set_option maxRecDepth 65536 in
theorem w_c13 : (Jvm.Cond.code ({ cls := "java/lang/Math", name := "max", desc := "(II)I" } : Jvm.MethodName) jdk_29_method_65_code (2 : Nat) (Option.some Jvm.ClassFile.FieldType.int)).before args0 about1 = true := code_word (m := ⟨5, 1⟩) (meth := k5m1) (c := k5c1) (by decide +kernel) rfl rfl rfl (by decide +kernel)
set_option maxRecDepth 65536 in
theorem w_c14 : (Jvm.Cond.code ({ cls := "com/example/brisk_rules/briskrules/GroundRule$Builder", name := "isSquared", desc := "()Z" } : Jvm.MethodName) prog_10_method_9_code (1 : Nat) (Option.some Jvm.ClassFile.FieldType.boolean)).before args0 about1 = true := code_word (m := ⟨3, 3⟩) (meth := k3m3) (c := k3c3) (by decide +kernel) rfl rfl rfl (by decide +kernel)
set_option maxRecDepth 65536 in
theorem w_c15 : (Jvm.Cond.code ({ cls := "com/example/brisk_rules/briskrules/GroundRuleTable", name := "hash", desc := "()I" } : Jvm.MethodName) prog_11_method_24_code (4 : Nat) (Option.some Jvm.ClassFile.FieldType.int)).before args0 about1 = true := code_word (m := ⟨2, 7⟩) (meth := k2m7) (c := k2c7) (by decide +kernel) rfl rfl rfl (by decide +kernel)
set_option maxRecDepth 65536 in
theorem w_c16 : (Jvm.Cond.code ({ cls := "com/example/brisk_rules/briskrules/GroundRuleTable", name := "literalCount", desc := "([JI)I" } : Jvm.MethodName) prog_11_method_26_code (2 : Nat) (Option.some Jvm.ClassFile.FieldType.int)).before args0 about1 = true := code_word (m := ⟨2, 8⟩) (meth := k2m8) (c := k2c8) (by decide +kernel) rfl rfl rfl (by decide +kernel)
set_option maxRecDepth 65536 in
theorem w_c17 : (Jvm.Cond.code ({ cls := "com/example/brisk_rules/briskrules/GroundRuleTable", name := "appendForm", desc := "()V" } : Jvm.MethodName) prog_11_method_27_code (2 : Nat) (Option.none : Option Jvm.ClassFile.FieldType)).before args0 about1 = true := code_word (m := ⟨2, 9⟩) (meth := k2m9) (c := k2c9) (by decide +kernel) rfl rfl rfl (by decide +kernel)
set_option maxRecDepth 65536 in
theorem w_c18 : (Jvm.Cond.code ({ cls := "com/example/brisk_rules/briskrules/GroundRuleTable", name := "size", desc := "()I" } : Jvm.MethodName) prog_11_method_7_code (1 : Nat) (Option.some Jvm.ClassFile.FieldType.int)).before args0 about1 = true := code_word (m := ⟨2, 3⟩) (meth := k2m3) (c := k2c3) (by decide +kernel) rfl rfl rfl (by decide +kernel)
set_option maxRecDepth 65536 in
theorem w_c19 : (Jvm.Cond.code ({ cls := "com/example/brisk_rules/briskrules/GroundRuleTable", name := "isSquared", desc := "(I)Z" } : Jvm.MethodName) prog_11_method_11_code (2 : Nat) (Option.some Jvm.ClassFile.FieldType.boolean)).before args0 about1 = true := code_word (m := ⟨2, 4⟩) (meth := k2m4) (c := k2c4) (by decide +kernel) rfl rfl rfl (by decide +kernel)
def codes1 : List Jvm.Cond := [Jvm.Cond.code x code maxLocals ret, Jvm.Cond.code ({ cls := "com/example/brisk_rules/briskrules/GroundRuleTable", name := "<init>", desc := "(J)V" } : Jvm.MethodName) prog_11_method_1_code (3 : Nat) (Option.none : Option Jvm.ClassFile.FieldType), Jvm.Cond.code ({ cls := "java/lang/Object", name := "<init>", desc := "()V" } : Jvm.MethodName) object_method_1_code (1 : Nat) (Option.none : Option Jvm.ClassFile.FieldType), Jvm.Cond.code ({ cls := "com/example/brisk_rules/briskrules/GroundRule$Builder", name := "<init>", desc := "(DZ)V" } : Jvm.MethodName) prog_10_method_1_code (4 : Nat) (Option.none : Option Jvm.ClassFile.FieldType), Jvm.Cond.code ({ cls := "com/example/brisk_rules/briskrules/GroundRule$Builder", name := "head", desc := "(IZ)Lcom/example/brisk_rules/briskrules/GroundRule$Builder;" } : Jvm.MethodName) prog_10_method_3_code (3 : Nat) (Option.some (Jvm.ClassFile.FieldType.object "com/example/brisk_rules/briskrules/GroundRule$Builder")), Jvm.Cond.code ({ cls := "com/example/brisk_rules/briskrules/GroundRuleTable", name := "add", desc := "(Lcom/example/brisk_rules/briskrules/GroundRule$Builder;)V" } : Jvm.MethodName) prog_11_method_3_code (12 : Nat) (Option.none : Option Jvm.ClassFile.FieldType), Jvm.Cond.code ({ cls := "com/example/brisk_rules/briskrules/GroundRule$Builder", name := "weight", desc := "()D" } : Jvm.MethodName) prog_10_method_8_code (1 : Nat) (Option.some Jvm.ClassFile.FieldType.double), Jvm.Cond.code ({ cls := "com/example/brisk_rules/briskrules/GroundRuleTable", name := "canonical", desc := "(Lcom/example/brisk_rules/briskrules/GroundRule$Builder;)I" } : Jvm.MethodName) prog_11_method_22_code (7 : Nat) (Option.some Jvm.ClassFile.FieldType.int), Jvm.Cond.code ({ cls := "com/example/brisk_rules/briskrules/GroundRule$Builder", name := "size", desc := "()I" } : Jvm.MethodName) prog_10_method_11_code (1 : Nat) (Option.some Jvm.ClassFile.FieldType.int), Jvm.Cond.code ({ cls := "com/example/brisk_rules/briskrules/GroundRule$Builder", name := "atom", desc := "(I)I" } : Jvm.MethodName) prog_10_method_12_code (2 : Nat) (Option.some Jvm.ClassFile.FieldType.int), Jvm.Cond.code ({ cls := "com/example/brisk_rules/briskrules/GroundRule$Builder", name := "coefficient", desc := "(I)D" } : Jvm.MethodName) prog_10_method_13_code (2 : Nat) (Option.some Jvm.ClassFile.FieldType.double), Jvm.Cond.code ({ cls := "com/example/brisk_rules/briskrules/GroundRule$Builder", name := "constant", desc := "()D" } : Jvm.MethodName) prog_10_method_10_code (1 : Nat) (Option.some Jvm.ClassFile.FieldType.double), Jvm.Cond.code ({ cls := "com/example/brisk_rules/briskrules/GroundRuleTable", name := "canBeUnsatisfied", desc := "(DI)Z" } : Jvm.MethodName) prog_11_method_23_code (7 : Nat) (Option.some Jvm.ClassFile.FieldType.boolean), Jvm.Cond.code ({ cls := "java/lang/Math", name := "max", desc := "(II)I" } : Jvm.MethodName) jdk_29_method_65_code (2 : Nat) (Option.some Jvm.ClassFile.FieldType.int), Jvm.Cond.code ({ cls := "com/example/brisk_rules/briskrules/GroundRule$Builder", name := "isSquared", desc := "()Z" } : Jvm.MethodName) prog_10_method_9_code (1 : Nat) (Option.some Jvm.ClassFile.FieldType.boolean), Jvm.Cond.code ({ cls := "com/example/brisk_rules/briskrules/GroundRuleTable", name := "hash", desc := "()I" } : Jvm.MethodName) prog_11_method_24_code (4 : Nat) (Option.some Jvm.ClassFile.FieldType.int), Jvm.Cond.code ({ cls := "com/example/brisk_rules/briskrules/GroundRuleTable", name := "literalCount", desc := "([JI)I" } : Jvm.MethodName) prog_11_method_26_code (2 : Nat) (Option.some Jvm.ClassFile.FieldType.int), Jvm.Cond.code ({ cls := "com/example/brisk_rules/briskrules/GroundRuleTable", name := "appendForm", desc := "()V" } : Jvm.MethodName) prog_11_method_27_code (2 : Nat) (Option.none : Option Jvm.ClassFile.FieldType), Jvm.Cond.code ({ cls := "com/example/brisk_rules/briskrules/GroundRuleTable", name := "size", desc := "()I" } : Jvm.MethodName) prog_11_method_7_code (1 : Nat) (Option.some Jvm.ClassFile.FieldType.int), Jvm.Cond.code ({ cls := "com/example/brisk_rules/briskrules/GroundRuleTable", name := "isSquared", desc := "(I)Z" } : Jvm.MethodName) prog_11_method_11_code (2 : Nat) (Option.some Jvm.ClassFile.FieldType.boolean)]
set_option maxRecDepth 65536 in
theorem codes_eq : words1.filter isCode = codes1 := rfl
theorem w_codes : ∀ c ∈ words1.filter isCode, c.before args0 about1 = true := by
  rw [codes_eq]
  intro c hc
  simp only [codes1, List.mem_cons, List.not_mem_nil, or_false] at hc
  rcases hc with rfl | rfl | rfl | rfl | rfl | rfl | rfl | rfl | rfl | rfl | rfl | rfl | rfl | rfl | rfl | rfl | rfl | rfl | rfl | rfl
  · exact w_c0
  · exact w_c1
  · exact w_c2
  · exact w_c3
  · exact w_c4
  · exact w_c5
  · exact w_c6
  · exact w_c7
  · exact w_c8
  · exact w_c9
  · exact w_c10
  · exact w_c11
  · exact w_c12
  · exact w_c13
  · exact w_c14
  · exact w_c15
  · exact w_c16
  · exact w_c17
  · exact w_c18
  · exact w_c19
set_option maxRecDepth 65536 in
theorem w_t1 : (words1.take 24).all (fun c => isCode c || c.before args0 about1) = true := by decide +kernel
set_option maxRecDepth 65536 in
theorem w_t2 : ((words1.drop 24).take 24).all (fun c => isCode c || c.before args0 about1) = true := by decide +kernel
set_option maxRecDepth 65536 in
theorem w_t3 : (((words1.drop 24).drop 24).take 24).all (fun c => isCode c || c.before args0 about1) = true := by decide +kernel
set_option maxRecDepth 65536 in
theorem w_t4 : ((((words1.drop 24).drop 24).drop 24).take 24).all (fun c => isCode c || c.before args0 about1) = true := by decide +kernel
set_option maxRecDepth 65536 in
theorem w_t5 : (((((words1.drop 24).drop 24).drop 24).drop 24).take 24).all (fun c => isCode c || c.before args0 about1) = true := by decide +kernel
set_option maxRecDepth 65536 in
theorem w_t6 : ((((((words1.drop 24).drop 24).drop 24).drop 24).drop 24).take 24).all (fun c => isCode c || c.before args0 about1) = true := by decide +kernel
set_option maxRecDepth 65536 in
theorem w_t7 : ((((((words1.drop 24).drop 24).drop 24).drop 24).drop 24).drop 24).all (fun c => isCode c || c.before args0 about1) = true := by decide +kernel
theorem w_tables : (allAtoms (Jvm.Cond.code x code maxLocals ret :: tables_1)).before args0 about1 = true := by
  rw [allAtoms_all]
  show words1.all (fun c => c.before args0 about1) = true
  refine all_split ?_ w_codes
  rw [← List.take_append_drop 24 words1, List.all_append, w_t1, ← List.take_append_drop 24 (words1.drop 24), List.all_append, w_t2, ← List.take_append_drop 24 ((words1.drop 24).drop 24), List.all_append, w_t3, ← List.take_append_drop 24 (((words1.drop 24).drop 24).drop 24), List.all_append, w_t4, ← List.take_append_drop 24 ((((words1.drop 24).drop 24).drop 24).drop 24), List.all_append, w_t5, ← List.take_append_drop 24 (((((words1.drop 24).drop 24).drop 24).drop 24).drop 24), List.all_append, w_t6, w_t7]
  rfl
set_option maxRecDepth 65536 in
theorem w_case : (Jvm.Cond.and given_1 narrow_1).before args0 about1 = true := by decide +kernel
theorem w_applies : (headSpec (Jvm.Cond.code x code maxLocals ret :: tables_1) room_1).applies x e0.platform about1 = true :=
  (Spec.applies_iff w_frames).mpr ⟨w_running, w_runnable, w_alone, w_named, w_hears, w_ripe, w_room, w_tables⟩
theorem atStart : AtStart classFile x code maxLocals ret World_1 tables_1 room_1 Calls_1 rest_1 Pre_1 launch0 p0 e0 about1 theMethod args0 below0 :=
  ⟨lists_1, trivial, launch0.admits_env _ _ _, launch0.least_env, fairChoices_fair.cas, fairChoices_fair.clock, w_frames, w_args, w_heap, w_applies, trivial, trivial, w_case⟩
end start1
theorem witness_1 : WitnessClaimed_1 := ⟨start1.p0, start1.e0, start1.about1, start1.theMethod, start1.args0, start1.below0, start1.atStart⟩
end Jvm.Pilot.@@N@@
