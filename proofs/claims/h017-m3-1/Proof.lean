import JvmDerived
import JvmDerived.Pilot.@@N@@Statement
import JvmDerived.Pilot.@@N@@Code
set_option linter.unusedVariables false
set_option linter.unusedSimpArgs false
namespace Jvm.Pilot.@@N@@
open Jvm Jvm.ClassFile Sem Op Lib Jvm.Free Jvm.Stand Jvm.LawKit Jvm.RoadKit Bundle Jvm.Pilot.@@N@@.Jvm.D
section OwnKit
variable {p : Program} {l : Launch} {e : Env} {R : Room} {s : State} {m : MethodId} {args : Array Value} {below : List Frame} {meth : Method} {c : Code} {T : State} {locs : List Loc} {cells slots : Nat} {Z : State} {a0 : Array Value} {h h' h0 : Heap}
/-- the run comes, from the frame g over T, to an end of which F holds -/
def own_Go (tb : Tables) (e : Env) (below : List Frame) (F : State → Outcome → Prop) (T : State) (g : JFrame) : Prop := ∃ s₂ o, Steps tb e below (T.setTop g) s₂ ∧ F s₂ o
theorem own_st {tb : Tables} {F : State → Outcome → Prop} {T' : State} {g g' : JFrame} (st : ∀ t, Steps tb e below (T'.setTop g') t → Steps tb e below (T.setTop g) t) (k : own_Go tb e below F T' g') : own_Go tb e below F T g := by
  obtain ⟨a, o, h1, h2⟩ := k
  exact ⟨a, o, st a h1, h2⟩
/-- the end that a contract asks -/
def own_F (below : List Frame) (s : State) (Q : Option Value → Heap → List Loc → Prop) (C S : Nat) : State → Outcome → Prop := fun s₂ o => s₂.status = .running ∧ Ended s₂ below o ∧ ∃ v L, o = .returned v ∧ Q v s₂.heap L ∧ FrameEnd s o s₂ L C S
/-- what a body's walk knows of the body -/
def own_In (p : Program) (s : State) (m : MethodId) (meth : Method) (c : Code) (Z : State) (bytes : ByteArray) (maxL : Nat) (own nm : String) (ret : Option FieldType) : Prop := p.tables.exec = Jvm.exec ∧ c.code = bytes ∧ c.maxLocals = maxL ∧ s.vm.findClass own = some m.cls ∧ meth.name = nm ∧ meth.sig.returnType = ret ∧ meth.locks = false ∧ Z.Warmed39 s.vm
theorem own_enter {y : MethodName} {bytes : ByteArray} {maxL : Nat} {ret : Option FieldType} {ws : List Jvm.Cond} {rm : Room} {as' : Array Value} {Q : Option Value → Heap → List Loc → Prop} {C S : Nat} (hp : plainFor y = true)
    (body : ∀ (p : Program) (e : Env) (s : State) (m : MethodId) (below : List Frame) (meth : Method) (c : Code) (T : State), Stand p l e rm s m as' below meth c T [] 0 0 → own_In p s m meth c Z bytes maxL y.cls y.name ret → T.heap = h0 → own_Go p.tables e below (own_F below s Q C S) T (entryFrame m as' maxL)) :
    MetFree l y (head1 (Jvm.Cond.code y bytes maxL ret :: ws) rm) (fun a U => a = as' ∧ Z.Warmed39 U.vm ∧ U.heap = h0) (fun _ _ _ _ _ => True) (fun _ U o U' => ∃ v L, o = .returned v ∧ Q v U'.heap L ∧ FrameEnd U o U' L C S) := by
  refine MetFree.of_bodySF hp hisR ?_
  intro p e s m args below meth c s₁ Bd hml0 hP hK
  obtain ⟨rfl, hZ, hh⟩ := hP
  exact body p e s m below meth c s₁ (Stand.of_body Bd) ⟨Bd.exec, Bd.bytes, hml0, findClass_of_methodNamed Bd.named, (name_of_methodNamed Bd.named Bd.method).1, Bd.returns, Bd.notSynchronized, hZ⟩ (by rw [← hh, Bd.state]; rfl)
theorem own_cast {tb : Tables} {F : State → Outcome → Prop} {g g' : JFrame} (q : g = g') (k : own_Go tb e below F T g') : own_Go tb e below F T g := q ▸ k
/-- the end of a walk: a boolean, byte, char or short -/
theorem own_retN (X : Stand p l e R s m args below meth c T locs cells slots) (hx : p.tables.exec = Jvm.exec) {t : FieldType} (hret : meth.sig.returnType = some t) (ht : t = .boolean ∨ t = .byte ∨ t = .char ∨ t = .short) (hlk : meth.locks = false) {pc : Nat} {Ls : Array Slot} {z : Int32} {rest : List Value}
    (hd : decode c.code pc = .ok (.ireturn, 1)) {Q : Option Value → Heap → List Loc → Prop} {C S : Nat} (hQ : Q (some (.int (nar t z))) T.heap locs) (hC : cells ≤ C) (hS : slots ≤ S) : own_Go p.tables e below (own_F below s Q C S) T (mkF m pc Ls (.int z :: rest)) := by
  obtain ⟨fs, hr, hrun, hended, hW, hsame⟩ := X.leave (v := some (.int (nar t z))) (fun q => by rw [hret] at q; cases q)
  exact ⟨_, _, retN X hx hret ht hd hr, hrun, hended, _, _, rfl, hQ, ⟨_, rfl⟩, hW, hsame.mono hC hS⟩
theorem own_retO (X : Stand p l e R s m args below meth c T locs cells slots) (hx : p.tables.exec = Jvm.exec) {t : FieldType} (hret : meth.sig.returnType = some t) (hlk : meth.locks = false) {pc : Nat} {Ls : Array Slot} {w : Value} {i : Instr} {rest : List Value} (hn : narrow t w = w)
    (hi : (i = .ireturn ∧ (t = .int ∨ t = .boolean ∨ t = .byte ∨ t = .char ∨ t = .short) ∧ ∃ z, w = .int z) ∨ (i = .lreturn ∧ t = .long ∧ ∃ z, w = .long z) ∨ (i = .dreturn ∧ t = .double ∧ ∃ z, w = .double z) ∨ (i = .freturn ∧ t = .float ∧ ∃ z, w = .float z) ∨ (i = .areturn ∧ t.isReference = true ∧ w.isRef = true))
    (hd : decode c.code pc = .ok (i, 1)) {Q : Option Value → Heap → List Loc → Prop} {C S : Nat} (hQ : Q (some w) T.heap locs) (hC : cells ≤ C) (hS : slots ≤ S) : own_Go p.tables e below (own_F below s Q C S) T (mkF m pc Ls (w :: rest)) := by
  obtain ⟨fs, hr, hrun, hended, hW, hsame⟩ := X.leave (v := some w) (fun q => by rw [hret] at q; cases q)
  exact ⟨_, _, retOut X hx hret hn hi hd hr, hrun, hended, _, _, rfl, hQ, ⟨_, rfl⟩, hW, hsame.mono hC hS⟩
/-- a reference -/
theorem own_retA (X : Stand p l e R s m args below meth c T locs cells slots) (hx : p.tables.exec = Jvm.exec) {t : FieldType} (hret : meth.sig.returnType = some t) (ht : t.isReference = true) (hlk : meth.locks = false) {pc : Nat} {Ls : Array Slot} {w : Value} {rest : List Value} (hw : w.isRef = true)
    (hd : decode c.code pc = .ok (.areturn, 1)) {Q : Option Value → Heap → List Loc → Prop} {C S : Nat} (hQ : Q (some w) T.heap locs) (hC : cells ≤ C) (hS : slots ≤ S) : own_Go p.tables e below (own_F below s Q C S) T (mkF m pc Ls (w :: rest)) := by
  refine own_retO X hx hret hlk ?_ (Or.inr (Or.inr (Or.inr (Or.inr ⟨rfl, ht, hw⟩)))) hd hQ hC hS
  rcases ref_cases hw with rfl | ⟨a, rfl⟩ <;> cases t <;> first | rfl | (simp [FieldType.isReference] at ht)
/-- an int -/
theorem own_retI (X : Stand p l e R s m args below meth c T locs cells slots) (hx : p.tables.exec = Jvm.exec) (hret : meth.sig.returnType = some .int) (hlk : meth.locks = false) {pc : Nat} {Ls : Array Slot} {z : Int32} {rest : List Value}
    (hd : decode c.code pc = .ok (.ireturn, 1)) {Q : Option Value → Heap → List Loc → Prop} {C S : Nat} (hQ : Q (some (.int z)) T.heap locs) (hC : cells ≤ C) (hS : slots ≤ S) : own_Go p.tables e below (own_F below s Q C S) T (mkF m pc Ls (.int z :: rest)) :=
  own_retO X hx hret hlk rfl (Or.inl ⟨rfl, Or.inl rfl, z, rfl⟩) hd hQ hC hS
/-- nothing -/
theorem own_retV (X : Stand p l e R s m args below meth c T locs cells slots) (hx : p.tables.exec = Jvm.exec) (hret : meth.sig.returnType = none) (hlk : meth.locks = false) {pc : Nat} {Ls : Array Slot}
    (hd : decode c.code pc = .ok (.return_, 1)) {Q : Option Value → Heap → List Loc → Prop} {C S : Nat} (hQ : Q none T.heap locs) (hC : cells ≤ C) (hS : slots ≤ S) : own_Go p.tables e below (own_F below s Q C S) T (mkF m pc Ls []) := by
  obtain ⟨fs, hr, hrun, hended, hW, hsame⟩ := X.leave (v := none) (fun _ => rfl)
  exact ⟨_, _, X.returnOut hx hret hd hr, hrun, hended, _, _, rfl, hQ, ⟨_, rfl⟩, hW, hsame.mono hC hS⟩
/-- calls, each by its callee's contract -/
theorem own_callS (X : Stand p l e R s m args below meth c T locs cells slots) (hx : p.tables.exec = Jvm.exec) (hZ : Z.Warmed39 s.vm) {own : String} {index : Nat} {y : MethodName} {bytes : ByteArray} {maxL : Nat} {ret : Option FieldType} (hown : s.vm.findClass own = some m.cls)
    (w1 : (Jvm.Cond.methodLink own index y).before a0 Z = true) (w2 : (Jvm.Cond.static y).before a0 Z = true) (w3 : (Jvm.Cond.initialized y.cls).before a0 Z = true) (w4 : (Jvm.Cond.code y bytes maxL ret).before a0 Z = true) (hy : y.cls ≠ "java/lang/invoke/MethodHandle" ∧ y.cls ≠ "java/lang/invoke/VarHandle")
    {rm : Room} {as' : Array Value} {Q : Option Value → Heap → List Loc → Prop} (hM : MetFree l y (head1 [Jvm.Cond.code y bytes maxL ret] rm) (fun a U => a = as' ∧ Z.Warmed39 U.vm ∧ U.heap = h) (fun _ _ _ _ _ => True) (fun _ U o U' => ∃ v L, o = .returned v ∧ Q v U'.heap L ∧ FrameEnd U o U' L rm.cells rm.slots))
    (eT : T.heap = h) {g : JFrame} (hg : g.method = m) (hsize : g.locals.size = c.maxLocals) {argsL rest : List Value} (hlen : ∀ sig, parseMethodDescriptor y.desc = some sig → argsL.length = sig.parameters.length) (hstack : g.stack = argsL.reverse ++ rest) (has : argsL.toArray = as') {W : Nat} (hW : 2 * g.monitorRoom + (rest.map fun v => v.category).sum ≤ W)
    (hd : decode c.code g.pc = .ok (.invokestatic index, 3)) (hf : rm.frames + 1 ≤ R.frames) (hl : W + (maxL + 11) + rm.locals ≤ R.locals) (hc : cells + rm.cells ≤ R.cells) (hs : slots + rm.slots ≤ R.slots) :
    ∃ v T' L, Q v T'.heap L ∧ Stand p l e R s m args below meth c T' (locs ++ L) (cells + rm.cells) (slots + rm.slots) ∧ ∀ t, Steps p.tables e below (T'.setTop { g with pc := g.pc + 3, stack := v.toList ++ rest }) t → Steps p.tables e below (T.setTop g) t := by
  obtain ⟨v, vm₁, ⟨T', L', k', n'⟩, -, X', ⟨L, hQ, l1, y1, z1⟩, st⟩ := Jvm.LawKit.callS X hx (y := y) hown (mvT hZ w1) (mvT hZ w2) (mvT hZ w3) (mvT hZ w4) hy (backOf (W := W) hM hZ w4 w3 hf hl) hg hsize (argsL := argsL) (rest := rest) hlen hstack hW hd (fun _ _ => ⟨has, eT, hc, hs⟩)
  dsimp only [Pt.U, Pt.locs, Pt.cells, Pt.slots] at X' l1 y1 z1 st hQ
  subst l1 y1 z1
  exact ⟨v, T', L, hQ, X', st⟩
theorem own_callI (X : Stand p l e R s m args below meth c T locs cells slots) (hx : p.tables.exec = Jvm.exec) (hZ : Z.Warmed39 s.vm) {own : String} {index : Nat} {y : MethodName} {bytes : ByteArray} {maxL : Nat} (hn : y.name = "<init>") (hown : s.vm.findClass own = some m.cls)
    (w1 : (Jvm.Cond.methodLink own index y).before a0 Z = true) (w2 : (Jvm.Cond.instanceMethod y).before a0 Z = true) (w3 : (Jvm.Cond.initialized y.cls).before a0 Z = true) (w4 : (Jvm.Cond.code y bytes maxL none).before a0 Z = true) (hy : y.cls ≠ "java/lang/invoke/MethodHandle" ∧ y.cls ≠ "java/lang/invoke/VarHandle")
    {rm : Room} {as' : Array Value} {Q : Option Value → Heap → List Loc → Prop} (hM : MetFree l y (head1 [Jvm.Cond.code y bytes maxL none] rm) (fun a U => a = as' ∧ Z.Warmed39 U.vm ∧ U.heap = h) (fun _ _ _ _ _ => True) (fun _ U o U' => ∃ v L, o = .returned v ∧ Q v U'.heap L ∧ FrameEnd U o U' L rm.cells rm.slots))
    (eT : T.heap = h) {g : JFrame} (hg : g.method = m) (hsize : g.locals.size = c.maxLocals) {a : Addr} {argsL rest : List Value} (hlen : ∀ sig, parseMethodDescriptor y.desc = some sig → argsL.length = sig.parameters.length) (hstack : g.stack = argsL.reverse ++ .ref a :: rest) (has : (.ref a :: argsL).toArray = as') {W : Nat} (hW : 2 * g.monitorRoom + (rest.map fun v => v.category).sum ≤ W)
    (hd : decode c.code g.pc = .ok (.invokespecial index, 3)) (hf : rm.frames + 1 ≤ R.frames) (hl : W + (maxL + 11) + rm.locals ≤ R.locals) (hc : cells + rm.cells ≤ R.cells) (hs : slots + rm.slots ≤ R.slots) :
    ∃ v T' L, Q v T'.heap L ∧ Stand p l e R s m args below meth c T' (locs ++ L) (cells + rm.cells) (slots + rm.slots) ∧ ∀ t, Steps p.tables e below (T'.setTop { g with pc := g.pc + 3, stack := v.toList ++ rest }) t → Steps p.tables e below (T.setTop g) t := by
  obtain ⟨v, vm₁, ⟨T', L', k', n'⟩, -, X', ⟨L, hQ, l1, y1, z1⟩, st⟩ := X.specialBack hx (y := y) hn hown (mvT hZ w1) (mvT hZ w2) (mvT hZ w4) hy (backOf (W := W) hM hZ w4 w3 hf hl) hg hsize (Steps.refl _) (a := a) (argsL := argsL) (rest := rest) hlen hstack hW hd (fun _ _ => ⟨has, eT, hc, hs⟩)
  dsimp only [Pt.U, Pt.locs, Pt.cells, Pt.slots] at X' l1 y1 z1 st hQ
  subst l1 y1 z1
  exact ⟨v, T', L, hQ, X', fun t k => st.trans k⟩
theorem own_callV (X : Stand p l e R s m args below meth c T locs cells slots) (hx : p.tables.exec = Jvm.exec) (hZ : Z.Warmed39 s.vm) {own C : String} {index : Nat} {y : MethodName} {bytes : ByteArray} {maxL : Nat} {ret : Option FieldType} (hown : s.vm.findClass own = some m.cls)
    (w1 : (Jvm.Cond.methodLink own index y).before a0 Z = true) (w2 : (Jvm.Cond.declares y).before a0 Z = true) (w3 : (Jvm.Cond.selects C y y).before a0 Z = true) (w5 : (Jvm.Cond.instanceMethod y).before a0 Z = true) (w6 : (Jvm.Cond.initialized y.cls).before a0 Z = true) (w4 : (Jvm.Cond.code y bytes maxL ret).before a0 Z = true) (hy : y.cls ≠ "java/lang/invoke/MethodHandle" ∧ y.cls ≠ "java/lang/invoke/VarHandle")
    {rm : Room} {as' : Array Value} {Q : Option Value → Heap → List Loc → Prop} (hM : MetFree l y (head1 [Jvm.Cond.code y bytes maxL ret] rm) (fun a U => a = as' ∧ Z.Warmed39 U.vm ∧ U.heap = h) (fun _ _ _ _ _ => True) (fun _ U o U' => ∃ v L, o = .returned v ∧ Q v U'.heap L ∧ FrameEnd U o U' L rm.cells rm.slots))
    (eT : T.heap = h) {a : Addr} (E : Exa Z h a C) {g : JFrame} (hg : g.method = m) (hsize : g.locals.size = c.maxLocals) {argsL rest : List Value} (hlen : ∀ sig, parseMethodDescriptor y.desc = some sig → argsL.length = sig.parameters.length) (hstack : g.stack = argsL.reverse ++ .ref a :: rest) (has : (.ref a :: argsL).toArray = as') {W : Nat} (hW : 2 * g.monitorRoom + (rest.map fun v => v.category).sum ≤ W)
    (hd : decode c.code g.pc = .ok (.invokevirtual index, 3)) (hf : rm.frames + 1 ≤ R.frames) (hl : W + (maxL + 11) + rm.locals ≤ R.locals) (hc : cells + rm.cells ≤ R.cells) (hs : slots + rm.slots ≤ R.slots) :
    ∃ v T' L, Q v T'.heap L ∧ Stand p l e R s m args below meth c T' (locs ++ L) (cells + rm.cells) (slots + rm.slots) ∧ ∀ t, Steps p.tables e below (T'.setTop { g with pc := g.pc + 3, stack := v.toList ++ rest }) t → Steps p.tables e below (T.setTop g) t := by
  obtain ⟨cq, kq, qa, qb, qc⟩ := isOf hZ eT E
  obtain ⟨v, vm₁, ⟨T', L', k', n'⟩, -, X', ⟨L, hQ, l1, y1, z1⟩, st⟩ := X.virtualBack hx (y := y) (z := y) hown (mvT hZ w1) (mvT hZ w2) (notFace_of_selects (args := #[]) (mvT hZ w3)) (mvT hZ w3) (mvT hZ w5) hy (backOf (W := W) hM hZ w4 w6 hf hl) qa qc hg hsize (Steps.refl _) (argsL := argsL) (rest := rest) hlen hstack hW hd (fun _ _ => ⟨has, eT, hc, hs⟩)
  dsimp only [Pt.U, Pt.locs, Pt.cells, Pt.slots] at X' l1 y1 z1 st hQ
  subst l1 y1 z1
  exact ⟨v, T', L, hQ, X', fun t k => st.trans k⟩
/-- a method that a class above declares -/
theorem own_callU (X : Stand p l e R s m args below meth c T locs cells slots) (hx : p.tables.exec = Jvm.exec) (hZ : Z.Warmed39 s.vm) {own C owner : String} {index : Nat} {x y : MethodName} {bytes : ByteArray} {maxL : Nat} {ret : Option FieldType} (hown : s.vm.findClass own = some m.cls)
    (w1 : (Jvm.Cond.methodLink own index x).before a0 Z = true) (w0 : (Jvm.Cond.sameMethod x.cls owner x.name x.desc).before a0 Z = true) (w2 : (Jvm.Cond.declares ⟨owner, x.name, x.desc⟩).before a0 Z = true) (hy : owner ≠ "java/lang/invoke/MethodHandle" ∧ owner ≠ "java/lang/invoke/VarHandle") (w3 : (Jvm.Cond.selects C x y).before a0 Z = true) (w5 : (Jvm.Cond.instanceMethod y).before a0 Z = true) (w6 : (Jvm.Cond.initialized y.cls).before a0 Z = true) (w4 : (Jvm.Cond.code y bytes maxL ret).before a0 Z = true)
    {rm : Room} {as' : Array Value} {Q : Option Value → Heap → List Loc → Prop} (hM : MetFree l y (head1 [Jvm.Cond.code y bytes maxL ret] rm) (fun a U => a = as' ∧ Z.Warmed39 U.vm ∧ U.heap = h) (fun _ _ _ _ _ => True) (fun _ U o U' => ∃ v L, o = .returned v ∧ Q v U'.heap L ∧ FrameEnd U o U' L rm.cells rm.slots))
    (eT : T.heap = h) {a : Addr} (E : Exa Z h a C) {g : JFrame} (hg : g.method = m) (hsize : g.locals.size = c.maxLocals) {argsL rest : List Value} (hlen : ∀ sig, parseMethodDescriptor x.desc = some sig → argsL.length = sig.parameters.length) (hstack : g.stack = argsL.reverse ++ .ref a :: rest) (has : (.ref a :: argsL).toArray = as') {W : Nat} (hW : 2 * g.monitorRoom + (rest.map fun v => v.category).sum ≤ W)
    (hd : decode c.code g.pc = .ok (.invokevirtual index, 3)) (hf : rm.frames + 1 ≤ R.frames) (hl : W + (maxL + 11) + rm.locals ≤ R.locals) (hc : cells + rm.cells ≤ R.cells) (hs : slots + rm.slots ≤ R.slots) :
    ∃ v T' L, Q v T'.heap L ∧ Stand p l e R s m args below meth c T' (locs ++ L) (cells + rm.cells) (slots + rm.slots) ∧ ∀ t, Steps p.tables e below (T'.setTop { g with pc := g.pc + 3, stack := v.toList ++ rest }) t → Steps p.tables e below (T.setTop g) t := by
  obtain ⟨cq, kq, qa, qb, qc⟩ := isOf hZ eT E
  obtain ⟨v, vm₁, ⟨T', L', k', n'⟩, -, X', ⟨L, hQ, l1, y1, z1⟩, st⟩ := X.virtualBackUp hx (x := x) (y := y) hown (mvT hZ w1) (mvT hZ w0) (mvT hZ w2) hy (mvT hZ w3) (mvT hZ w5) (backOf (W := W) hM hZ w4 w6 hf hl) qa qc hg hsize (Steps.refl _) (argsL := argsL) (rest := rest) hlen hstack hW hd (fun _ _ => ⟨has, eT, hc, hs⟩)
  dsimp only [Pt.U, Pt.locs, Pt.cells, Pt.slots] at X' l1 y1 z1 st hQ
  subst l1 y1 z1
  exact ⟨v, T', L, hQ, X', fun t k => st.trans k⟩
/-- heaps -/
theorem own_extr (h : Heap) : Ext h h := ⟨Nat.le_refl _, fun _ _ q => q⟩
theorem own_extt (O : Ext h0 h) (E : Ext h h') : Ext h0 h' := ⟨Nat.le_trans O.1 E.1, fun a c q => E.2 a c (O.2 a c q)⟩
theorem own_extw (O : Ext h0 h) {a : Addr} {sl : Nat} {v : Value} (W : Wr h h' a sl v) (q : h0.size ≤ a) : Ext h0 h' :=
  ⟨Nat.le_trans O.1 (Keep.of_wr W).1, fun x c r => (Keep.of_wr W).2.1 x c (O.2 x c r) (fun z => by cases List.mem_singleton.mp z; exact absurd (Array.getElem?_eq_some_iff.mp r).1 (Nat.not_lt.mpr q))⟩
theorem own_extk (O : Ext h0 h) {a : Addr} (K : Keep h h' [a]) (q : h0.size ≤ a) : Ext h0 h' :=
  ⟨Nat.le_trans O.1 K.1, fun x c r => K.2.1 x c (O.2 x c r) (fun z => by cases List.mem_singleton.mp z; exact absurd (Array.getElem?_eq_some_iff.mp r).1 (Nat.not_lt.mpr q))⟩
/-- arrays: a store and a load by the array's fact -/
theorem own_stZ (X : Stand p l e R s m args below meth c T locs cells slots) (hx : p.tables.exec = Jvm.exec) (hZ : Z.Warmed39 s.vm) (eT : T.heap = h) {a : Addr} {k : ClassId} {n : Int32} {vs : List Value} {dv : Value} (V : Arv Z h a k .boolean n vs dv) {j x : Int32} (hj : ¬ j < 0 ∧ j < n) (i : Nat) (hi : j.toNatClampNeg = i) (hil : i < vs.length) {g : JFrame} (hg : g.method = m) {rest : List Value} (hs : g.stack = .int x :: .int j :: .ref a :: rest) (hd : decode c.code g.pc = .ok (.bastore, 1)) :
    ∃ T' h', Stand p l e R s m args below meth c T' (locs ++ [⟨a, j.toNatClampNeg⟩]) cells slots ∧ T'.heap = h' ∧ Wr h h' a j.toNatClampNeg (.int (nar .boolean x)) ∧ Arv Z h' a k .boolean n (vs.set i (.int (nar .boolean x))) dv ∧ ∀ t, Steps p.tables e below (T'.setTop { g with pc := g.pc + 1, stack := rest }) t → Steps p.tables e below (T.setTop g) t := by
  obtain ⟨cl, A, q1, S1, N1, H1, G1⟩ := V
  obtain ⟨T', h', X', e', W', st⟩ := stZ X hx hZ eT A (j := j) (inb_of S1 hj) hg hs hd
  exact ⟨T', h', X', e', W', Arv.set A q1 S1 N1 H1 G1 (fits_nar_bool x) W' i hi hil, st⟩
theorem own_stB (X : Stand p l e R s m args below meth c T locs cells slots) (hx : p.tables.exec = Jvm.exec) (hZ : Z.Warmed39 s.vm) (eT : T.heap = h) {a : Addr} {k : ClassId} {n : Int32} {vs : List Value} {dv : Value} (V : Arv Z h a k .byte n vs dv) {j x : Int32} (hj : ¬ j < 0 ∧ j < n) (i : Nat) (hi : j.toNatClampNeg = i) (hil : i < vs.length) {g : JFrame} (hg : g.method = m) {rest : List Value} (hs : g.stack = .int x :: .int j :: .ref a :: rest) (hd : decode c.code g.pc = .ok (.bastore, 1)) :
    ∃ T' h', Stand p l e R s m args below meth c T' (locs ++ [⟨a, j.toNatClampNeg⟩]) cells slots ∧ T'.heap = h' ∧ Wr h h' a j.toNatClampNeg (.int (nar .byte x)) ∧ Arv Z h' a k .byte n (vs.set i (.int (nar .byte x))) dv ∧ ∀ t, Steps p.tables e below (T'.setTop { g with pc := g.pc + 1, stack := rest }) t → Steps p.tables e below (T.setTop g) t := by
  obtain ⟨cl, A, q1, S1, N1, H1, G1⟩ := V
  obtain ⟨T', h', X', e', W', st⟩ := stB X hx hZ eT A (j := j) (inb_of S1 hj) hg hs hd
  exact ⟨T', h', X', e', W', Arv.set A q1 S1 N1 H1 G1 (fits_nar_byte x) W' i hi hil, st⟩
theorem own_stI (X : Stand p l e R s m args below meth c T locs cells slots) (hx : p.tables.exec = Jvm.exec) (hZ : Z.Warmed39 s.vm) (eT : T.heap = h) {a : Addr} {k : ClassId} {n : Int32} {vs : List Value} {dv : Value} (V : Arv Z h a k .int n vs dv) {j x : Int32} (hj : ¬ j < 0 ∧ j < n) (i : Nat) (hi : j.toNatClampNeg = i) (hil : i < vs.length) {g : JFrame} (hg : g.method = m) {rest : List Value} (hs : g.stack = .int x :: .int j :: .ref a :: rest) (hd : decode c.code g.pc = .ok (.iastore, 1)) :
    ∃ T' h', Stand p l e R s m args below meth c T' (locs ++ [⟨a, j.toNatClampNeg⟩]) cells slots ∧ T'.heap = h' ∧ Wr h h' a j.toNatClampNeg (.int x) ∧ Arv Z h' a k .int n (vs.set i (.int x)) dv ∧ ∀ t, Steps p.tables e below (T'.setTop { g with pc := g.pc + 1, stack := rest }) t → Steps p.tables e below (T.setTop g) t := by
  obtain ⟨cl, A, q1, S1, N1, H1, G1⟩ := V
  obtain ⟨T', h', X', e', W', st⟩ := stI X hx hZ eT A (j := j) (inb_of S1 hj) hg hs hd
  exact ⟨T', h', X', e', W', Arv.set A q1 S1 N1 H1 G1 rfl W' i hi hil, st⟩
theorem own_stC (X : Stand p l e R s m args below meth c T locs cells slots) (hx : p.tables.exec = Jvm.exec) (hZ : Z.Warmed39 s.vm) (eT : T.heap = h) {a : Addr} {k : ClassId} {n : Int32} {vs : List Value} {dv : Value} (V : Arv Z h a k .char n vs dv) {j x : Int32} (hj : ¬ j < 0 ∧ j < n) (i : Nat) (hi : j.toNatClampNeg = i) (hil : i < vs.length) {g : JFrame} (hg : g.method = m) {rest : List Value} (hs : g.stack = .int x :: .int j :: .ref a :: rest) (hd : decode c.code g.pc = .ok (.castore, 1)) :
    ∃ T' h', Stand p l e R s m args below meth c T' (locs ++ [⟨a, j.toNatClampNeg⟩]) cells slots ∧ T'.heap = h' ∧ Wr h h' a j.toNatClampNeg (.int (nar .char x)) ∧ Arv Z h' a k .char n (vs.set i (.int (nar .char x))) dv ∧ ∀ t, Steps p.tables e below (T'.setTop { g with pc := g.pc + 1, stack := rest }) t → Steps p.tables e below (T.setTop g) t := by
  obtain ⟨cl, A, q1, S1, N1, H1, G1⟩ := V
  obtain ⟨T', h', X', e', W', st⟩ := stC X hx hZ eT A (j := j) (inb_of S1 hj) hg hs hd
  exact ⟨T', h', X', e', W', Arv.set A q1 S1 N1 H1 G1 (fits_nar_char x) W' i hi hil, st⟩
theorem own_stR (X : Stand p l e R s m args below meth c T locs cells slots) (hx : p.tables.exec = Jvm.exec) (hZ : Z.Warmed39 s.vm) (eT : T.heap = h) {a : Addr} {k : ClassId} {ty : FieldType} {n : Int32} {vs : List Value} {dv : Value} (V : Arv Z h a k ty n vs dv) (hty : ty.isReference = true) {j : Int32} {v : Value} (hv : fits ty v = true) (hj : ¬ j < 0 ∧ j < n) (i : Nat) (hi : j.toNatClampNeg = i) (hil : i < vs.length) (F : ∀ cl : Cell, Arr Z h a cl ty → cl.cls = k → Sto Z h a v) {g : JFrame} (hg : g.method = m) {rest : List Value} (hs : g.stack = v :: .int j :: .ref a :: rest) (hd : decode c.code g.pc = .ok (.aastore, 1)) :
    ∃ T' h', Stand p l e R s m args below meth c T' (locs ++ [⟨a, j.toNatClampNeg⟩]) cells slots ∧ T'.heap = h' ∧ Wr h h' a j.toNatClampNeg v ∧ Arv Z h' a k ty n (vs.set i v) dv ∧ ∀ t, Steps p.tables e below (T'.setTop { g with pc := g.pc + 1, stack := rest }) t → Steps p.tables e below (T.setTop g) t := by
  obtain ⟨cl, A, q1, S1, N1, H1, G1⟩ := V
  obtain ⟨T', h', X', e', W', st⟩ := stR X hx hZ eT A (j := j) (inb_of S1 hj) hty (F cl A q1) hg hs hd
  exact ⟨T', h', X', e', W', Arv.set A q1 S1 N1 H1 G1 hv W' i hi hil, st⟩
theorem own_ldZ (X : Stand p l e R s m args below meth c T locs cells slots) (hx : p.tables.exec = Jvm.exec) (hZ : Z.Warmed39 s.vm) (eT : T.heap = h) {a : Addr} {k : ClassId} {n : Int32} {vs : List Value} {dv v : Value} (V : Arv Z h a k .boolean n vs dv) {j : Int32} (hj : ¬ j < 0 ∧ j < n) (hv : vs.getD j.toNatClampNeg dv = v) {g : JFrame} (hg : g.method = m) {rest : List Value} (hs : g.stack = .int j :: .ref a :: rest) (hd : decode c.code g.pc = .ok (.baload, 1)) :
    ∀ t, Steps p.tables e below (T.setTop { g with pc := g.pc + 1, stack := v :: rest }) t → Steps p.tables e below (T.setTop g) t := by
  obtain ⟨cl, A, q1, S1, N1, H1, G1⟩ := V
  exact X.baloadBooleans hx (by rw [eT]; exact A.1) (State.isArrayOf_alike hZ.alike A.2.1) A.2.2 (inb_of S1 hj) (H1.at (inb_of S1 hj) hv) hg hs hd
theorem own_ldB (X : Stand p l e R s m args below meth c T locs cells slots) (hx : p.tables.exec = Jvm.exec) (hZ : Z.Warmed39 s.vm) (eT : T.heap = h) {a : Addr} {k : ClassId} {n : Int32} {vs : List Value} {dv v : Value} (V : Arv Z h a k .byte n vs dv) {j : Int32} (hj : ¬ j < 0 ∧ j < n) (hv : vs.getD j.toNatClampNeg dv = v) {g : JFrame} (hg : g.method = m) {rest : List Value} (hs : g.stack = .int j :: .ref a :: rest) (hd : decode c.code g.pc = .ok (.baload, 1)) :
    ∀ t, Steps p.tables e below (T.setTop { g with pc := g.pc + 1, stack := v :: rest }) t → Steps p.tables e below (T.setTop g) t := by
  obtain ⟨cl, A, q1, S1, N1, H1, G1⟩ := V
  exact X.baloadBytes hx (by rw [eT]; exact A.1) (State.isArrayOf_alike hZ.alike A.2.1) A.2.2 (inb_of S1 hj) (H1.at (inb_of S1 hj) hv) hg hs hd
theorem own_ldI (X : Stand p l e R s m args below meth c T locs cells slots) (hx : p.tables.exec = Jvm.exec) (hZ : Z.Warmed39 s.vm) (eT : T.heap = h) {a : Addr} {k : ClassId} {n : Int32} {vs : List Value} {dv v : Value} (V : Arv Z h a k .int n vs dv) {j : Int32} (hj : ¬ j < 0 ∧ j < n) (hv : vs.getD j.toNatClampNeg dv = v) {g : JFrame} (hg : g.method = m) {rest : List Value} (hs : g.stack = .int j :: .ref a :: rest) (hd : decode c.code g.pc = .ok (.iaload, 1)) :
    ∀ t, Steps p.tables e below (T.setTop { g with pc := g.pc + 1, stack := v :: rest }) t → Steps p.tables e below (T.setTop g) t := by
  obtain ⟨cl, A, q1, S1, N1, H1, G1⟩ := V
  exact X.iaload hx (by rw [eT]; exact A.1) (State.isArrayOf_alike hZ.alike A.2.1) A.2.2 (inb_of S1 hj) (H1.at (inb_of S1 hj) hv) hg hs hd
theorem own_ldC (X : Stand p l e R s m args below meth c T locs cells slots) (hx : p.tables.exec = Jvm.exec) (hZ : Z.Warmed39 s.vm) (eT : T.heap = h) {a : Addr} {k : ClassId} {n : Int32} {vs : List Value} {dv v : Value} (V : Arv Z h a k .char n vs dv) {j : Int32} (hj : ¬ j < 0 ∧ j < n) (hv : vs.getD j.toNatClampNeg dv = v) {g : JFrame} (hg : g.method = m) {rest : List Value} (hs : g.stack = .int j :: .ref a :: rest) (hd : decode c.code g.pc = .ok (.caload, 1)) :
    ∀ t, Steps p.tables e below (T.setTop { g with pc := g.pc + 1, stack := v :: rest }) t → Steps p.tables e below (T.setTop g) t := by
  obtain ⟨cl, A, q1, S1, N1, H1, G1⟩ := V
  exact X.caload hx (by rw [eT]; exact A.1) (State.isArrayOf_alike hZ.alike A.2.1) A.2.2 (inb_of S1 hj) (H1.at (inb_of S1 hj) hv) hg hs hd
theorem own_ldR (X : Stand p l e R s m args below meth c T locs cells slots) (hx : p.tables.exec = Jvm.exec) (hZ : Z.Warmed39 s.vm) (eT : T.heap = h) {a : Addr} {k : ClassId} {ty : FieldType} {n : Int32} {vs : List Value} {dv v : Value} (V : Arv Z h a k ty n vs dv) (hty : ty.isReference = true) {j : Int32} (hj : ¬ j < 0 ∧ j < n) (hv : vs.getD j.toNatClampNeg dv = v) {g : JFrame} (hg : g.method = m) {rest : List Value} (hs : g.stack = .int j :: .ref a :: rest) (hd : decode c.code g.pc = .ok (.aaload, 1)) :
    ∀ t, Steps p.tables e below (T.setTop { g with pc := g.pc + 1, stack := v :: rest }) t → Steps p.tables e below (T.setTop g) t := by
  obtain ⟨cl, A, q1, S1, N1, H1, G1⟩ := V
  exact X.aaload hx (by rw [eT]; exact A.1) (State.isArrayOf_alike hZ.alike A.2.1) hty A.2.2 (inb_of S1 hj) (H1.at (inb_of S1 hj) hv) hg hs hd
theorem own_len (X : Stand p l e R s m args below meth c T locs cells slots) (hx : p.tables.exec = Jvm.exec) (hZ : Z.Warmed39 s.vm) (eT : T.heap = h) {a : Addr} {k : ClassId} {ty : FieldType} {n : Int32} {vs : List Value} {dv : Value} (V : Arv Z h a k ty n vs dv) {g : JFrame} (hg : g.method = m) {rest : List Value} (hs : g.stack = .ref a :: rest) (hd : decode c.code g.pc = .ok (.arraylength, 1)) :
    ∀ t, Steps p.tables e below (T.setTop { g with pc := g.pc + 1, stack := .int n :: rest }) t → Steps p.tables e below (T.setTop g) t := by
  obtain ⟨cl, A, q1, S1, N1, H1, G1⟩ := V
  intro t k
  refine X.arraylength hx (by rw [eT]; exact A.1) (State.isArrayOf_alike hZ.alike A.2.1) hg hs hd t ?_
  rw [len_of S1 N1]
  exact k
end OwnKit
theorem own_eqi {t : Term} {n : Int32} {args : Array Value} {s : State} (h : (Jvm.Cond.eq t (.int n)).value args s none s [] = some true) : t.eval args s none [] s = some (.int n) := by
  obtain ⟨x, y, h1, h2, h3, -⟩ := cmp_v (Or.inl h)
  cases (Term.int_eval n).symm.trans h2
  cases x <;> simp [Kin, Value.isRef] at h3
  rw [h1]
  have q := h
  simp [Jvm.Cond.value, h1, Term.int_eval] at q
  rw [q]
theorem own_lenw {t : Term} {n : Int32} {args : Array Value} {s : State} {x : Addr} {cl : Cell} {ty : FieldType} (h : (Jvm.Cond.eq (Term.length t) (.int n)).value args s none s [] = some true) (ht : t.eval args s none [] s = some (.ref x)) (A : Arr s s.heap x cl ty) : cl.slots.size < 2 ^ 31 ∧ cl.slots.size.toInt32 = n := by
  obtain ⟨b, cell, e1, e2, e4⟩ := Term.length_spec (own_eqi h)
  obtain rfl : x = b := Value.ref.inj (Option.some.inj (ht.symm.trans e1))
  obtain rfl : cl = cell := Option.some.inj ((A.fin (Vm.Alike.refl _)).symm.trans e2)
  exact ⟨Jvm.Free.SBG.length_lt e1 e2 (own_eqi h), (Value.int.inj e4).symm⟩
theorem own_elemw {t u : Term} {j : Int32} {args : Array Value} {s : State} {x y : Addr} {cl : Cell} {ty : FieldType} (h : (Jvm.Cond.eq (Term.elem t (.int j)) u).value args s none s [] = some true) (ht : t.eval args s none [] s = some (.ref x)) (hu : u.eval args s none [] s = some (.ref y)) (A : Arr s s.heap x cl ty) : cl.slots[j.toNatClampNeg]? = some (.ref y) := by
  obtain ⟨v, w, h1, h2, h3, h4⟩ := cmp_v (Or.inl h)
  cases hu.symm.trans h2
  obtain ⟨-, q⟩ := elem_in h1 ht (Term.int_eval j) A.1
  have r : v = .ref y := gotT (eq_R h1 hu h4.2 rfl) h
  rw [q, r]
theorem own_elemi {t : Term} {j k : Int32} {args : Array Value} {s : State} {x : Addr} {cl : Cell} {ty : FieldType} (h : (Jvm.Cond.eq (Term.elem t (.int j)) (.int k)).value args s none s [] = some true) (ht : t.eval args s none [] s = some (.ref x)) (A : Arr s s.heap x cl ty) : cl.slots[j.toNatClampNeg]? = some (.int k) := by
  obtain ⟨-, q⟩ := elem_in (own_eqi h) ht (Term.int_eval j) A.1
  exact q
abbrev own_W (Z : State) (a0 : Array Value) : Prop := ∀ d ∈ tables_1, d.before a0 Z = true
theorem own_w0 {Z : State} {a0 : Array Value} (hw : own_W Z a0) : (Jvm.Cond.arrayClass Jvm.ClassFile.FieldType.int).before a0 Z = true := hw _ (List.mem_of_getElem? (i := 0) rfl)
theorem own_w1 {Z : State} {a0 : Array Value} (hw : own_W Z a0) : (Jvm.Cond.classLink "com/example/sheaf/sheaf/CountedKeysMovePinLaw" (2 : Nat) "java/lang/Object").before a0 Z = true := hw _ (List.mem_of_getElem? (i := 1) rfl)
theorem own_w2 {Z : State} {a0 : Array Value} (hw : own_W Z a0) : (Jvm.Cond.arrayOver (Jvm.ClassFile.FieldType.object "java/lang/Object")).before a0 Z = true := hw _ (List.mem_of_getElem? (i := 2) rfl)
theorem own_w3 {Z : State} {a0 : Array Value} (hw : own_W Z a0) : (Jvm.Cond.castable "[I" "java/lang/Object").before a0 Z = true := hw _ (List.mem_of_getElem? (i := 3) rfl)
theorem own_w4 {Z : State} {a0 : Array Value} (hw : own_W Z a0) : (Jvm.Cond.classLink "com/example/sheaf/sheaf/CountedKeysMovePinLaw" (7 : Nat) "com/example/sheaf/sheaf/CountedKeys").before a0 Z = true := hw _ (List.mem_of_getElem? (i := 4) rfl)
theorem own_w5 {Z : State} {a0 : Array Value} (hw : own_W Z a0) : (Jvm.Cond.instantiable "com/example/sheaf/sheaf/CountedKeys" (8 : Nat)).before a0 Z = true := hw _ (List.mem_of_getElem? (i := 5) rfl)
theorem own_w6 {Z : State} {a0 : Array Value} (hw : own_W Z a0) : (Jvm.Cond.initialized "com/example/sheaf/sheaf/CountedKeys").before a0 Z = true := hw _ (List.mem_of_getElem? (i := 6) rfl)
theorem own_w7 {Z : State} {a0 : Array Value} (hw : own_W Z a0) : (Jvm.Cond.methodLink "com/example/sheaf/sheaf/CountedKeysMovePinLaw" (9 : Nat) ({ cls := "com/example/sheaf/sheaf/CountedKeys", name := "<init>", desc := "()V" } : Jvm.MethodName)).before a0 Z = true := hw _ (List.mem_of_getElem? (i := 7) rfl)
theorem own_w8 {Z : State} {a0 : Array Value} (hw : own_W Z a0) : (Jvm.Cond.instanceMethod ({ cls := "com/example/sheaf/sheaf/CountedKeys", name := "<init>", desc := "()V" } : Jvm.MethodName)).before a0 Z = true := hw _ (List.mem_of_getElem? (i := 8) rfl)
theorem own_w9 {Z : State} {a0 : Array Value} (hw : own_W Z a0) : (Jvm.Cond.code ({ cls := "com/example/sheaf/sheaf/CountedKeys", name := "<init>", desc := "()V" } : Jvm.MethodName) prog_69_method_1_code (1 : Nat) (Option.none : Option Jvm.ClassFile.FieldType)).before a0 Z = true := hw _ (List.mem_of_getElem? (i := 9) rfl)
theorem own_w10 {Z : State} {a0 : Array Value} (hw : own_W Z a0) : (Jvm.Cond.methodLink "com/example/sheaf/sheaf/CountedKeys" (1 : Nat) ({ cls := "com/example/sheaf/sheaf/CompactHash", name := "<init>", desc := "()V" } : Jvm.MethodName)).before a0 Z = true := hw _ (List.mem_of_getElem? (i := 10) rfl)
theorem own_w11 {Z : State} {a0 : Array Value} (hw : own_W Z a0) : (Jvm.Cond.instanceMethod ({ cls := "com/example/sheaf/sheaf/CompactHash", name := "<init>", desc := "()V" } : Jvm.MethodName)).before a0 Z = true := hw _ (List.mem_of_getElem? (i := 11) rfl)
theorem own_w13 {Z : State} {a0 : Array Value} (hw : own_W Z a0) : (Jvm.Cond.initialized "com/example/sheaf/sheaf/CompactHash").before a0 Z = true := hw _ (List.mem_of_getElem? (i := 13) rfl)
theorem own_w14 {Z : State} {a0 : Array Value} (hw : own_W Z a0) : (Jvm.Cond.code ({ cls := "com/example/sheaf/sheaf/CompactHash", name := "<init>", desc := "()V" } : Jvm.MethodName) prog_58_method_1_code (1 : Nat) (Option.none : Option Jvm.ClassFile.FieldType)).before a0 Z = true := hw _ (List.mem_of_getElem? (i := 14) rfl)
theorem own_w15 {Z : State} {a0 : Array Value} (hw : own_W Z a0) : (Jvm.Cond.methodLink "com/example/sheaf/sheaf/CompactHash" (1 : Nat) ({ cls := "java/lang/Object", name := "<init>", desc := "()V" } : Jvm.MethodName)).before a0 Z = true := hw _ (List.mem_of_getElem? (i := 15) rfl)
theorem own_w16 {Z : State} {a0 : Array Value} (hw : own_W Z a0) : (Jvm.Cond.instanceMethod ({ cls := "java/lang/Object", name := "<init>", desc := "()V" } : Jvm.MethodName)).before a0 Z = true := hw _ (List.mem_of_getElem? (i := 16) rfl)
theorem own_w17 {Z : State} {a0 : Array Value} (hw : own_W Z a0) : (Jvm.Cond.code ({ cls := "java/lang/Object", name := "<init>", desc := "()V" } : Jvm.MethodName) object_method_1_code (1 : Nat) (Option.none : Option Jvm.ClassFile.FieldType)).before a0 Z = true := hw _ (List.mem_of_getElem? (i := 17) rfl)
theorem own_w18 {Z : State} {a0 : Array Value} (hw : own_W Z a0) : (Jvm.Cond.fieldLink "com/example/sheaf/sheaf/CompactHash" (7 : Nat) "com/example/sheaf/sheaf/CompactHash" "NO_OBJECTS" "[Ljava/lang/Object;").before a0 Z = true := hw _ (List.mem_of_getElem? (i := 18) rfl)
theorem own_w19 {Z : State} {a0 : Array Value} (hw : own_W Z a0) : (Jvm.Cond.laysStatic "com/example/sheaf/sheaf/CompactHash" "NO_OBJECTS" "[Ljava/lang/Object;").before a0 Z = true := hw _ (List.mem_of_getElem? (i := 19) rfl)
theorem own_w20 {Z : State} {a0 : Array Value} (hw : own_W Z a0) : (Jvm.Cond.fieldLink "com/example/sheaf/sheaf/CompactHash" (13 : Nat) "com/example/sheaf/sheaf/CompactHash" "keys" "[Ljava/lang/Object;").before a0 Z = true := hw _ (List.mem_of_getElem? (i := 20) rfl)
theorem own_w21 {Z : State} {a0 : Array Value} (hw : own_W Z a0) : (Jvm.Cond.lays "com/example/sheaf/sheaf/CountedKeys" "com/example/sheaf/sheaf/CompactHash" "keys" "[Ljava/lang/Object;").before a0 Z = true := hw _ (List.mem_of_getElem? (i := 21) rfl)
theorem own_w22 {Z : State} {a0 : Array Value} (hw : own_W Z a0) : (Jvm.Cond.fieldLink "com/example/sheaf/sheaf/CompactHash" (16 : Nat) "com/example/sheaf/sheaf/CompactHash" "NO_INTS" "[I").before a0 Z = true := hw _ (List.mem_of_getElem? (i := 22) rfl)
theorem own_w23 {Z : State} {a0 : Array Value} (hw : own_W Z a0) : (Jvm.Cond.laysStatic "com/example/sheaf/sheaf/CompactHash" "NO_INTS" "[I").before a0 Z = true := hw _ (List.mem_of_getElem? (i := 23) rfl)
theorem own_w24 {Z : State} {a0 : Array Value} (hw : own_W Z a0) : (Jvm.Cond.fieldLink "com/example/sheaf/sheaf/CompactHash" (20 : Nat) "com/example/sheaf/sheaf/CompactHash" "index" "[I").before a0 Z = true := hw _ (List.mem_of_getElem? (i := 24) rfl)
theorem own_w25 {Z : State} {a0 : Array Value} (hw : own_W Z a0) : (Jvm.Cond.lays "com/example/sheaf/sheaf/CountedKeys" "com/example/sheaf/sheaf/CompactHash" "index" "[I").before a0 Z = true := hw _ (List.mem_of_getElem? (i := 25) rfl)
theorem own_w26 {Z : State} {a0 : Array Value} (hw : own_W Z a0) : (Jvm.Cond.fieldLink "com/example/sheaf/sheaf/CountedKeys" (7 : Nat) "com/example/sheaf/sheaf/CountedKeys" "NO_INTS" "[I").before a0 Z = true := hw _ (List.mem_of_getElem? (i := 26) rfl)
theorem own_w27 {Z : State} {a0 : Array Value} (hw : own_W Z a0) : (Jvm.Cond.sameField "com/example/sheaf/sheaf/CountedKeys" "com/example/sheaf/sheaf/CompactHash" "NO_INTS" "[I").before a0 Z = true := hw _ (List.mem_of_getElem? (i := 27) rfl)
theorem own_w28 {Z : State} {a0 : Array Value} (hw : own_W Z a0) : (Jvm.Cond.fieldLink "com/example/sheaf/sheaf/CountedKeys" (13 : Nat) "com/example/sheaf/sheaf/CountedKeys" "counts" "[I").before a0 Z = true := hw _ (List.mem_of_getElem? (i := 28) rfl)
theorem own_w29 {Z : State} {a0 : Array Value} (hw : own_W Z a0) : (Jvm.Cond.lays "com/example/sheaf/sheaf/CountedKeys" "com/example/sheaf/sheaf/CountedKeys" "counts" "[I").before a0 Z = true := hw _ (List.mem_of_getElem? (i := 29) rfl)
theorem own_w30 {Z : State} {a0 : Array Value} (hw : own_W Z a0) : (Jvm.Cond.fieldLink "com/example/sheaf/sheaf/CountedKeysMovePinLaw" (10 : Nat) "com/example/sheaf/sheaf/CountedKeys" "counts" "[I").before a0 Z = true := hw _ (List.mem_of_getElem? (i := 30) rfl)
theorem own_w31 {Z : State} {a0 : Array Value} (hw : own_W Z a0) : (Jvm.Cond.fieldLink "com/example/sheaf/sheaf/CountedKeysMovePinLaw" (18 : Nat) "com/example/sheaf/sheaf/CountedKeys" "heads" "[I").before a0 Z = true := hw _ (List.mem_of_getElem? (i := 31) rfl)
theorem own_w32 {Z : State} {a0 : Array Value} (hw : own_W Z a0) : (Jvm.Cond.lays "com/example/sheaf/sheaf/CountedKeys" "com/example/sheaf/sheaf/CountedKeys" "heads" "[I").before a0 Z = true := hw _ (List.mem_of_getElem? (i := 32) rfl)
theorem own_w33 {Z : State} {a0 : Array Value} (hw : own_W Z a0) : (Jvm.Cond.methodLink "com/example/sheaf/sheaf/CountedKeysMovePinLaw" (21 : Nat) ({ cls := "com/example/sheaf/sheaf/CountedKeys", name := "move", desc := "(II)V" } : Jvm.MethodName)).before a0 Z = true := hw _ (List.mem_of_getElem? (i := 33) rfl)
theorem own_w34 {Z : State} {a0 : Array Value} (hw : own_W Z a0) : (Jvm.Cond.declares ({ cls := "com/example/sheaf/sheaf/CountedKeys", name := "move", desc := "(II)V" } : Jvm.MethodName)).before a0 Z = true := hw _ (List.mem_of_getElem? (i := 34) rfl)
theorem own_w35 {Z : State} {a0 : Array Value} (hw : own_W Z a0) : (Jvm.Cond.instanceMethod ({ cls := "com/example/sheaf/sheaf/CountedKeys", name := "move", desc := "(II)V" } : Jvm.MethodName)).before a0 Z = true := hw _ (List.mem_of_getElem? (i := 35) rfl)
theorem own_w36 {Z : State} {a0 : Array Value} (hw : own_W Z a0) : (Jvm.Cond.selects "com/example/sheaf/sheaf/CountedKeys" ({ cls := "com/example/sheaf/sheaf/CountedKeys", name := "move", desc := "(II)V" } : Jvm.MethodName) ({ cls := "com/example/sheaf/sheaf/CountedKeys", name := "move", desc := "(II)V" } : Jvm.MethodName)).before a0 Z = true := hw _ (List.mem_of_getElem? (i := 36) rfl)
theorem own_w37 {Z : State} {a0 : Array Value} (hw : own_W Z a0) : (Jvm.Cond.code ({ cls := "com/example/sheaf/sheaf/CountedKeys", name := "move", desc := "(II)V" } : Jvm.MethodName) prog_69_method_11_code (3 : Nat) (Option.none : Option Jvm.ClassFile.FieldType)).before a0 Z = true := hw _ (List.mem_of_getElem? (i := 37) rfl)
theorem own_w38 {Z : State} {a0 : Array Value} (hw : own_W Z a0) : (Jvm.Cond.fieldLink "com/example/sheaf/sheaf/CountedKeys" (16 : Nat) "com/example/sheaf/sheaf/CountedKeys" "groups" "[Ljava/lang/Object;").before a0 Z = true := hw _ (List.mem_of_getElem? (i := 38) rfl)
theorem own_w39 {Z : State} {a0 : Array Value} (hw : own_W Z a0) : (Jvm.Cond.lays "com/example/sheaf/sheaf/CountedKeys" "com/example/sheaf/sheaf/CountedKeys" "groups" "[Ljava/lang/Object;").before a0 Z = true := hw _ (List.mem_of_getElem? (i := 39) rfl)
theorem own_w40 {Z : State} {a0 : Array Value} (hw : own_W Z a0) : (Jvm.Cond.fieldLink "com/example/sheaf/sheaf/CountedKeys" (20 : Nat) "com/example/sheaf/sheaf/CountedKeys" "heads" "[I").before a0 Z = true := hw _ (List.mem_of_getElem? (i := 40) rfl)
theorem own_w41 {Z : State} {a0 : Array Value} (hw : own_W Z a0) : (Jvm.Cond.methodLink "com/example/sheaf/sheaf/CountedKeysMovePinLaw" (25 : Nat) ({ cls := "com/example/sheaf/sheaf/CountedKeysMovePinLaw", name := "intsMoved", desc := "([I[III)Z" } : Jvm.MethodName)).before a0 Z = true := hw _ (List.mem_of_getElem? (i := 41) rfl)
theorem own_w42 {Z : State} {a0 : Array Value} (hw : own_W Z a0) : (Jvm.Cond.static ({ cls := "com/example/sheaf/sheaf/CountedKeysMovePinLaw", name := "intsMoved", desc := "([I[III)Z" } : Jvm.MethodName)).before a0 Z = true := hw _ (List.mem_of_getElem? (i := 42) rfl)
theorem own_w43 {Z : State} {a0 : Array Value} (hw : own_W Z a0) : (Jvm.Cond.initialized "com/example/sheaf/sheaf/CountedKeysMovePinLaw").before a0 Z = true := hw _ (List.mem_of_getElem? (i := 43) rfl)
theorem own_w44 {Z : State} {a0 : Array Value} (hw : own_W Z a0) : (Jvm.Cond.code ({ cls := "com/example/sheaf/sheaf/CountedKeysMovePinLaw", name := "intsMoved", desc := "([I[III)Z" } : Jvm.MethodName) method_4_code (4 : Nat) (Option.some Jvm.ClassFile.FieldType.boolean)).before a0 Z = true := hw _ (List.mem_of_getElem? (i := 44) rfl)
theorem own_w45 {Z : State} {a0 : Array Value} (hw : own_W Z a0) : (Jvm.Cond.methodLink "com/example/sheaf/sheaf/CountedKeysMovePinLaw" (35 : Nat) ({ cls := "com/example/sheaf/sheaf/CountedKeysMovePinLaw", name := "intAfter", desc := "([IIII)I" } : Jvm.MethodName)).before a0 Z = true := hw _ (List.mem_of_getElem? (i := 45) rfl)
theorem own_w46 {Z : State} {a0 : Array Value} (hw : own_W Z a0) : (Jvm.Cond.static ({ cls := "com/example/sheaf/sheaf/CountedKeysMovePinLaw", name := "intAfter", desc := "([IIII)I" } : Jvm.MethodName)).before a0 Z = true := hw _ (List.mem_of_getElem? (i := 46) rfl)
theorem own_w47 {Z : State} {a0 : Array Value} (hw : own_W Z a0) : (Jvm.Cond.code ({ cls := "com/example/sheaf/sheaf/CountedKeysMovePinLaw", name := "intAfter", desc := "([IIII)I" } : Jvm.MethodName) method_3_code (4 : Nat) (Option.some Jvm.ClassFile.FieldType.int)).before a0 Z = true := hw _ (List.mem_of_getElem? (i := 47) rfl)
theorem own_w48 {Z : State} {a0 : Array Value} (hw : own_W Z a0) : (Jvm.Cond.fieldLink "com/example/sheaf/sheaf/CountedKeysMovePinLaw" (14 : Nat) "com/example/sheaf/sheaf/CountedKeys" "groups" "[Ljava/lang/Object;").before a0 Z = true := hw _ (List.mem_of_getElem? (i := 48) rfl)
theorem own_w49 {Z : State} {a0 : Array Value} (hw : own_W Z a0) : (Jvm.Cond.methodLink "com/example/sheaf/sheaf/CountedKeysMovePinLaw" (31 : Nat) ({ cls := "com/example/sheaf/sheaf/CountedKeysMovePinLaw", name := "refsMoved", desc := "([Ljava/lang/Object;[Ljava/lang/Object;II)Z" } : Jvm.MethodName)).before a0 Z = true := hw _ (List.mem_of_getElem? (i := 49) rfl)
theorem own_w50 {Z : State} {a0 : Array Value} (hw : own_W Z a0) : (Jvm.Cond.static ({ cls := "com/example/sheaf/sheaf/CountedKeysMovePinLaw", name := "refsMoved", desc := "([Ljava/lang/Object;[Ljava/lang/Object;II)Z" } : Jvm.MethodName)).before a0 Z = true := hw _ (List.mem_of_getElem? (i := 50) rfl)
theorem own_w51 {Z : State} {a0 : Array Value} (hw : own_W Z a0) : (Jvm.Cond.code ({ cls := "com/example/sheaf/sheaf/CountedKeysMovePinLaw", name := "refsMoved", desc := "([Ljava/lang/Object;[Ljava/lang/Object;II)Z" } : Jvm.MethodName) method_6_code (4 : Nat) (Option.some Jvm.ClassFile.FieldType.boolean)).before a0 Z = true := hw _ (List.mem_of_getElem? (i := 51) rfl)
theorem own_w52 {Z : State} {a0 : Array Value} (hw : own_W Z a0) : (Jvm.Cond.methodLink "com/example/sheaf/sheaf/CountedKeysMovePinLaw" (39 : Nat) ({ cls := "com/example/sheaf/sheaf/CountedKeysMovePinLaw", name := "refAfter", desc := "([Ljava/lang/Object;III)Ljava/lang/Object;" } : Jvm.MethodName)).before a0 Z = true := hw _ (List.mem_of_getElem? (i := 52) rfl)
theorem own_w53 {Z : State} {a0 : Array Value} (hw : own_W Z a0) : (Jvm.Cond.static ({ cls := "com/example/sheaf/sheaf/CountedKeysMovePinLaw", name := "refAfter", desc := "([Ljava/lang/Object;III)Ljava/lang/Object;" } : Jvm.MethodName)).before a0 Z = true := hw _ (List.mem_of_getElem? (i := 53) rfl)
theorem own_w54 {Z : State} {a0 : Array Value} (hw : own_W Z a0) : (Jvm.Cond.code ({ cls := "com/example/sheaf/sheaf/CountedKeysMovePinLaw", name := "refAfter", desc := "([Ljava/lang/Object;III)Ljava/lang/Object;" } : Jvm.MethodName) method_5_code (4 : Nat) (Option.some (Jvm.ClassFile.FieldType.object "java/lang/Object"))).before a0 Z = true := hw _ (List.mem_of_getElem? (i := 54) rfl)
theorem own_d1_0 : decode prog_69_method_1_code 0 = .ok (.aload_n 0, 1) := by decide +kernel
theorem own_d1_1 : decode prog_69_method_1_code 1 = .ok (.invokespecial 1, 3) := by decide +kernel
theorem own_d1_4 : decode prog_69_method_1_code 4 = .ok (.aload_n 0, 1) := by decide +kernel
theorem own_d1_5 : decode prog_69_method_1_code 5 = .ok (.getstatic 7, 3) := by decide +kernel
theorem own_d1_8 : decode prog_69_method_1_code 8 = .ok (.putfield 13, 3) := by decide +kernel
theorem own_d1_11 : decode prog_69_method_1_code 11 = .ok (.return_, 1) := by decide +kernel
theorem own_d2_0 : decode prog_58_method_1_code 0 = .ok (.aload_n 0, 1) := by decide +kernel
theorem own_d2_1 : decode prog_58_method_1_code 1 = .ok (.invokespecial 1, 3) := by decide +kernel
theorem own_d2_4 : decode prog_58_method_1_code 4 = .ok (.aload_n 0, 1) := by decide +kernel
theorem own_d2_5 : decode prog_58_method_1_code 5 = .ok (.getstatic 7, 3) := by decide +kernel
theorem own_d2_8 : decode prog_58_method_1_code 8 = .ok (.putfield 13, 3) := by decide +kernel
theorem own_d2_11 : decode prog_58_method_1_code 11 = .ok (.aload_n 0, 1) := by decide +kernel
theorem own_d2_12 : decode prog_58_method_1_code 12 = .ok (.getstatic 16, 3) := by decide +kernel
theorem own_d2_15 : decode prog_58_method_1_code 15 = .ok (.putfield 20, 3) := by decide +kernel
theorem own_d2_18 : decode prog_58_method_1_code 18 = .ok (.return_, 1) := by decide +kernel
theorem own_d4_0 : decode prog_69_method_11_code 0 = .ok (.aload_n 0, 1) := by decide +kernel
theorem own_d4_1 : decode prog_69_method_11_code 1 = .ok (.getfield 13, 3) := by decide +kernel
theorem own_d4_4 : decode prog_69_method_11_code 4 = .ok (.iload_n 2, 1) := by decide +kernel
theorem own_d4_5 : decode prog_69_method_11_code 5 = .ok (.aload_n 0, 1) := by decide +kernel
theorem own_d4_6 : decode prog_69_method_11_code 6 = .ok (.getfield 13, 3) := by decide +kernel
theorem own_d4_9 : decode prog_69_method_11_code 9 = .ok (.iload_n 1, 1) := by decide +kernel
theorem own_d4_10 : decode prog_69_method_11_code 10 = .ok (.iaload, 1) := by decide +kernel
theorem own_d4_11 : decode prog_69_method_11_code 11 = .ok (.iastore, 1) := by decide +kernel
theorem own_d4_12 : decode prog_69_method_11_code 12 = .ok (.aload_n 0, 1) := by decide +kernel
theorem own_d4_13 : decode prog_69_method_11_code 13 = .ok (.getfield 16, 3) := by decide +kernel
theorem own_d4_16 : decode prog_69_method_11_code 16 = .ok (.ifnull 22, 3) := by decide +kernel
theorem own_d4_19 : decode prog_69_method_11_code 19 = .ok (.aload_n 0, 1) := by decide +kernel
theorem own_d4_20 : decode prog_69_method_11_code 20 = .ok (.getfield 16, 3) := by decide +kernel
theorem own_d4_23 : decode prog_69_method_11_code 23 = .ok (.iload_n 2, 1) := by decide +kernel
theorem own_d4_24 : decode prog_69_method_11_code 24 = .ok (.aload_n 0, 1) := by decide +kernel
theorem own_d4_25 : decode prog_69_method_11_code 25 = .ok (.getfield 16, 3) := by decide +kernel
theorem own_d4_28 : decode prog_69_method_11_code 28 = .ok (.iload_n 1, 1) := by decide +kernel
theorem own_d4_29 : decode prog_69_method_11_code 29 = .ok (.aaload, 1) := by decide +kernel
theorem own_d4_30 : decode prog_69_method_11_code 30 = .ok (.aastore, 1) := by decide +kernel
theorem own_d4_31 : decode prog_69_method_11_code 31 = .ok (.aload_n 0, 1) := by decide +kernel
theorem own_d4_32 : decode prog_69_method_11_code 32 = .ok (.getfield 16, 3) := by decide +kernel
theorem own_d4_35 : decode prog_69_method_11_code 35 = .ok (.iload_n 1, 1) := by decide +kernel
theorem own_d4_36 : decode prog_69_method_11_code 36 = .ok (.aconst_null, 1) := by decide +kernel
theorem own_d4_37 : decode prog_69_method_11_code 37 = .ok (.aastore, 1) := by decide +kernel
theorem own_d4_38 : decode prog_69_method_11_code 38 = .ok (.aload_n 0, 1) := by decide +kernel
theorem own_d4_39 : decode prog_69_method_11_code 39 = .ok (.getfield 20, 3) := by decide +kernel
theorem own_d4_42 : decode prog_69_method_11_code 42 = .ok (.ifnull 15, 3) := by decide +kernel
theorem own_d4_45 : decode prog_69_method_11_code 45 = .ok (.aload_n 0, 1) := by decide +kernel
theorem own_d4_46 : decode prog_69_method_11_code 46 = .ok (.getfield 20, 3) := by decide +kernel
theorem own_d4_49 : decode prog_69_method_11_code 49 = .ok (.iload_n 2, 1) := by decide +kernel
theorem own_d4_50 : decode prog_69_method_11_code 50 = .ok (.aload_n 0, 1) := by decide +kernel
theorem own_d4_51 : decode prog_69_method_11_code 51 = .ok (.getfield 20, 3) := by decide +kernel
theorem own_d4_54 : decode prog_69_method_11_code 54 = .ok (.iload_n 1, 1) := by decide +kernel
theorem own_d4_55 : decode prog_69_method_11_code 55 = .ok (.iaload, 1) := by decide +kernel
theorem own_d4_56 : decode prog_69_method_11_code 56 = .ok (.iastore, 1) := by decide +kernel
theorem own_d4_57 : decode prog_69_method_11_code 57 = .ok (.return_, 1) := by decide +kernel
theorem own_d5_0 : decode method_4_code 0 = .ok (.aload_n 0, 1) := by decide +kernel
theorem own_d5_1 : decode method_4_code 1 = .ok (.iconst 0, 1) := by decide +kernel
theorem own_d5_2 : decode method_4_code 2 = .ok (.iaload, 1) := by decide +kernel
theorem own_d5_3 : decode method_4_code 3 = .ok (.aload_n 1, 1) := by decide +kernel
theorem own_d5_4 : decode method_4_code 4 = .ok (.iconst 0, 1) := by decide +kernel
theorem own_d5_5 : decode method_4_code 5 = .ok (.iload_n 2, 1) := by decide +kernel
theorem own_d5_6 : decode method_4_code 6 = .ok (.iload_n 3, 1) := by decide +kernel
theorem own_d5_7 : decode method_4_code 7 = .ok (.invokestatic 35, 3) := by decide +kernel
theorem own_d5_10 : decode method_4_code 10 = .ok (.if_icmp .ne 46, 3) := by decide +kernel
theorem own_d5_13 : decode method_4_code 13 = .ok (.aload_n 0, 1) := by decide +kernel
theorem own_d5_14 : decode method_4_code 14 = .ok (.iconst 1, 1) := by decide +kernel
theorem own_d5_15 : decode method_4_code 15 = .ok (.iaload, 1) := by decide +kernel
theorem own_d5_16 : decode method_4_code 16 = .ok (.aload_n 1, 1) := by decide +kernel
theorem own_d5_17 : decode method_4_code 17 = .ok (.iconst 1, 1) := by decide +kernel
theorem own_d5_18 : decode method_4_code 18 = .ok (.iload_n 2, 1) := by decide +kernel
theorem own_d5_19 : decode method_4_code 19 = .ok (.iload_n 3, 1) := by decide +kernel
theorem own_d5_20 : decode method_4_code 20 = .ok (.invokestatic 35, 3) := by decide +kernel
theorem own_d5_23 : decode method_4_code 23 = .ok (.if_icmp .ne 33, 3) := by decide +kernel
theorem own_d5_26 : decode method_4_code 26 = .ok (.aload_n 0, 1) := by decide +kernel
theorem own_d5_27 : decode method_4_code 27 = .ok (.iconst 2, 1) := by decide +kernel
theorem own_d5_28 : decode method_4_code 28 = .ok (.iaload, 1) := by decide +kernel
theorem own_d5_29 : decode method_4_code 29 = .ok (.aload_n 1, 1) := by decide +kernel
theorem own_d5_30 : decode method_4_code 30 = .ok (.iconst 2, 1) := by decide +kernel
theorem own_d5_31 : decode method_4_code 31 = .ok (.iload_n 2, 1) := by decide +kernel
theorem own_d5_32 : decode method_4_code 32 = .ok (.iload_n 3, 1) := by decide +kernel
theorem own_d5_33 : decode method_4_code 33 = .ok (.invokestatic 35, 3) := by decide +kernel
theorem own_d5_36 : decode method_4_code 36 = .ok (.if_icmp .ne 20, 3) := by decide +kernel
theorem own_d5_39 : decode method_4_code 39 = .ok (.aload_n 0, 1) := by decide +kernel
theorem own_d5_40 : decode method_4_code 40 = .ok (.iconst 3, 1) := by decide +kernel
theorem own_d5_41 : decode method_4_code 41 = .ok (.iaload, 1) := by decide +kernel
theorem own_d5_42 : decode method_4_code 42 = .ok (.aload_n 1, 1) := by decide +kernel
theorem own_d5_43 : decode method_4_code 43 = .ok (.iconst 3, 1) := by decide +kernel
theorem own_d5_44 : decode method_4_code 44 = .ok (.iload_n 2, 1) := by decide +kernel
theorem own_d5_45 : decode method_4_code 45 = .ok (.iload_n 3, 1) := by decide +kernel
theorem own_d5_46 : decode method_4_code 46 = .ok (.invokestatic 35, 3) := by decide +kernel
theorem own_d5_49 : decode method_4_code 49 = .ok (.if_icmp .ne 7, 3) := by decide +kernel
theorem own_d5_52 : decode method_4_code 52 = .ok (.iconst 1, 1) := by decide +kernel
theorem own_d5_53 : decode method_4_code 53 = .ok (.goto 4, 3) := by decide +kernel
theorem own_d5_57 : decode method_4_code 57 = .ok (.ireturn, 1) := by decide +kernel
theorem own_d6_0 : decode method_3_code 0 = .ok (.iload_n 1, 1) := by decide +kernel
theorem own_d6_1 : decode method_3_code 1 = .ok (.iload_n 3, 1) := by decide +kernel
theorem own_d6_2 : decode method_3_code 2 = .ok (.if_icmp .ne 7, 3) := by decide +kernel
theorem own_d6_5 : decode method_3_code 5 = .ok (.aload_n 0, 1) := by decide +kernel
theorem own_d6_6 : decode method_3_code 6 = .ok (.iload_n 2, 1) := by decide +kernel
theorem own_d6_7 : decode method_3_code 7 = .ok (.iaload, 1) := by decide +kernel
theorem own_d6_8 : decode method_3_code 8 = .ok (.ireturn, 1) := by decide +kernel
theorem own_d6_9 : decode method_3_code 9 = .ok (.aload_n 0, 1) := by decide +kernel
theorem own_d6_10 : decode method_3_code 10 = .ok (.iload_n 1, 1) := by decide +kernel
theorem own_d6_11 : decode method_3_code 11 = .ok (.iaload, 1) := by decide +kernel
theorem own_d6_12 : decode method_3_code 12 = .ok (.ireturn, 1) := by decide +kernel
theorem own_d7_0 : decode method_6_code 0 = .ok (.aload_n 0, 1) := by decide +kernel
theorem own_d7_1 : decode method_6_code 1 = .ok (.iconst 0, 1) := by decide +kernel
theorem own_d7_2 : decode method_6_code 2 = .ok (.aaload, 1) := by decide +kernel
theorem own_d7_3 : decode method_6_code 3 = .ok (.aload_n 1, 1) := by decide +kernel
theorem own_d7_4 : decode method_6_code 4 = .ok (.iconst 0, 1) := by decide +kernel
theorem own_d7_5 : decode method_6_code 5 = .ok (.iload_n 2, 1) := by decide +kernel
theorem own_d7_6 : decode method_6_code 6 = .ok (.iload_n 3, 1) := by decide +kernel
theorem own_d7_7 : decode method_6_code 7 = .ok (.invokestatic 39, 3) := by decide +kernel
theorem own_d7_10 : decode method_6_code 10 = .ok (.if_acmp .ne 46, 3) := by decide +kernel
theorem own_d7_13 : decode method_6_code 13 = .ok (.aload_n 0, 1) := by decide +kernel
theorem own_d7_14 : decode method_6_code 14 = .ok (.iconst 1, 1) := by decide +kernel
theorem own_d7_15 : decode method_6_code 15 = .ok (.aaload, 1) := by decide +kernel
theorem own_d7_16 : decode method_6_code 16 = .ok (.aload_n 1, 1) := by decide +kernel
theorem own_d7_17 : decode method_6_code 17 = .ok (.iconst 1, 1) := by decide +kernel
theorem own_d7_18 : decode method_6_code 18 = .ok (.iload_n 2, 1) := by decide +kernel
theorem own_d7_19 : decode method_6_code 19 = .ok (.iload_n 3, 1) := by decide +kernel
theorem own_d7_20 : decode method_6_code 20 = .ok (.invokestatic 39, 3) := by decide +kernel
theorem own_d7_23 : decode method_6_code 23 = .ok (.if_acmp .ne 33, 3) := by decide +kernel
theorem own_d7_26 : decode method_6_code 26 = .ok (.aload_n 0, 1) := by decide +kernel
theorem own_d7_27 : decode method_6_code 27 = .ok (.iconst 2, 1) := by decide +kernel
theorem own_d7_28 : decode method_6_code 28 = .ok (.aaload, 1) := by decide +kernel
theorem own_d7_29 : decode method_6_code 29 = .ok (.aload_n 1, 1) := by decide +kernel
theorem own_d7_30 : decode method_6_code 30 = .ok (.iconst 2, 1) := by decide +kernel
theorem own_d7_31 : decode method_6_code 31 = .ok (.iload_n 2, 1) := by decide +kernel
theorem own_d7_32 : decode method_6_code 32 = .ok (.iload_n 3, 1) := by decide +kernel
theorem own_d7_33 : decode method_6_code 33 = .ok (.invokestatic 39, 3) := by decide +kernel
theorem own_d7_36 : decode method_6_code 36 = .ok (.if_acmp .ne 20, 3) := by decide +kernel
theorem own_d7_39 : decode method_6_code 39 = .ok (.aload_n 0, 1) := by decide +kernel
theorem own_d7_40 : decode method_6_code 40 = .ok (.iconst 3, 1) := by decide +kernel
theorem own_d7_41 : decode method_6_code 41 = .ok (.aaload, 1) := by decide +kernel
theorem own_d7_42 : decode method_6_code 42 = .ok (.aload_n 1, 1) := by decide +kernel
theorem own_d7_43 : decode method_6_code 43 = .ok (.iconst 3, 1) := by decide +kernel
theorem own_d7_44 : decode method_6_code 44 = .ok (.iload_n 2, 1) := by decide +kernel
theorem own_d7_45 : decode method_6_code 45 = .ok (.iload_n 3, 1) := by decide +kernel
theorem own_d7_46 : decode method_6_code 46 = .ok (.invokestatic 39, 3) := by decide +kernel
theorem own_d7_49 : decode method_6_code 49 = .ok (.if_acmp .ne 7, 3) := by decide +kernel
theorem own_d7_52 : decode method_6_code 52 = .ok (.iconst 1, 1) := by decide +kernel
theorem own_d7_53 : decode method_6_code 53 = .ok (.goto 4, 3) := by decide +kernel
theorem own_d7_57 : decode method_6_code 57 = .ok (.ireturn, 1) := by decide +kernel
theorem own_d8_0 : decode method_5_code 0 = .ok (.iload_n 1, 1) := by decide +kernel
theorem own_d8_1 : decode method_5_code 1 = .ok (.iload_n 3, 1) := by decide +kernel
theorem own_d8_2 : decode method_5_code 2 = .ok (.if_icmp .ne 7, 3) := by decide +kernel
theorem own_d8_5 : decode method_5_code 5 = .ok (.aload_n 0, 1) := by decide +kernel
theorem own_d8_6 : decode method_5_code 6 = .ok (.iload_n 2, 1) := by decide +kernel
theorem own_d8_7 : decode method_5_code 7 = .ok (.aaload, 1) := by decide +kernel
theorem own_d8_8 : decode method_5_code 8 = .ok (.areturn, 1) := by decide +kernel
theorem own_d8_9 : decode method_5_code 9 = .ok (.iload_n 1, 1) := by decide +kernel
theorem own_d8_10 : decode method_5_code 10 = .ok (.iload_n 2, 1) := by decide +kernel
theorem own_d8_11 : decode method_5_code 11 = .ok (.if_icmp .ne 5, 3) := by decide +kernel
theorem own_d8_14 : decode method_5_code 14 = .ok (.aconst_null, 1) := by decide +kernel
theorem own_d8_15 : decode method_5_code 15 = .ok (.areturn, 1) := by decide +kernel
theorem own_d8_16 : decode method_5_code 16 = .ok (.aload_n 0, 1) := by decide +kernel
theorem own_d8_17 : decode method_5_code 17 = .ok (.iload_n 1, 1) := by decide +kernel
theorem own_d8_18 : decode method_5_code 18 = .ok (.aaload, 1) := by decide +kernel
theorem own_d8_19 : decode method_5_code 19 = .ok (.areturn, 1) := by decide +kernel
theorem own_pd0 : parseMethodDescriptor "()V" = some ⟨[], none⟩ := by decide +kernel
theorem own_pd1 : parseMethodDescriptor "([IIII)I" = some ⟨[(.array .int), .int, .int, .int], some .int⟩ := by decide +kernel
theorem own_pd2 : parseMethodDescriptor "([Ljava/lang/Object;III)Ljava/lang/Object;" = some ⟨[(.array (.object "java/lang/Object")), .int, .int, .int], some (.object "java/lang/Object")⟩ := by decide +kernel
theorem own_pd3 : parseMethodDescriptor "([I[III)Z" = some ⟨[(.array .int), (.array .int), .int, .int], some .boolean⟩ := by decide +kernel
theorem own_pd4 : parseMethodDescriptor "([Ljava/lang/Object;[Ljava/lang/Object;II)Z" = some ⟨[(.array (.object "java/lang/Object")), (.array (.object "java/lang/Object")), .int, .int], some .boolean⟩ := by decide +kernel
theorem own_pd5 : parseMethodDescriptor "(II)V" = some ⟨[.int, .int], none⟩ := by decide +kernel
theorem own_pn0 : plainName "com/example/sheaf/sheaf/CompactHash" = true := by first | (simp [plainName, overriddenIn]; done) | decide +kernel
theorem own_pn1 : plainName "com/example/sheaf/sheaf/CountedKeys" = true := by first | (simp [plainName, overriddenIn]; done) | decide +kernel
theorem own_pn2 : plainName "com/example/sheaf/sheaf/CountedKeysMovePinLaw" = true := by first | (simp [plainName, overriddenIn]; done) | decide +kernel
theorem own_ef2 (m : MethodId) (a1 : Addr) : entryFrame m #[(.ref a1)] 1 = mkF m 0 #[.val (.ref a1)] [] := by first | (simp [entryFrame, mkF, argsToLocals, Value.category]; done) | rfl
theorem own_ef1 (m : MethodId) (a1 : Addr) : entryFrame m #[(.ref a1)] 1 = mkF m 0 #[.val (.ref a1)] [] := by first | (simp [entryFrame, mkF, argsToLocals, Value.category]; done) | rfl
theorem own_ef4 (m : MethodId) (a1 : Addr) (f : Int32) (t : Int32) : entryFrame m #[(.ref a1), (.int f), (.int t)] 3 = mkF m 0 #[.val (.ref a1), .val (.int f), .val (.int t)] [] := by first | (simp [entryFrame, mkF, argsToLocals, Value.category]; done) | rfl
theorem own_ef6 (m : MethodId) (a1 : Addr) (i : Int32) (f : Int32) (t : Int32) : entryFrame m #[(.ref a1), (.int i), (.int f), (.int t)] 4 = mkF m 0 #[.val (.ref a1), .val (.int i), .val (.int f), .val (.int t)] [] := by first | (simp [entryFrame, mkF, argsToLocals, Value.category]; done) | rfl
theorem own_ef8 (m : MethodId) (a1 : Addr) (i : Int32) (f : Int32) (t : Int32) : entryFrame m #[(.ref a1), (.int i), (.int f), (.int t)] 4 = mkF m 0 #[.val (.ref a1), .val (.int i), .val (.int f), .val (.int t)] [] := by first | (simp [entryFrame, mkF, argsToLocals, Value.category]; done) | rfl
theorem own_ef5 (m : MethodId) (a1 : Addr) (a2 : Addr) (f : Int32) (t : Int32) : entryFrame m #[(.ref a1), (.ref a2), (.int f), (.int t)] 4 = mkF m 0 #[.val (.ref a1), .val (.ref a2), .val (.int f), .val (.int t)] [] := by first | (simp [entryFrame, mkF, argsToLocals, Value.category]; done) | rfl
theorem own_ef7 (m : MethodId) (a1 : Addr) (a2 : Addr) (f : Int32) (t : Int32) : entryFrame m #[(.ref a1), (.ref a2), (.int f), (.int t)] 4 = mkF m 0 #[.val (.ref a1), .val (.ref a2), .val (.int f), .val (.int t)] [] := by first | (simp [entryFrame, mkF, argsToLocals, Value.category]; done) | rfl
theorem own_ef0 (m : MethodId) (p1 : Int32) (p2 : Int32) (p3 : Int32) (p4 : Int32) (q5 : Int64) (p6 : Int32) : entryFrame m #[(.int p1), (.int p2), (.int p3), (.int p4), (.long q5), (.int p6)] maxLocals = mkF m 0 #[.val (.int p1), .val (.int p2), .val (.int p3), .val (.int p4), .val (.long q5), .second, .val (.int p6), .unset, .unset, .unset, .unset, .unset, .unset, .unset, .unset, .unset, .unset, .unset, .unset, .unset, .unset, .unset, .unset] [] := by first | (simp [entryFrame, mkF, argsToLocals, Value.category, maxLocals]; done) | rfl
def own_one (n0 : Nat) (ht : Heap) (v : Option Value) (h : Heap) (L : List Loc) : Prop := v = some (.int 1) ∧ Fr n0 L ∧ h = ht
theorem own_f (x : Int32) : (1 : Int32) + ((x &&& 3) % 3) = 1 ∨ (1 : Int32) + ((x &&& 3) % 3) = 2 ∨ (1 : Int32) + ((x &&& 3) % 3) = 3 := by
  have h := (c_and x 3 (by decide)).1
  have q := (c_iremV (x &&& 3) 3).1 h (by decide)
  have z : (3 : Int32).toInt = 3 := by decide
  rw [z] at q
  generalize (x &&& 3) % 3 = y at q ⊢
  have : y.toInt = 0 ∨ y.toInt = 1 ∨ y.toInt = 2 := by omega
  rcases this with q | q | q
  · obtain rfl : y = 0 := Int32.toInt_inj.mp q
    exact Or.inl (by decide)
  · obtain rfl : y = 1 := Int32.toInt_inj.mp q
    exact Or.inr (Or.inl (by decide))
  · obtain rfl : y = 2 := Int32.toInt_inj.mp q
    exact Or.inr (Or.inr (by decide))
theorem own_t (x f : Int32) (n : Int) (hf : f.toInt = n) (h0 : 0 < n) : 0 ≤ ((x &&& 3) % f).toInt ∧ ((x &&& 3) % f).toInt < n := by
  have h := (c_and x 3 (by decide)).1
  have q := (c_iremV (x &&& 3) f).1 h (by omega)
  omega
theorem own_t1 (x : Int32) : (x &&& 3) % 1 = 0 := by
  have := own_t x 1 1 (by decide) (by decide)
  exact Int32.toInt_inj.mp (by have z : (0 : Int32).toInt = 0 := by decide
                               omega)
theorem own_t2 (x : Int32) : (x &&& 3) % 2 = 0 ∨ (x &&& 3) % 2 = 1 := by
  have := own_t x 2 2 (by decide) (by decide)
  have z : (0 : Int32).toInt = 0 := by decide
  have o : (1 : Int32).toInt = 1 := by decide
  have : ((x &&& 3) % 2).toInt = 0 ∨ ((x &&& 3) % 2).toInt = 1 := by omega
  rcases this with q | q
  · exact Or.inl (Int32.toInt_inj.mp q)
  · exact Or.inr (Int32.toInt_inj.mp q)
theorem own_t3 (x : Int32) : (x &&& 3) % 3 = 0 ∨ (x &&& 3) % 3 = 1 ∨ (x &&& 3) % 3 = 2 := by
  have := own_t x 3 3 (by decide) (by decide)
  have : ((x &&& 3) % 3).toInt = 0 ∨ ((x &&& 3) % 3).toInt = 1 ∨ ((x &&& 3) % 3).toInt = 2 := by omega
  rcases this with q | q | q
  · exact Or.inl (Int32.toInt_inj.mp q)
  · exact Or.inr (Or.inl (Int32.toInt_inj.mp q))
  · exact Or.inr (Or.inr (Int32.toInt_inj.mp q))
theorem own_fitR {C : String} {z : Value} (h : z.isRef = true) : fits (.object C) z = true := by cases z <;> first | rfl | (cases h)
def own_co_Q (Z : State) (a1 wo wi : Addr) (h0 : Heap) (n0 : Nat) (v : Option Value) (h : Heap) (L : List Loc) : Prop := v = none ∧ Fr n0 L ∧ Keep h0 h [a1] ∧ Fld Z h a1 "com/example/sheaf/sheaf/CountedKeys" "counts" "[I" .null ∧ Fld Z h a1 "com/example/sheaf/sheaf/CountedKeys" "groups" "[Ljava/lang/Object;" .null ∧ Fld Z h a1 "com/example/sheaf/sheaf/CountedKeys" "heads" "[I" .null ∧ Sta Z h "com/example/sheaf/sheaf/CompactHash" "NO_INTS" "[I" (.ref wi)
set_option maxRecDepth 65536 in
set_option maxHeartbeats 40000000 in
theorem own_co (l : Launch) {Z : State} {a0 : Array Value} (hw : own_W Z a0) (ws : List Jvm.Cond) (a1 wo wi : Addr) (h0 : Heap) (n0 : Nat) (Z0 : n0 ≤ h0.size) (So : Sta Z h0 "com/example/sheaf/sheaf/CompactHash" "NO_OBJECTS" "[Ljava/lang/Object;" (.ref wo)) (Si : Sta Z h0 "com/example/sheaf/sheaf/CompactHash" "NO_INTS" "[I" (.ref wi)) (g_a1 : n0 ≤ a1) (Ea : Exa Z h0 a1 "com/example/sheaf/sheaf/CountedKeys") (F_keys : Fld Z h0 a1 "com/example/sheaf/sheaf/CompactHash" "keys" "[Ljava/lang/Object;" .null) (F_index : Fld Z h0 a1 "com/example/sheaf/sheaf/CompactHash" "index" "[I" .null) (F_counts : Fld Z h0 a1 "com/example/sheaf/sheaf/CountedKeys" "counts" "[I" .null) (F_groups : Fld Z h0 a1 "com/example/sheaf/sheaf/CountedKeys" "groups" "[Ljava/lang/Object;" .null) (F_heads : Fld Z h0 a1 "com/example/sheaf/sheaf/CountedKeys" "heads" "[I" .null) :
    MetFree l (⟨"com/example/sheaf/sheaf/CompactHash", "<init>", "()V"⟩ : MethodName) (head1 (Jvm.Cond.code (⟨"com/example/sheaf/sheaf/CompactHash", "<init>", "()V"⟩ : MethodName) prog_58_method_1_code 1 none :: ws) ({ frames := 1, cells := 0, slots := 0, locals := 12 } : Room)) (fun a U => a = #[(.ref a1)] ∧ Z.Warmed39 U.vm ∧ U.heap = h0) (fun _ _ _ _ _ => True) (fun _ U o U' => ∃ v L, o = .returned v ∧ own_co_Q Z a1 wo wi h0 n0 v U'.heap L ∧ FrameEnd U o U' L ({ frames := 1, cells := 0, slots := 0, locals := 12 } : Room).cells ({ frames := 1, cells := 0, slots := 0, locals := 12 } : Room).slots) := by
  refine own_enter (C := ({ frames := 1, cells := 0, slots := 0, locals := 12 } : Room).cells) (S := ({ frames := 1, cells := 0, slots := 0, locals := 12 } : Room).slots) (plainFor_of_name own_pn0) ?_
  intro p e s m below meth c T0 X0 I e0
  obtain ⟨hx, hby, hml, hown, hnm, hret, hlk, hZ⟩ := I
  have N0 := Fr.nil n0
  have O0 := own_extr h0
  refine own_cast (own_ef2 m a1) ?_
  show own_Go _ _ _ _ T0 (mkF m 0 #[.val (.ref a1)] [])
  have K0 := Keep.refl h0 [a1]
  refine own_st (fun _ k => XS.aloadN X0.here hx rfl (hb hby own_d2_0) rfl rfl k) ?_
  obtain ⟨T1, X1, e1, st1⟩ := initO X0 hx hZ hown (own_w15 hw) (own_w16 hw) (own_w17 hw) e0 (g := (mkF m 1 #[.val (.ref a1)] [(.ref a1)])) rfl (by rw [hml]; rfl) rfl (hb hby own_d2_1) (by decide) (W := 0) (Nat.le_of_eq rfl) (by decide)
  refine own_st st1 ?_
  refine own_st (fun _ k => XS.aloadN X1.here hx rfl (hb hby own_d2_4) rfl rfl k) ?_
  obtain ⟨T2, X2, e2, st2⟩ := getS2 X1 hx hZ hown (host := "") (Or.inl (own_w18 hw)) Via.refl e1 So (g := (mkF m 5 #[.val (.ref a1)] [(.ref a1)])) rfl (hb hby own_d2_5)
  refine own_st st2 ?_
  obtain ⟨T3, hp3, X3, e3, W3, st3⟩ := putF X2 hx hZ hown (host := "") (Or.inl (own_w20 hw)) Via.refl e2 F_keys Ea (Or.inl (own_w21 hw)) (own_w5 hw) (ty := (.array (.object "java/lang/Object"))) (by decide) rfl rfl (g := (mkF m 8 #[.val (.ref a1)] [(.ref wo), (.ref a1)])) rfl rfl (hb hby own_d2_8)
  have K3 := Keep.wr K0 W3 (Or.inl (List.mem_of_getElem? (i := 0) rfl))
  have So_3 := So.wr W3
  have Si_3 := Si.wr W3
  have Ex_a1_3 := Ea.wr W3
  have F_index_a1_3 := F_index.other W3 (Or.inr (slot_ne (Or.inl (own_w25 hw)) (Or.inl (own_w21 hw)) (by decide) (t := (.array .int)) (t' := (.array (.object "java/lang/Object"))) (by decide) (by decide)))
  have F_counts_a1_3 := F_counts.other W3 (Or.inr (slot_ne (Or.inl (own_w29 hw)) (Or.inl (own_w21 hw)) (by decide) (t := (.array .int)) (t' := (.array (.object "java/lang/Object"))) (by decide) (by decide)))
  have F_groups_a1_3 := F_groups.other W3 (Or.inr (slot_ne (Or.inl (own_w39 hw)) (Or.inl (own_w21 hw)) (by decide) (t := (.array (.object "java/lang/Object"))) (t' := (.array (.object "java/lang/Object"))) (by decide) (by decide)))
  have F_heads_a1_3 := F_heads.other W3 (Or.inr (slot_ne (Or.inl (own_w32 hw)) (Or.inl (own_w21 hw)) (by decide) (t := (.array .int)) (t' := (.array (.object "java/lang/Object"))) (by decide) (by decide)))
  have F_keys_a1_3 := F_keys.same W3
  have N3 := Fr.snoc X3 N0 g_a1
  refine own_st st3 ?_
  refine own_st (fun _ k => XS.aloadN X3.here hx rfl (hb hby own_d2_11) rfl rfl k) ?_
  show own_Go _ _ _ _ T3 (mkF m 12 #[.val (.ref a1)] [(.ref a1)])
  obtain ⟨T4, X4, e4, st4⟩ := getS2 X3 hx hZ hown (host := "") (Or.inl (own_w22 hw)) Via.refl e3 Si_3 (g := (mkF m 12 #[.val (.ref a1)] [(.ref a1)])) rfl (hb hby own_d2_12)
  refine own_st st4 ?_
  obtain ⟨T5, hp5, X5, e5, W5, st5⟩ := putF X4 hx hZ hown (host := "") (Or.inl (own_w24 hw)) Via.refl e4 F_index_a1_3 Ex_a1_3 (Or.inl (own_w25 hw)) (own_w5 hw) (ty := (.array .int)) (by decide) rfl rfl (g := (mkF m 15 #[.val (.ref a1)] [(.ref wi), (.ref a1)])) rfl rfl (hb hby own_d2_15)
  have K5 := Keep.wr K3 W5 (Or.inl (List.mem_of_getElem? (i := 0) rfl))
  have So_5 := So_3.wr W5
  have Si_5 := Si_3.wr W5
  have Ex_a1_5 := Ex_a1_3.wr W5
  have F_keys_a1_5 := F_keys_a1_3.other W5 (Or.inr (slot_ne (Or.inl (own_w21 hw)) (Or.inl (own_w25 hw)) (by decide) (t := (.array (.object "java/lang/Object"))) (t' := (.array .int)) (by decide) (by decide)))
  have F_counts_a1_5 := F_counts_a1_3.other W5 (Or.inr (slot_ne (Or.inl (own_w29 hw)) (Or.inl (own_w25 hw)) (by decide) (t := (.array .int)) (t' := (.array .int)) (by decide) (by decide)))
  have F_groups_a1_5 := F_groups_a1_3.other W5 (Or.inr (slot_ne (Or.inl (own_w39 hw)) (Or.inl (own_w25 hw)) (by decide) (t := (.array (.object "java/lang/Object"))) (t' := (.array .int)) (by decide) (by decide)))
  have F_heads_a1_5 := F_heads_a1_3.other W5 (Or.inr (slot_ne (Or.inl (own_w32 hw)) (Or.inl (own_w25 hw)) (by decide) (t := (.array .int)) (t' := (.array .int)) (by decide) (by decide)))
  have F_index_a1_5 := F_index_a1_3.same W5
  have N5 := Fr.snoc X5 N3 g_a1
  refine own_st st5 ?_
  exact own_retV X5 hx hret hlk (hb hby own_d2_18) ⟨rfl, N5, by rw [e5]; exact K5, by rw [e5]; exact F_counts_a1_5, by rw [e5]; exact F_groups_a1_5, by rw [e5]; exact F_heads_a1_5, by rw [e5]; exact Si_5⟩ (by decide) (by decide)
def own_ck_Q (Z : State) (a1 wo wi : Addr) (h0 : Heap) (n0 : Nat) (v : Option Value) (h : Heap) (L : List Loc) : Prop := v = none ∧ Fr n0 L ∧ Keep h0 h [a1] ∧ Fld Z h a1 "com/example/sheaf/sheaf/CountedKeys" "counts" "[I" (.ref wi) ∧ Fld Z h a1 "com/example/sheaf/sheaf/CountedKeys" "groups" "[Ljava/lang/Object;" .null ∧ Fld Z h a1 "com/example/sheaf/sheaf/CountedKeys" "heads" "[I" .null
set_option maxRecDepth 65536 in
set_option maxHeartbeats 40000000 in
theorem own_ck (l : Launch) {Z : State} {a0 : Array Value} (hw : own_W Z a0) (ws : List Jvm.Cond) (a1 wo wi : Addr) (h0 : Heap) (n0 : Nat) (Z0 : n0 ≤ h0.size) (So : Sta Z h0 "com/example/sheaf/sheaf/CompactHash" "NO_OBJECTS" "[Ljava/lang/Object;" (.ref wo)) (Si : Sta Z h0 "com/example/sheaf/sheaf/CompactHash" "NO_INTS" "[I" (.ref wi)) (g_a1 : n0 ≤ a1) (Ea : Exa Z h0 a1 "com/example/sheaf/sheaf/CountedKeys") (F_keys : Fld Z h0 a1 "com/example/sheaf/sheaf/CompactHash" "keys" "[Ljava/lang/Object;" .null) (F_index : Fld Z h0 a1 "com/example/sheaf/sheaf/CompactHash" "index" "[I" .null) (F_counts : Fld Z h0 a1 "com/example/sheaf/sheaf/CountedKeys" "counts" "[I" .null) (F_groups : Fld Z h0 a1 "com/example/sheaf/sheaf/CountedKeys" "groups" "[Ljava/lang/Object;" .null) (F_heads : Fld Z h0 a1 "com/example/sheaf/sheaf/CountedKeys" "heads" "[I" .null) :
    MetFree l (⟨"com/example/sheaf/sheaf/CountedKeys", "<init>", "()V"⟩ : MethodName) (head1 (Jvm.Cond.code (⟨"com/example/sheaf/sheaf/CountedKeys", "<init>", "()V"⟩ : MethodName) prog_69_method_1_code 1 none :: ws) ({ frames := 2, cells := 0, slots := 0, locals := 24 } : Room)) (fun a U => a = #[(.ref a1)] ∧ Z.Warmed39 U.vm ∧ U.heap = h0) (fun _ _ _ _ _ => True) (fun _ U o U' => ∃ v L, o = .returned v ∧ own_ck_Q Z a1 wo wi h0 n0 v U'.heap L ∧ FrameEnd U o U' L ({ frames := 2, cells := 0, slots := 0, locals := 24 } : Room).cells ({ frames := 2, cells := 0, slots := 0, locals := 24 } : Room).slots) := by
  refine own_enter (C := ({ frames := 2, cells := 0, slots := 0, locals := 24 } : Room).cells) (S := ({ frames := 2, cells := 0, slots := 0, locals := 24 } : Room).slots) (plainFor_of_name own_pn1) ?_
  intro p e s m below meth c T0 X0 I e0
  obtain ⟨hx, hby, hml, hown, hnm, hret, hlk, hZ⟩ := I
  have N0 := Fr.nil n0
  have O0 := own_extr h0
  refine own_cast (own_ef1 m a1) ?_
  show own_Go _ _ _ _ T0 (mkF m 0 #[.val (.ref a1)] [])
  have K0 := Keep.refl h0 [a1]
  refine own_st (fun _ k => XS.aloadN X0.here hx rfl (hb hby own_d1_0) rfl rfl k) ?_
  obtain ⟨v1, T1, L1, hQ1, X1, st1⟩ := own_callI X0 hx hZ (y := (⟨"com/example/sheaf/sheaf/CompactHash", "<init>", "()V"⟩ : MethodName)) rfl hown (own_w10 hw) (own_w11 hw) (own_w13 hw) (own_w14 hw) (by decide) (own_co l hw [] a1 wo wi h0 n0 Z0 So Si g_a1 Ea F_keys F_index F_counts F_groups F_heads) e0 (g := (mkF m 1 #[.val (.ref a1)] [(.ref a1)])) rfl (by rw [hml]; rfl) (argsL := []) (rest := []) (lenOf own_pd0 rfl) rfl rfl (W := 0) (Nat.le_of_eq rfl) (hb hby own_d1_1) (by decide) (by decide) (by decide) (by decide)
  obtain ⟨rfl, N1, K1, Fc1, Fg1, Fh1, Sn1⟩ := hQ1
  have K1' := Keep.trans K0 K1 (fun x hx => Or.inl hx)
  have Ea1 := Ea.keep K1
  have N1' := Fr.app N0 N1
  refine own_st st1 ?_
  refine own_st (fun _ k => XS.aloadN X1.here hx rfl (hb hby own_d1_4) rfl rfl k) ?_
  obtain ⟨T2, X2, e2, st2⟩ := getS2 X1 hx hZ hown (host := "") (Or.inl (own_w26 hw)) (Via.of (own_w27 hw)) rfl Sn1 (g := (mkF m 5 #[.val (.ref a1)] [(.ref a1)])) rfl (hb hby own_d1_5)
  refine own_st st2 ?_
  obtain ⟨T3, hp3, X3, e3, W3, st3⟩ := putF X2 hx hZ hown (host := "") (Or.inl (own_w28 hw)) Via.refl e2 Fc1 Ea1 (Or.inl (own_w29 hw)) (own_w5 hw) (ty := (.array .int)) (by decide) rfl rfl (g := (mkF m 8 #[.val (.ref a1)] [(.ref wi), (.ref a1)])) rfl rfl (hb hby own_d1_8)
  have K3 := Keep.wr K1' W3 (Or.inl (List.mem_of_getElem? (i := 0) rfl))
  have Sn1_3 := Sn1.wr W3
  have Ex_a1_3 := Ea1.wr W3
  have F_groups_a1_3 := Fg1.other W3 (Or.inr (slot_ne (Or.inl (own_w39 hw)) (Or.inl (own_w29 hw)) (by decide) (t := (.array (.object "java/lang/Object"))) (t' := (.array .int)) (by decide) (by decide)))
  have F_heads_a1_3 := Fh1.other W3 (Or.inr (slot_ne (Or.inl (own_w32 hw)) (Or.inl (own_w29 hw)) (by decide) (t := (.array .int)) (t' := (.array .int)) (by decide) (by decide)))
  have F_counts_a1_3 := Fc1.same W3
  have N3 := Fr.snoc X3 N1' g_a1
  refine own_st st3 ?_
  exact own_retV X3 hx hret hlk (hb hby own_d1_11) ⟨rfl, N3, by rw [e3]; exact K3, by rw [e3]; exact F_counts_a1_3, by rw [e3]; exact F_groups_a1_3, by rw [e3]; exact F_heads_a1_3⟩ (by decide) (by decide)
def own_mv00_Q (Z : State) (a1 ac ag ah : Addr) (f t zc zh : Int32) (zg : Value) (kc kg kh : ClassId) (vc vg vh : List Value) (h0 : Heap) (n0 : Nat) (v : Option Value) (h : Heap) (L : List Loc) : Prop := v = none ∧ Fr n0 L ∧ Keep h0 h [ac] ∧ Arv Z h ac kc .int 4 (vc.set t.toNatClampNeg (.int zc)) (.int (0 : Int32))
set_option maxRecDepth 65536 in
set_option maxHeartbeats 40000000 in
theorem own_mv00 (l : Launch) {Z : State} {a0 : Array Value} (hw : own_W Z a0) (ws : List Jvm.Cond) (a1 ac ag ah : Addr) (f t zc zh : Int32) (zg : Value) (kc kg kh : ClassId) (vc vg vh : List Value) (h0 : Heap) (n0 : Nat) (Z0 : n0 ≤ h0.size) (hf : ¬ f < 0 ∧ f < 4) (ht : ¬ t < 0 ∧ t < 4) (lc : t.toNatClampNeg < vc.length) (g_ac : n0 ≤ ac) (Vc : Arv Z h0 ac kc .int 4 vc (.int (0 : Int32))) (hc : vc.getD f.toNatClampNeg (.int (0 : Int32)) = .int zc) (nac : a1 ≠ ac) (Fc : Fld Z h0 a1 "com/example/sheaf/sheaf/CountedKeys" "counts" "[I" (.ref ac)) (Fg : Fld Z h0 a1 "com/example/sheaf/sheaf/CountedKeys" "groups" "[Ljava/lang/Object;" .null) (Fh : Fld Z h0 a1 "com/example/sheaf/sheaf/CountedKeys" "heads" "[I" .null) :
    MetFree l (⟨"com/example/sheaf/sheaf/CountedKeys", "move", "(II)V"⟩ : MethodName) (head1 (Jvm.Cond.code (⟨"com/example/sheaf/sheaf/CountedKeys", "move", "(II)V"⟩ : MethodName) prog_69_method_11_code 3 none :: ws) ({ frames := 0, cells := 0, slots := 0, locals := 0 } : Room)) (fun a U => a = #[(.ref a1), (.int f), (.int t)] ∧ Z.Warmed39 U.vm ∧ U.heap = h0) (fun _ _ _ _ _ => True) (fun _ U o U' => ∃ v L, o = .returned v ∧ own_mv00_Q Z a1 ac ag ah f t zc zh zg kc kg kh vc vg vh h0 n0 v U'.heap L ∧ FrameEnd U o U' L ({ frames := 0, cells := 0, slots := 0, locals := 0 } : Room).cells ({ frames := 0, cells := 0, slots := 0, locals := 0 } : Room).slots) := by
  refine own_enter (C := ({ frames := 0, cells := 0, slots := 0, locals := 0 } : Room).cells) (S := ({ frames := 0, cells := 0, slots := 0, locals := 0 } : Room).slots) (plainFor_of_name own_pn1) ?_
  intro p e s m below meth c T0 X0 I e0
  obtain ⟨hx, hby, hml, hown, hnm, hret, hlk, hZ⟩ := I
  have N0 := Fr.nil n0
  have O0 := own_extr h0
  refine own_cast (own_ef4 m a1 f t) ?_
  show own_Go _ _ _ _ T0 (mkF m 0 #[.val (.ref a1), .val (.int f), .val (.int t)] [])
  have K0 := Keep.refl h0 [ac]
  refine own_st (fun _ k => XS.aloadN X0.here hx rfl (hb hby own_d4_0) rfl rfl k) ?_
  obtain ⟨T1, X1, e1, st1⟩ := getF X0 hx hZ hown (host := "") (Or.inl (own_w28 hw)) Via.refl e0 Fc (g := (mkF m 1 #[.val (.ref a1), .val (.int f), .val (.int t)] [(.ref a1)])) rfl rfl (hb hby own_d4_1)
  refine own_st st1 ?_
  refine own_st (fun _ k => XS.iloadN X1.here hx rfl (hb hby own_d4_4) rfl k) ?_
  refine own_st (fun _ k => XS.aloadN X1.here hx rfl (hb hby own_d4_5) rfl rfl k) ?_
  obtain ⟨T2, X2, e2, st2⟩ := getF X1 hx hZ hown (host := "") (Or.inl (own_w28 hw)) Via.refl e1 Fc (g := (mkF m 6 #[.val (.ref a1), .val (.int f), .val (.int t)] [(.ref a1), (.int t), (.ref ac)])) rfl rfl (hb hby own_d4_6)
  refine own_st st2 ?_
  refine own_st (fun _ k => XS.iloadN X2.here hx rfl (hb hby own_d4_9) rfl k) ?_
  show own_Go _ _ _ _ T2 (mkF m 10 #[.val (.ref a1), .val (.int f), .val (.int t)] [(.int f), (.ref ac), (.int t), (.ref ac)])
  refine own_st (own_ldI X2 hx hZ e2 Vc (j := f) hf (v := (.int zc)) hc (g := (mkF m 10 #[.val (.ref a1), .val (.int f), .val (.int t)] [(.int f), (.ref ac), (.int t), (.ref ac)])) rfl rfl (hb hby own_d4_10)) ?_
  obtain ⟨T3, hp3, X3, e3, W3, Va3, st3⟩ := own_stI X2 hx hZ e2 Vc ht (t.toNatClampNeg) rfl lc (g := (mkF m 11 #[.val (.ref a1), .val (.int f), .val (.int t)] [(.int zc), (.int t), (.ref ac)])) rfl rfl (hb hby own_d4_11)
  have K3 := Keep.wr K0 W3 (Or.inl (List.mem_of_getElem? (i := 0) rfl))
  have F_counts_a1_3 := Fc.other W3 (Or.inl nac)
  have F_groups_a1_3 := Fg.other W3 (Or.inl nac)
  have F_heads_a1_3 := Fh.other W3 (Or.inl nac)
  have N3 := Fr.snoc X3 N0 g_ac
  refine own_st st3 ?_
  refine own_st (fun _ k => XS.aloadN X3.here hx rfl (hb hby own_d4_12) rfl rfl k) ?_
  obtain ⟨T4, X4, e4, st4⟩ := getF X3 hx hZ hown (host := "") (Or.inl (own_w38 hw)) Via.refl e3 F_groups_a1_3 (g := (mkF m 13 #[.val (.ref a1), .val (.int f), .val (.int t)] [(.ref a1)])) rfl rfl (hb hby own_d4_13)
  refine own_st st4 ?_
  refine own_st (fun _ k => XS.ifnullYes X4.here hx rfl (pc0 := 16) (pc' := 38) rfl (hb hby own_d4_16) rfl (by decide) (by decide) k) ?_
  refine own_st (fun _ k => XS.aloadN X4.here hx rfl (hb hby own_d4_38) rfl rfl k) ?_
  show own_Go _ _ _ _ T4 (mkF m 39 #[.val (.ref a1), .val (.int f), .val (.int t)] [(.ref a1)])
  obtain ⟨T5, X5, e5, st5⟩ := getF X4 hx hZ hown (host := "") (Or.inl (own_w40 hw)) Via.refl e4 F_heads_a1_3 (g := (mkF m 39 #[.val (.ref a1), .val (.int f), .val (.int t)] [(.ref a1)])) rfl rfl (hb hby own_d4_39)
  refine own_st st5 ?_
  refine own_st (fun _ k => XS.ifnullYes X5.here hx rfl (pc0 := 42) (pc' := 57) rfl (hb hby own_d4_42) rfl (by decide) (by decide) k) ?_
  exact own_retV X5 hx hret hlk (hb hby own_d4_57) ⟨rfl, N3, by rw [e5]; exact K3, by rw [e5]; exact Va3⟩ (by decide) (by decide)
def own_mv01_Q (Z : State) (a1 ac ag ah : Addr) (f t zc zh : Int32) (zg : Value) (kc kg kh : ClassId) (vc vg vh : List Value) (h0 : Heap) (n0 : Nat) (v : Option Value) (h : Heap) (L : List Loc) : Prop := v = none ∧ Fr n0 L ∧ Keep h0 h [ac, ah] ∧ Arv Z h ac kc .int 4 (vc.set t.toNatClampNeg (.int zc)) (.int (0 : Int32)) ∧ Arv Z h ah kh .int 4 (vh.set t.toNatClampNeg (.int zh)) (.int (0 : Int32))
set_option maxRecDepth 65536 in
set_option maxHeartbeats 40000000 in
theorem own_mv01 (l : Launch) {Z : State} {a0 : Array Value} (hw : own_W Z a0) (ws : List Jvm.Cond) (a1 ac ag ah : Addr) (f t zc zh : Int32) (zg : Value) (kc kg kh : ClassId) (vc vg vh : List Value) (h0 : Heap) (n0 : Nat) (Z0 : n0 ≤ h0.size) (hf : ¬ f < 0 ∧ f < 4) (ht : ¬ t < 0 ∧ t < 4) (lc : t.toNatClampNeg < vc.length) (g_ac : n0 ≤ ac) (Vc : Arv Z h0 ac kc .int 4 vc (.int (0 : Int32))) (hc : vc.getD f.toNatClampNeg (.int (0 : Int32)) = .int zc) (nac : a1 ≠ ac) (Fc : Fld Z h0 a1 "com/example/sheaf/sheaf/CountedKeys" "counts" "[I" (.ref ac)) (Fg : Fld Z h0 a1 "com/example/sheaf/sheaf/CountedKeys" "groups" "[Ljava/lang/Object;" .null) (Fh : Fld Z h0 a1 "com/example/sheaf/sheaf/CountedKeys" "heads" "[I" (.ref ah)) (lh : t.toNatClampNeg < vh.length) (g_ah : n0 ≤ ah) (Vh : Arv Z h0 ah kh .int 4 vh (.int (0 : Int32))) (hh : vh.getD f.toNatClampNeg (.int (0 : Int32)) = .int zh) (nah : a1 ≠ ah) (nch : ac ≠ ah) :
    MetFree l (⟨"com/example/sheaf/sheaf/CountedKeys", "move", "(II)V"⟩ : MethodName) (head1 (Jvm.Cond.code (⟨"com/example/sheaf/sheaf/CountedKeys", "move", "(II)V"⟩ : MethodName) prog_69_method_11_code 3 none :: ws) ({ frames := 0, cells := 0, slots := 0, locals := 0 } : Room)) (fun a U => a = #[(.ref a1), (.int f), (.int t)] ∧ Z.Warmed39 U.vm ∧ U.heap = h0) (fun _ _ _ _ _ => True) (fun _ U o U' => ∃ v L, o = .returned v ∧ own_mv01_Q Z a1 ac ag ah f t zc zh zg kc kg kh vc vg vh h0 n0 v U'.heap L ∧ FrameEnd U o U' L ({ frames := 0, cells := 0, slots := 0, locals := 0 } : Room).cells ({ frames := 0, cells := 0, slots := 0, locals := 0 } : Room).slots) := by
  refine own_enter (C := ({ frames := 0, cells := 0, slots := 0, locals := 0 } : Room).cells) (S := ({ frames := 0, cells := 0, slots := 0, locals := 0 } : Room).slots) (plainFor_of_name own_pn1) ?_
  intro p e s m below meth c T0 X0 I e0
  obtain ⟨hx, hby, hml, hown, hnm, hret, hlk, hZ⟩ := I
  have N0 := Fr.nil n0
  have O0 := own_extr h0
  refine own_cast (own_ef4 m a1 f t) ?_
  show own_Go _ _ _ _ T0 (mkF m 0 #[.val (.ref a1), .val (.int f), .val (.int t)] [])
  have K0 := Keep.refl h0 [ac, ah]
  refine own_st (fun _ k => XS.aloadN X0.here hx rfl (hb hby own_d4_0) rfl rfl k) ?_
  obtain ⟨T1, X1, e1, st1⟩ := getF X0 hx hZ hown (host := "") (Or.inl (own_w28 hw)) Via.refl e0 Fc (g := (mkF m 1 #[.val (.ref a1), .val (.int f), .val (.int t)] [(.ref a1)])) rfl rfl (hb hby own_d4_1)
  refine own_st st1 ?_
  refine own_st (fun _ k => XS.iloadN X1.here hx rfl (hb hby own_d4_4) rfl k) ?_
  refine own_st (fun _ k => XS.aloadN X1.here hx rfl (hb hby own_d4_5) rfl rfl k) ?_
  obtain ⟨T2, X2, e2, st2⟩ := getF X1 hx hZ hown (host := "") (Or.inl (own_w28 hw)) Via.refl e1 Fc (g := (mkF m 6 #[.val (.ref a1), .val (.int f), .val (.int t)] [(.ref a1), (.int t), (.ref ac)])) rfl rfl (hb hby own_d4_6)
  refine own_st st2 ?_
  refine own_st (fun _ k => XS.iloadN X2.here hx rfl (hb hby own_d4_9) rfl k) ?_
  show own_Go _ _ _ _ T2 (mkF m 10 #[.val (.ref a1), .val (.int f), .val (.int t)] [(.int f), (.ref ac), (.int t), (.ref ac)])
  refine own_st (own_ldI X2 hx hZ e2 Vc (j := f) hf (v := (.int zc)) hc (g := (mkF m 10 #[.val (.ref a1), .val (.int f), .val (.int t)] [(.int f), (.ref ac), (.int t), (.ref ac)])) rfl rfl (hb hby own_d4_10)) ?_
  obtain ⟨T3, hp3, X3, e3, W3, Va3, st3⟩ := own_stI X2 hx hZ e2 Vc ht (t.toNatClampNeg) rfl lc (g := (mkF m 11 #[.val (.ref a1), .val (.int f), .val (.int t)] [(.int zc), (.int t), (.ref ac)])) rfl rfl (hb hby own_d4_11)
  have K3 := Keep.wr K0 W3 (Or.inl (List.mem_of_getElem? (i := 0) rfl))
  have V_ah_3 := Vh.other W3 (Ne.symm nch)
  have F_counts_a1_3 := Fc.other W3 (Or.inl nac)
  have F_groups_a1_3 := Fg.other W3 (Or.inl nac)
  have F_heads_a1_3 := Fh.other W3 (Or.inl nac)
  have N3 := Fr.snoc X3 N0 g_ac
  refine own_st st3 ?_
  refine own_st (fun _ k => XS.aloadN X3.here hx rfl (hb hby own_d4_12) rfl rfl k) ?_
  obtain ⟨T4, X4, e4, st4⟩ := getF X3 hx hZ hown (host := "") (Or.inl (own_w38 hw)) Via.refl e3 F_groups_a1_3 (g := (mkF m 13 #[.val (.ref a1), .val (.int f), .val (.int t)] [(.ref a1)])) rfl rfl (hb hby own_d4_13)
  refine own_st st4 ?_
  refine own_st (fun _ k => XS.ifnullYes X4.here hx rfl (pc0 := 16) (pc' := 38) rfl (hb hby own_d4_16) rfl (by decide) (by decide) k) ?_
  refine own_st (fun _ k => XS.aloadN X4.here hx rfl (hb hby own_d4_38) rfl rfl k) ?_
  show own_Go _ _ _ _ T4 (mkF m 39 #[.val (.ref a1), .val (.int f), .val (.int t)] [(.ref a1)])
  obtain ⟨T5, X5, e5, st5⟩ := getF X4 hx hZ hown (host := "") (Or.inl (own_w40 hw)) Via.refl e4 F_heads_a1_3 (g := (mkF m 39 #[.val (.ref a1), .val (.int f), .val (.int t)] [(.ref a1)])) rfl rfl (hb hby own_d4_39)
  refine own_st st5 ?_
  refine own_st (fun _ k => XS.ifnullNo X5.here hx rfl (hb hby own_d4_42) rfl k) ?_
  refine own_st (fun _ k => XS.aloadN X5.here hx rfl (hb hby own_d4_45) rfl rfl k) ?_
  obtain ⟨T6, X6, e6, st6⟩ := getF X5 hx hZ hown (host := "") (Or.inl (own_w40 hw)) Via.refl e5 F_heads_a1_3 (g := (mkF m 46 #[.val (.ref a1), .val (.int f), .val (.int t)] [(.ref a1)])) rfl rfl (hb hby own_d4_46)
  refine own_st st6 ?_
  refine own_st (fun _ k => XS.iloadN X6.here hx rfl (hb hby own_d4_49) rfl k) ?_
  refine own_st (fun _ k => XS.aloadN X6.here hx rfl (hb hby own_d4_50) rfl rfl k) ?_
  show own_Go _ _ _ _ T6 (mkF m 51 #[.val (.ref a1), .val (.int f), .val (.int t)] [(.ref a1), (.int t), (.ref ah)])
  obtain ⟨T7, X7, e7, st7⟩ := getF X6 hx hZ hown (host := "") (Or.inl (own_w40 hw)) Via.refl e6 F_heads_a1_3 (g := (mkF m 51 #[.val (.ref a1), .val (.int f), .val (.int t)] [(.ref a1), (.int t), (.ref ah)])) rfl rfl (hb hby own_d4_51)
  refine own_st st7 ?_
  refine own_st (fun _ k => XS.iloadN X7.here hx rfl (hb hby own_d4_54) rfl k) ?_
  refine own_st (own_ldI X7 hx hZ e7 V_ah_3 (j := f) hf (v := (.int zh)) hh (g := (mkF m 55 #[.val (.ref a1), .val (.int f), .val (.int t)] [(.int f), (.ref ah), (.int t), (.ref ah)])) rfl rfl (hb hby own_d4_55)) ?_
  obtain ⟨T8, hp8, X8, e8, W8, Va8, st8⟩ := own_stI X7 hx hZ e7 V_ah_3 ht (t.toNatClampNeg) rfl lh (g := (mkF m 56 #[.val (.ref a1), .val (.int f), .val (.int t)] [(.int zh), (.int t), (.ref ah)])) rfl rfl (hb hby own_d4_56)
  have K8 := Keep.wr K3 W8 (Or.inl (List.mem_of_getElem? (i := 1) rfl))
  have V_ac_8 := Va3.other W8 nch
  have F_counts_a1_8 := F_counts_a1_3.other W8 (Or.inl nah)
  have F_groups_a1_8 := F_groups_a1_3.other W8 (Or.inl nah)
  have F_heads_a1_8 := F_heads_a1_3.other W8 (Or.inl nah)
  have N8 := Fr.snoc X8 N3 g_ah
  refine own_st st8 ?_
  exact own_retV X8 hx hret hlk (hb hby own_d4_57) ⟨rfl, N8, by rw [e8]; exact K8, by rw [e8]; exact V_ac_8, by rw [e8]; exact Va8⟩ (by decide) (by decide)
def own_mv10_Q (Z : State) (a1 ac ag ah : Addr) (f t zc zh : Int32) (zg : Value) (kc kg kh : ClassId) (vc vg vh : List Value) (h0 : Heap) (n0 : Nat) (v : Option Value) (h : Heap) (L : List Loc) : Prop := v = none ∧ Fr n0 L ∧ Keep h0 h [ac, ag] ∧ Arv Z h ac kc .int 4 (vc.set t.toNatClampNeg (.int zc)) (.int (0 : Int32)) ∧ Arv Z h ag kg (.object "java/lang/Object") 4 ((vg.set t.toNatClampNeg zg).set f.toNatClampNeg .null) .null
set_option maxRecDepth 65536 in
set_option maxHeartbeats 40000000 in
theorem own_mv10 (l : Launch) {Z : State} {a0 : Array Value} (hw : own_W Z a0) (ws : List Jvm.Cond) (a1 ac ag ah : Addr) (f t zc zh : Int32) (zg : Value) (kc kg kh : ClassId) (vc vg vh : List Value) (h0 : Heap) (n0 : Nat) (Z0 : n0 ≤ h0.size) (hf : ¬ f < 0 ∧ f < 4) (ht : ¬ t < 0 ∧ t < 4) (lc : t.toNatClampNeg < vc.length) (g_ac : n0 ≤ ac) (Vc : Arv Z h0 ac kc .int 4 vc (.int (0 : Int32))) (hc : vc.getD f.toNatClampNeg (.int (0 : Int32)) = .int zc) (nac : a1 ≠ ac) (Fc : Fld Z h0 a1 "com/example/sheaf/sheaf/CountedKeys" "counts" "[I" (.ref ac)) (Fg : Fld Z h0 a1 "com/example/sheaf/sheaf/CountedKeys" "groups" "[Ljava/lang/Object;" (.ref ag)) (Fh : Fld Z h0 a1 "com/example/sheaf/sheaf/CountedKeys" "heads" "[I" .null) (lg : t.toNatClampNeg < vg.length) (lg2 : f.toNatClampNeg < (vg.set t.toNatClampNeg zg).length) (g_ag : n0 ≤ ag) (Vg : Arv Z h0 ag kg (.object "java/lang/Object") 4 vg .null) (hg : vg.getD f.toNatClampNeg .null = zg) (zr : zg.isRef = true) (Sg : Sto Z h0 ag zg) (nag : a1 ≠ ag) (ncg : ac ≠ ag) :
    MetFree l (⟨"com/example/sheaf/sheaf/CountedKeys", "move", "(II)V"⟩ : MethodName) (head1 (Jvm.Cond.code (⟨"com/example/sheaf/sheaf/CountedKeys", "move", "(II)V"⟩ : MethodName) prog_69_method_11_code 3 none :: ws) ({ frames := 0, cells := 0, slots := 0, locals := 0 } : Room)) (fun a U => a = #[(.ref a1), (.int f), (.int t)] ∧ Z.Warmed39 U.vm ∧ U.heap = h0) (fun _ _ _ _ _ => True) (fun _ U o U' => ∃ v L, o = .returned v ∧ own_mv10_Q Z a1 ac ag ah f t zc zh zg kc kg kh vc vg vh h0 n0 v U'.heap L ∧ FrameEnd U o U' L ({ frames := 0, cells := 0, slots := 0, locals := 0 } : Room).cells ({ frames := 0, cells := 0, slots := 0, locals := 0 } : Room).slots) := by
  refine own_enter (C := ({ frames := 0, cells := 0, slots := 0, locals := 0 } : Room).cells) (S := ({ frames := 0, cells := 0, slots := 0, locals := 0 } : Room).slots) (plainFor_of_name own_pn1) ?_
  intro p e s m below meth c T0 X0 I e0
  obtain ⟨hx, hby, hml, hown, hnm, hret, hlk, hZ⟩ := I
  have N0 := Fr.nil n0
  have O0 := own_extr h0
  refine own_cast (own_ef4 m a1 f t) ?_
  show own_Go _ _ _ _ T0 (mkF m 0 #[.val (.ref a1), .val (.int f), .val (.int t)] [])
  have K0 := Keep.refl h0 [ac, ag]
  refine own_st (fun _ k => XS.aloadN X0.here hx rfl (hb hby own_d4_0) rfl rfl k) ?_
  obtain ⟨T1, X1, e1, st1⟩ := getF X0 hx hZ hown (host := "") (Or.inl (own_w28 hw)) Via.refl e0 Fc (g := (mkF m 1 #[.val (.ref a1), .val (.int f), .val (.int t)] [(.ref a1)])) rfl rfl (hb hby own_d4_1)
  refine own_st st1 ?_
  refine own_st (fun _ k => XS.iloadN X1.here hx rfl (hb hby own_d4_4) rfl k) ?_
  refine own_st (fun _ k => XS.aloadN X1.here hx rfl (hb hby own_d4_5) rfl rfl k) ?_
  obtain ⟨T2, X2, e2, st2⟩ := getF X1 hx hZ hown (host := "") (Or.inl (own_w28 hw)) Via.refl e1 Fc (g := (mkF m 6 #[.val (.ref a1), .val (.int f), .val (.int t)] [(.ref a1), (.int t), (.ref ac)])) rfl rfl (hb hby own_d4_6)
  refine own_st st2 ?_
  refine own_st (fun _ k => XS.iloadN X2.here hx rfl (hb hby own_d4_9) rfl k) ?_
  show own_Go _ _ _ _ T2 (mkF m 10 #[.val (.ref a1), .val (.int f), .val (.int t)] [(.int f), (.ref ac), (.int t), (.ref ac)])
  refine own_st (own_ldI X2 hx hZ e2 Vc (j := f) hf (v := (.int zc)) hc (g := (mkF m 10 #[.val (.ref a1), .val (.int f), .val (.int t)] [(.int f), (.ref ac), (.int t), (.ref ac)])) rfl rfl (hb hby own_d4_10)) ?_
  obtain ⟨T3, hp3, X3, e3, W3, Va3, st3⟩ := own_stI X2 hx hZ e2 Vc ht (t.toNatClampNeg) rfl lc (g := (mkF m 11 #[.val (.ref a1), .val (.int f), .val (.int t)] [(.int zc), (.int t), (.ref ac)])) rfl rfl (hb hby own_d4_11)
  have K3 := Keep.wr K0 W3 (Or.inl (List.mem_of_getElem? (i := 0) rfl))
  have V_ag_3 := Vg.other W3 (Ne.symm ncg)
  have F_counts_a1_3 := Fc.other W3 (Or.inl nac)
  have F_groups_a1_3 := Fg.other W3 (Or.inl nac)
  have F_heads_a1_3 := Fh.other W3 (Or.inl nac)
  have N3 := Fr.snoc X3 N0 g_ac
  refine own_st st3 ?_
  have Sg3 := Sg.wr W3
  refine own_st (fun _ k => XS.aloadN X3.here hx rfl (hb hby own_d4_12) rfl rfl k) ?_
  obtain ⟨T4, X4, e4, st4⟩ := getF X3 hx hZ hown (host := "") (Or.inl (own_w38 hw)) Via.refl e3 F_groups_a1_3 (g := (mkF m 13 #[.val (.ref a1), .val (.int f), .val (.int t)] [(.ref a1)])) rfl rfl (hb hby own_d4_13)
  refine own_st st4 ?_
  refine own_st (fun _ k => XS.ifnullNo X4.here hx rfl (hb hby own_d4_16) rfl k) ?_
  refine own_st (fun _ k => XS.aloadN X4.here hx rfl (hb hby own_d4_19) rfl rfl k) ?_
  show own_Go _ _ _ _ T4 (mkF m 20 #[.val (.ref a1), .val (.int f), .val (.int t)] [(.ref a1)])
  obtain ⟨T5, X5, e5, st5⟩ := getF X4 hx hZ hown (host := "") (Or.inl (own_w38 hw)) Via.refl e4 F_groups_a1_3 (g := (mkF m 20 #[.val (.ref a1), .val (.int f), .val (.int t)] [(.ref a1)])) rfl rfl (hb hby own_d4_20)
  refine own_st st5 ?_
  refine own_st (fun _ k => XS.iloadN X5.here hx rfl (hb hby own_d4_23) rfl k) ?_
  refine own_st (fun _ k => XS.aloadN X5.here hx rfl (hb hby own_d4_24) rfl rfl k) ?_
  obtain ⟨T6, X6, e6, st6⟩ := getF X5 hx hZ hown (host := "") (Or.inl (own_w38 hw)) Via.refl e5 F_groups_a1_3 (g := (mkF m 25 #[.val (.ref a1), .val (.int f), .val (.int t)] [(.ref a1), (.int t), (.ref ag)])) rfl rfl (hb hby own_d4_25)
  refine own_st st6 ?_
  refine own_st (fun _ k => XS.iloadN X6.here hx rfl (hb hby own_d4_28) rfl k) ?_
  refine own_st (own_ldR X6 hx hZ e6 V_ag_3 rfl (j := f) hf (v := zg) hg (g := (mkF m 29 #[.val (.ref a1), .val (.int f), .val (.int t)] [(.int f), (.ref ag), (.int t), (.ref ag)])) rfl rfl (hb hby own_d4_29)) ?_
  show own_Go _ _ _ _ T6 (mkF m 30 #[.val (.ref a1), .val (.int f), .val (.int t)] [zg, (.int t), (.ref ag)])
  obtain ⟨T7, hp7, X7, e7, W7, Va7, st7⟩ := own_stR X6 hx hZ e6 V_ag_3 rfl (own_fitR zr) ht (t.toNatClampNeg) rfl lg (fun _ _ _ => Sg3) (g := (mkF m 30 #[.val (.ref a1), .val (.int f), .val (.int t)] [zg, (.int t), (.ref ag)])) rfl rfl (hb hby own_d4_30)
  have K7 := Keep.wr K3 W7 (Or.inl (List.mem_of_getElem? (i := 1) rfl))
  have V_ac_7 := Va3.other W7 ncg
  have F_counts_a1_7 := F_counts_a1_3.other W7 (Or.inl nag)
  have F_groups_a1_7 := F_groups_a1_3.other W7 (Or.inl nag)
  have F_heads_a1_7 := F_heads_a1_3.other W7 (Or.inl nag)
  have N7 := Fr.snoc X7 N3 g_ag
  refine own_st st7 ?_
  refine own_st (fun _ k => XS.aloadN X7.here hx rfl (hb hby own_d4_31) rfl rfl k) ?_
  obtain ⟨T8, X8, e8, st8⟩ := getF X7 hx hZ hown (host := "") (Or.inl (own_w38 hw)) Via.refl e7 F_groups_a1_7 (g := (mkF m 32 #[.val (.ref a1), .val (.int f), .val (.int t)] [(.ref a1)])) rfl rfl (hb hby own_d4_32)
  refine own_st st8 ?_
  refine own_st (fun _ k => XS.iloadN X8.here hx rfl (hb hby own_d4_35) rfl k) ?_
  refine own_st (fun _ k => XS.aconstNull X8.here hx rfl (hb hby own_d4_36) k) ?_
  obtain ⟨T9, hp9, X9, e9, W9, Va9, st9⟩ := own_stR X8 hx hZ e8 Va7 rfl rfl hf (f.toNatClampNeg) rfl lg2 (fun _ _ _ => Or.inl rfl) (g := (mkF m 37 #[.val (.ref a1), .val (.int f), .val (.int t)] [.null, (.int f), (.ref ag)])) rfl rfl (hb hby own_d4_37)
  have K9 := Keep.wr K7 W9 (Or.inl (List.mem_of_getElem? (i := 1) rfl))
  have V_ac_9 := V_ac_7.other W9 ncg
  have F_counts_a1_9 := F_counts_a1_7.other W9 (Or.inl nag)
  have F_groups_a1_9 := F_groups_a1_7.other W9 (Or.inl nag)
  have F_heads_a1_9 := F_heads_a1_7.other W9 (Or.inl nag)
  have N9 := Fr.snoc X9 N7 g_ag
  refine own_st st9 ?_
  show own_Go _ _ _ _ T9 (mkF m 38 #[.val (.ref a1), .val (.int f), .val (.int t)] [])
  refine own_st (fun _ k => XS.aloadN X9.here hx rfl (hb hby own_d4_38) rfl rfl k) ?_
  obtain ⟨T10, X10, e10, st10⟩ := getF X9 hx hZ hown (host := "") (Or.inl (own_w40 hw)) Via.refl e9 F_heads_a1_9 (g := (mkF m 39 #[.val (.ref a1), .val (.int f), .val (.int t)] [(.ref a1)])) rfl rfl (hb hby own_d4_39)
  refine own_st st10 ?_
  refine own_st (fun _ k => XS.ifnullYes X10.here hx rfl (pc0 := 42) (pc' := 57) rfl (hb hby own_d4_42) rfl (by decide) (by decide) k) ?_
  exact own_retV X10 hx hret hlk (hb hby own_d4_57) ⟨rfl, N9, by rw [e10]; exact K9, by rw [e10]; exact V_ac_9, by rw [e10]; exact Va9⟩ (by decide) (by decide)
def own_mv11_Q (Z : State) (a1 ac ag ah : Addr) (f t zc zh : Int32) (zg : Value) (kc kg kh : ClassId) (vc vg vh : List Value) (h0 : Heap) (n0 : Nat) (v : Option Value) (h : Heap) (L : List Loc) : Prop := v = none ∧ Fr n0 L ∧ Keep h0 h [ac, ag, ah] ∧ Arv Z h ac kc .int 4 (vc.set t.toNatClampNeg (.int zc)) (.int (0 : Int32)) ∧ Arv Z h ag kg (.object "java/lang/Object") 4 ((vg.set t.toNatClampNeg zg).set f.toNatClampNeg .null) .null ∧ Arv Z h ah kh .int 4 (vh.set t.toNatClampNeg (.int zh)) (.int (0 : Int32))
set_option maxRecDepth 65536 in
set_option maxHeartbeats 40000000 in
theorem own_mv11 (l : Launch) {Z : State} {a0 : Array Value} (hw : own_W Z a0) (ws : List Jvm.Cond) (a1 ac ag ah : Addr) (f t zc zh : Int32) (zg : Value) (kc kg kh : ClassId) (vc vg vh : List Value) (h0 : Heap) (n0 : Nat) (Z0 : n0 ≤ h0.size) (hf : ¬ f < 0 ∧ f < 4) (ht : ¬ t < 0 ∧ t < 4) (lc : t.toNatClampNeg < vc.length) (g_ac : n0 ≤ ac) (Vc : Arv Z h0 ac kc .int 4 vc (.int (0 : Int32))) (hc : vc.getD f.toNatClampNeg (.int (0 : Int32)) = .int zc) (nac : a1 ≠ ac) (Fc : Fld Z h0 a1 "com/example/sheaf/sheaf/CountedKeys" "counts" "[I" (.ref ac)) (Fg : Fld Z h0 a1 "com/example/sheaf/sheaf/CountedKeys" "groups" "[Ljava/lang/Object;" (.ref ag)) (Fh : Fld Z h0 a1 "com/example/sheaf/sheaf/CountedKeys" "heads" "[I" (.ref ah)) (lg : t.toNatClampNeg < vg.length) (lg2 : f.toNatClampNeg < (vg.set t.toNatClampNeg zg).length) (g_ag : n0 ≤ ag) (Vg : Arv Z h0 ag kg (.object "java/lang/Object") 4 vg .null) (hg : vg.getD f.toNatClampNeg .null = zg) (zr : zg.isRef = true) (Sg : Sto Z h0 ag zg) (nag : a1 ≠ ag) (ncg : ac ≠ ag) (lh : t.toNatClampNeg < vh.length) (g_ah : n0 ≤ ah) (Vh : Arv Z h0 ah kh .int 4 vh (.int (0 : Int32))) (hh : vh.getD f.toNatClampNeg (.int (0 : Int32)) = .int zh) (nah : a1 ≠ ah) (nch : ac ≠ ah) (ngh : ag ≠ ah) :
    MetFree l (⟨"com/example/sheaf/sheaf/CountedKeys", "move", "(II)V"⟩ : MethodName) (head1 (Jvm.Cond.code (⟨"com/example/sheaf/sheaf/CountedKeys", "move", "(II)V"⟩ : MethodName) prog_69_method_11_code 3 none :: ws) ({ frames := 0, cells := 0, slots := 0, locals := 0 } : Room)) (fun a U => a = #[(.ref a1), (.int f), (.int t)] ∧ Z.Warmed39 U.vm ∧ U.heap = h0) (fun _ _ _ _ _ => True) (fun _ U o U' => ∃ v L, o = .returned v ∧ own_mv11_Q Z a1 ac ag ah f t zc zh zg kc kg kh vc vg vh h0 n0 v U'.heap L ∧ FrameEnd U o U' L ({ frames := 0, cells := 0, slots := 0, locals := 0 } : Room).cells ({ frames := 0, cells := 0, slots := 0, locals := 0 } : Room).slots) := by
  refine own_enter (C := ({ frames := 0, cells := 0, slots := 0, locals := 0 } : Room).cells) (S := ({ frames := 0, cells := 0, slots := 0, locals := 0 } : Room).slots) (plainFor_of_name own_pn1) ?_
  intro p e s m below meth c T0 X0 I e0
  obtain ⟨hx, hby, hml, hown, hnm, hret, hlk, hZ⟩ := I
  have N0 := Fr.nil n0
  have O0 := own_extr h0
  refine own_cast (own_ef4 m a1 f t) ?_
  show own_Go _ _ _ _ T0 (mkF m 0 #[.val (.ref a1), .val (.int f), .val (.int t)] [])
  have K0 := Keep.refl h0 [ac, ag, ah]
  refine own_st (fun _ k => XS.aloadN X0.here hx rfl (hb hby own_d4_0) rfl rfl k) ?_
  obtain ⟨T1, X1, e1, st1⟩ := getF X0 hx hZ hown (host := "") (Or.inl (own_w28 hw)) Via.refl e0 Fc (g := (mkF m 1 #[.val (.ref a1), .val (.int f), .val (.int t)] [(.ref a1)])) rfl rfl (hb hby own_d4_1)
  refine own_st st1 ?_
  refine own_st (fun _ k => XS.iloadN X1.here hx rfl (hb hby own_d4_4) rfl k) ?_
  refine own_st (fun _ k => XS.aloadN X1.here hx rfl (hb hby own_d4_5) rfl rfl k) ?_
  obtain ⟨T2, X2, e2, st2⟩ := getF X1 hx hZ hown (host := "") (Or.inl (own_w28 hw)) Via.refl e1 Fc (g := (mkF m 6 #[.val (.ref a1), .val (.int f), .val (.int t)] [(.ref a1), (.int t), (.ref ac)])) rfl rfl (hb hby own_d4_6)
  refine own_st st2 ?_
  refine own_st (fun _ k => XS.iloadN X2.here hx rfl (hb hby own_d4_9) rfl k) ?_
  show own_Go _ _ _ _ T2 (mkF m 10 #[.val (.ref a1), .val (.int f), .val (.int t)] [(.int f), (.ref ac), (.int t), (.ref ac)])
  refine own_st (own_ldI X2 hx hZ e2 Vc (j := f) hf (v := (.int zc)) hc (g := (mkF m 10 #[.val (.ref a1), .val (.int f), .val (.int t)] [(.int f), (.ref ac), (.int t), (.ref ac)])) rfl rfl (hb hby own_d4_10)) ?_
  obtain ⟨T3, hp3, X3, e3, W3, Va3, st3⟩ := own_stI X2 hx hZ e2 Vc ht (t.toNatClampNeg) rfl lc (g := (mkF m 11 #[.val (.ref a1), .val (.int f), .val (.int t)] [(.int zc), (.int t), (.ref ac)])) rfl rfl (hb hby own_d4_11)
  have K3 := Keep.wr K0 W3 (Or.inl (List.mem_of_getElem? (i := 0) rfl))
  have V_ag_3 := Vg.other W3 (Ne.symm ncg)
  have V_ah_3 := Vh.other W3 (Ne.symm nch)
  have F_counts_a1_3 := Fc.other W3 (Or.inl nac)
  have F_groups_a1_3 := Fg.other W3 (Or.inl nac)
  have F_heads_a1_3 := Fh.other W3 (Or.inl nac)
  have N3 := Fr.snoc X3 N0 g_ac
  refine own_st st3 ?_
  have Sg3 := Sg.wr W3
  refine own_st (fun _ k => XS.aloadN X3.here hx rfl (hb hby own_d4_12) rfl rfl k) ?_
  obtain ⟨T4, X4, e4, st4⟩ := getF X3 hx hZ hown (host := "") (Or.inl (own_w38 hw)) Via.refl e3 F_groups_a1_3 (g := (mkF m 13 #[.val (.ref a1), .val (.int f), .val (.int t)] [(.ref a1)])) rfl rfl (hb hby own_d4_13)
  refine own_st st4 ?_
  refine own_st (fun _ k => XS.ifnullNo X4.here hx rfl (hb hby own_d4_16) rfl k) ?_
  refine own_st (fun _ k => XS.aloadN X4.here hx rfl (hb hby own_d4_19) rfl rfl k) ?_
  show own_Go _ _ _ _ T4 (mkF m 20 #[.val (.ref a1), .val (.int f), .val (.int t)] [(.ref a1)])
  obtain ⟨T5, X5, e5, st5⟩ := getF X4 hx hZ hown (host := "") (Or.inl (own_w38 hw)) Via.refl e4 F_groups_a1_3 (g := (mkF m 20 #[.val (.ref a1), .val (.int f), .val (.int t)] [(.ref a1)])) rfl rfl (hb hby own_d4_20)
  refine own_st st5 ?_
  refine own_st (fun _ k => XS.iloadN X5.here hx rfl (hb hby own_d4_23) rfl k) ?_
  refine own_st (fun _ k => XS.aloadN X5.here hx rfl (hb hby own_d4_24) rfl rfl k) ?_
  obtain ⟨T6, X6, e6, st6⟩ := getF X5 hx hZ hown (host := "") (Or.inl (own_w38 hw)) Via.refl e5 F_groups_a1_3 (g := (mkF m 25 #[.val (.ref a1), .val (.int f), .val (.int t)] [(.ref a1), (.int t), (.ref ag)])) rfl rfl (hb hby own_d4_25)
  refine own_st st6 ?_
  refine own_st (fun _ k => XS.iloadN X6.here hx rfl (hb hby own_d4_28) rfl k) ?_
  refine own_st (own_ldR X6 hx hZ e6 V_ag_3 rfl (j := f) hf (v := zg) hg (g := (mkF m 29 #[.val (.ref a1), .val (.int f), .val (.int t)] [(.int f), (.ref ag), (.int t), (.ref ag)])) rfl rfl (hb hby own_d4_29)) ?_
  show own_Go _ _ _ _ T6 (mkF m 30 #[.val (.ref a1), .val (.int f), .val (.int t)] [zg, (.int t), (.ref ag)])
  obtain ⟨T7, hp7, X7, e7, W7, Va7, st7⟩ := own_stR X6 hx hZ e6 V_ag_3 rfl (own_fitR zr) ht (t.toNatClampNeg) rfl lg (fun _ _ _ => Sg3) (g := (mkF m 30 #[.val (.ref a1), .val (.int f), .val (.int t)] [zg, (.int t), (.ref ag)])) rfl rfl (hb hby own_d4_30)
  have K7 := Keep.wr K3 W7 (Or.inl (List.mem_of_getElem? (i := 1) rfl))
  have V_ac_7 := Va3.other W7 ncg
  have V_ah_7 := V_ah_3.other W7 (Ne.symm ngh)
  have F_counts_a1_7 := F_counts_a1_3.other W7 (Or.inl nag)
  have F_groups_a1_7 := F_groups_a1_3.other W7 (Or.inl nag)
  have F_heads_a1_7 := F_heads_a1_3.other W7 (Or.inl nag)
  have N7 := Fr.snoc X7 N3 g_ag
  refine own_st st7 ?_
  refine own_st (fun _ k => XS.aloadN X7.here hx rfl (hb hby own_d4_31) rfl rfl k) ?_
  obtain ⟨T8, X8, e8, st8⟩ := getF X7 hx hZ hown (host := "") (Or.inl (own_w38 hw)) Via.refl e7 F_groups_a1_7 (g := (mkF m 32 #[.val (.ref a1), .val (.int f), .val (.int t)] [(.ref a1)])) rfl rfl (hb hby own_d4_32)
  refine own_st st8 ?_
  refine own_st (fun _ k => XS.iloadN X8.here hx rfl (hb hby own_d4_35) rfl k) ?_
  refine own_st (fun _ k => XS.aconstNull X8.here hx rfl (hb hby own_d4_36) k) ?_
  obtain ⟨T9, hp9, X9, e9, W9, Va9, st9⟩ := own_stR X8 hx hZ e8 Va7 rfl rfl hf (f.toNatClampNeg) rfl lg2 (fun _ _ _ => Or.inl rfl) (g := (mkF m 37 #[.val (.ref a1), .val (.int f), .val (.int t)] [.null, (.int f), (.ref ag)])) rfl rfl (hb hby own_d4_37)
  have K9 := Keep.wr K7 W9 (Or.inl (List.mem_of_getElem? (i := 1) rfl))
  have V_ac_9 := V_ac_7.other W9 ncg
  have V_ah_9 := V_ah_7.other W9 (Ne.symm ngh)
  have F_counts_a1_9 := F_counts_a1_7.other W9 (Or.inl nag)
  have F_groups_a1_9 := F_groups_a1_7.other W9 (Or.inl nag)
  have F_heads_a1_9 := F_heads_a1_7.other W9 (Or.inl nag)
  have N9 := Fr.snoc X9 N7 g_ag
  refine own_st st9 ?_
  show own_Go _ _ _ _ T9 (mkF m 38 #[.val (.ref a1), .val (.int f), .val (.int t)] [])
  refine own_st (fun _ k => XS.aloadN X9.here hx rfl (hb hby own_d4_38) rfl rfl k) ?_
  obtain ⟨T10, X10, e10, st10⟩ := getF X9 hx hZ hown (host := "") (Or.inl (own_w40 hw)) Via.refl e9 F_heads_a1_9 (g := (mkF m 39 #[.val (.ref a1), .val (.int f), .val (.int t)] [(.ref a1)])) rfl rfl (hb hby own_d4_39)
  refine own_st st10 ?_
  refine own_st (fun _ k => XS.ifnullNo X10.here hx rfl (hb hby own_d4_42) rfl k) ?_
  refine own_st (fun _ k => XS.aloadN X10.here hx rfl (hb hby own_d4_45) rfl rfl k) ?_
  obtain ⟨T11, X11, e11, st11⟩ := getF X10 hx hZ hown (host := "") (Or.inl (own_w40 hw)) Via.refl e10 F_heads_a1_9 (g := (mkF m 46 #[.val (.ref a1), .val (.int f), .val (.int t)] [(.ref a1)])) rfl rfl (hb hby own_d4_46)
  refine own_st st11 ?_
  refine own_st (fun _ k => XS.iloadN X11.here hx rfl (hb hby own_d4_49) rfl k) ?_
  show own_Go _ _ _ _ T11 (mkF m 50 #[.val (.ref a1), .val (.int f), .val (.int t)] [(.int t), (.ref ah)])
  refine own_st (fun _ k => XS.aloadN X11.here hx rfl (hb hby own_d4_50) rfl rfl k) ?_
  obtain ⟨T12, X12, e12, st12⟩ := getF X11 hx hZ hown (host := "") (Or.inl (own_w40 hw)) Via.refl e11 F_heads_a1_9 (g := (mkF m 51 #[.val (.ref a1), .val (.int f), .val (.int t)] [(.ref a1), (.int t), (.ref ah)])) rfl rfl (hb hby own_d4_51)
  refine own_st st12 ?_
  refine own_st (fun _ k => XS.iloadN X12.here hx rfl (hb hby own_d4_54) rfl k) ?_
  refine own_st (own_ldI X12 hx hZ e12 V_ah_9 (j := f) hf (v := (.int zh)) hh (g := (mkF m 55 #[.val (.ref a1), .val (.int f), .val (.int t)] [(.int f), (.ref ah), (.int t), (.ref ah)])) rfl rfl (hb hby own_d4_55)) ?_
  obtain ⟨T13, hp13, X13, e13, W13, Va13, st13⟩ := own_stI X12 hx hZ e12 V_ah_9 ht (t.toNatClampNeg) rfl lh (g := (mkF m 56 #[.val (.ref a1), .val (.int f), .val (.int t)] [(.int zh), (.int t), (.ref ah)])) rfl rfl (hb hby own_d4_56)
  have K13 := Keep.wr K9 W13 (Or.inl (List.mem_of_getElem? (i := 2) rfl))
  have V_ac_13 := V_ac_9.other W13 nch
  have V_ag_13 := Va9.other W13 ngh
  have F_counts_a1_13 := F_counts_a1_9.other W13 (Or.inl nah)
  have F_groups_a1_13 := F_groups_a1_9.other W13 (Or.inl nah)
  have F_heads_a1_13 := F_heads_a1_9.other W13 (Or.inl nah)
  have N13 := Fr.snoc X13 N9 g_ah
  refine own_st st13 ?_
  exact own_retV X13 hx hret hlk (hb hby own_d4_57) ⟨rfl, N13, by rw [e13]; exact K13, by rw [e13]; exact V_ac_13, by rw [e13]; exact V_ag_13, by rw [e13]; exact Va13⟩ (by decide) (by decide)
def own_iaE_Q (Z : State) (a1 : Addr) (i f t z : Int32) (k1 : ClassId) (vs : List Value) (h0 : Heap) (n0 : Nat) (v : Option Value) (h : Heap) (L : List Loc) : Prop := v = some (.int z) ∧ Fr n0 L ∧ h = h0
set_option maxRecDepth 65536 in
set_option maxHeartbeats 40000000 in
theorem own_iaE (l : Launch) {Z : State} {a0 : Array Value} (hw : own_W Z a0) (ws : List Jvm.Cond) (a1 : Addr) (i f t z : Int32) (k1 : ClassId) (vs : List Value) (h0 : Heap) (n0 : Nat) (Z0 : n0 ≤ h0.size) (hit : i = t) (hj : ¬ f < 0 ∧ f < 4) (hz : vs.getD f.toNatClampNeg (.int (0 : Int32)) = .int z) (V1 : Arv Z h0 a1 k1 .int 4 vs (.int (0 : Int32))) :
    MetFree l (⟨"com/example/sheaf/sheaf/CountedKeysMovePinLaw", "intAfter", "([IIII)I"⟩ : MethodName) (head1 (Jvm.Cond.code (⟨"com/example/sheaf/sheaf/CountedKeysMovePinLaw", "intAfter", "([IIII)I"⟩ : MethodName) method_3_code 4 (some .int) :: ws) ({ frames := 0, cells := 0, slots := 0, locals := 0 } : Room)) (fun a U => a = #[(.ref a1), (.int i), (.int f), (.int t)] ∧ Z.Warmed39 U.vm ∧ U.heap = h0) (fun _ _ _ _ _ => True) (fun _ U o U' => ∃ v L, o = .returned v ∧ own_iaE_Q Z a1 i f t z k1 vs h0 n0 v U'.heap L ∧ FrameEnd U o U' L ({ frames := 0, cells := 0, slots := 0, locals := 0 } : Room).cells ({ frames := 0, cells := 0, slots := 0, locals := 0 } : Room).slots) := by
  refine own_enter (C := ({ frames := 0, cells := 0, slots := 0, locals := 0 } : Room).cells) (S := ({ frames := 0, cells := 0, slots := 0, locals := 0 } : Room).slots) (plainFor_of_name own_pn2) ?_
  intro p e s m below meth c T0 X0 I e0
  obtain ⟨hx, hby, hml, hown, hnm, hret, hlk, hZ⟩ := I
  have N0 := Fr.nil n0
  have O0 := own_extr h0
  refine own_cast (own_ef6 m a1 i f t) ?_
  show own_Go _ _ _ _ T0 (mkF m 0 #[.val (.ref a1), .val (.int i), .val (.int f), .val (.int t)] [])
  refine own_st (fun _ k => XS.iloadN X0.here hx rfl (hb hby own_d6_0) rfl k) ?_
  refine own_st (fun _ k => XS.iloadN X0.here hx rfl (hb hby own_d6_1) rfl k) ?_
  refine own_st (fun _ k => XS.icmpNo X0.here hx rfl (hb hby own_d6_2) rfl (teq (hit : i = t)).2 k) ?_
  refine own_st (fun _ k => XS.aloadN X0.here hx rfl (hb hby own_d6_5) rfl rfl k) ?_
  refine own_st (fun _ k => XS.iloadN X0.here hx rfl (hb hby own_d6_6) rfl k) ?_
  refine own_st (own_ldI X0 hx hZ e0 (V1.ext O0) (j := f) hj (v := (.int z)) hz (g := (mkF m 7 #[.val (.ref a1), .val (.int i), .val (.int f), .val (.int t)] [(.int f), (.ref a1)])) rfl rfl (hb hby own_d6_7)) ?_
  show own_Go _ _ _ _ T0 (mkF m 8 #[.val (.ref a1), .val (.int i), .val (.int f), .val (.int t)] [(.int z)])
  exact own_retI X0 hx hret hlk (hb hby own_d6_8) ⟨rfl, N0, e0⟩ (by decide) (by decide)
def own_iaN_Q (Z : State) (a1 : Addr) (i f t z : Int32) (k1 : ClassId) (vs : List Value) (h0 : Heap) (n0 : Nat) (v : Option Value) (h : Heap) (L : List Loc) : Prop := v = some (.int z) ∧ Fr n0 L ∧ h = h0
set_option maxRecDepth 65536 in
set_option maxHeartbeats 40000000 in
theorem own_iaN (l : Launch) {Z : State} {a0 : Array Value} (hw : own_W Z a0) (ws : List Jvm.Cond) (a1 : Addr) (i f t z : Int32) (k1 : ClassId) (vs : List Value) (h0 : Heap) (n0 : Nat) (Z0 : n0 ≤ h0.size) (hit : ¬ i = t) (hj : ¬ i < 0 ∧ i < 4) (hz : vs.getD i.toNatClampNeg (.int (0 : Int32)) = .int z) (V1 : Arv Z h0 a1 k1 .int 4 vs (.int (0 : Int32))) :
    MetFree l (⟨"com/example/sheaf/sheaf/CountedKeysMovePinLaw", "intAfter", "([IIII)I"⟩ : MethodName) (head1 (Jvm.Cond.code (⟨"com/example/sheaf/sheaf/CountedKeysMovePinLaw", "intAfter", "([IIII)I"⟩ : MethodName) method_3_code 4 (some .int) :: ws) ({ frames := 0, cells := 0, slots := 0, locals := 0 } : Room)) (fun a U => a = #[(.ref a1), (.int i), (.int f), (.int t)] ∧ Z.Warmed39 U.vm ∧ U.heap = h0) (fun _ _ _ _ _ => True) (fun _ U o U' => ∃ v L, o = .returned v ∧ own_iaN_Q Z a1 i f t z k1 vs h0 n0 v U'.heap L ∧ FrameEnd U o U' L ({ frames := 0, cells := 0, slots := 0, locals := 0 } : Room).cells ({ frames := 0, cells := 0, slots := 0, locals := 0 } : Room).slots) := by
  refine own_enter (C := ({ frames := 0, cells := 0, slots := 0, locals := 0 } : Room).cells) (S := ({ frames := 0, cells := 0, slots := 0, locals := 0 } : Room).slots) (plainFor_of_name own_pn2) ?_
  intro p e s m below meth c T0 X0 I e0
  obtain ⟨hx, hby, hml, hown, hnm, hret, hlk, hZ⟩ := I
  have N0 := Fr.nil n0
  have O0 := own_extr h0
  refine own_cast (own_ef6 m a1 i f t) ?_
  show own_Go _ _ _ _ T0 (mkF m 0 #[.val (.ref a1), .val (.int i), .val (.int f), .val (.int t)] [])
  refine own_st (fun _ k => XS.iloadN X0.here hx rfl (hb hby own_d6_0) rfl k) ?_
  refine own_st (fun _ k => XS.iloadN X0.here hx rfl (hb hby own_d6_1) rfl k) ?_
  refine own_st (fun _ k => XS.icmpYes X0.here hx rfl (pc0 := 2) (pc' := 9) rfl (hb hby own_d6_2) rfl (feq (hit : ¬ (i = t))).2 (by decide) (by decide) k) ?_
  refine own_st (fun _ k => XS.aloadN X0.here hx rfl (hb hby own_d6_9) rfl rfl k) ?_
  refine own_st (fun _ k => XS.iloadN X0.here hx rfl (hb hby own_d6_10) rfl k) ?_
  refine own_st (own_ldI X0 hx hZ e0 (V1.ext O0) (j := i) hj (v := (.int z)) hz (g := (mkF m 11 #[.val (.ref a1), .val (.int i), .val (.int f), .val (.int t)] [(.int i), (.ref a1)])) rfl rfl (hb hby own_d6_11)) ?_
  show own_Go _ _ _ _ T0 (mkF m 12 #[.val (.ref a1), .val (.int i), .val (.int f), .val (.int t)] [(.int z)])
  exact own_retI X0 hx hret hlk (hb hby own_d6_12) ⟨rfl, N0, e0⟩ (by decide) (by decide)
def own_raE_Q (Z : State) (a1 : Addr) (i f t : Int32) (z : Value) (k1 : ClassId) (vs : List Value) (h0 : Heap) (n0 : Nat) (v : Option Value) (h : Heap) (L : List Loc) : Prop := v = some z ∧ Fr n0 L ∧ h = h0
set_option maxRecDepth 65536 in
set_option maxHeartbeats 40000000 in
theorem own_raE (l : Launch) {Z : State} {a0 : Array Value} (hw : own_W Z a0) (ws : List Jvm.Cond) (a1 : Addr) (i f t : Int32) (z : Value) (k1 : ClassId) (vs : List Value) (h0 : Heap) (n0 : Nat) (Z0 : n0 ≤ h0.size) (hit : i = t) (hj : ¬ f < 0 ∧ f < 4) (hz : vs.getD f.toNatClampNeg .null = z) (hzr : z.isRef = true) (V1 : Arv Z h0 a1 k1 (.object "java/lang/Object") 4 vs .null) :
    MetFree l (⟨"com/example/sheaf/sheaf/CountedKeysMovePinLaw", "refAfter", "([Ljava/lang/Object;III)Ljava/lang/Object;"⟩ : MethodName) (head1 (Jvm.Cond.code (⟨"com/example/sheaf/sheaf/CountedKeysMovePinLaw", "refAfter", "([Ljava/lang/Object;III)Ljava/lang/Object;"⟩ : MethodName) method_5_code 4 (some (.object "java/lang/Object")) :: ws) ({ frames := 0, cells := 0, slots := 0, locals := 0 } : Room)) (fun a U => a = #[(.ref a1), (.int i), (.int f), (.int t)] ∧ Z.Warmed39 U.vm ∧ U.heap = h0) (fun _ _ _ _ _ => True) (fun _ U o U' => ∃ v L, o = .returned v ∧ own_raE_Q Z a1 i f t z k1 vs h0 n0 v U'.heap L ∧ FrameEnd U o U' L ({ frames := 0, cells := 0, slots := 0, locals := 0 } : Room).cells ({ frames := 0, cells := 0, slots := 0, locals := 0 } : Room).slots) := by
  refine own_enter (C := ({ frames := 0, cells := 0, slots := 0, locals := 0 } : Room).cells) (S := ({ frames := 0, cells := 0, slots := 0, locals := 0 } : Room).slots) (plainFor_of_name own_pn2) ?_
  intro p e s m below meth c T0 X0 I e0
  obtain ⟨hx, hby, hml, hown, hnm, hret, hlk, hZ⟩ := I
  have N0 := Fr.nil n0
  have O0 := own_extr h0
  refine own_cast (own_ef8 m a1 i f t) ?_
  show own_Go _ _ _ _ T0 (mkF m 0 #[.val (.ref a1), .val (.int i), .val (.int f), .val (.int t)] [])
  refine own_st (fun _ k => XS.iloadN X0.here hx rfl (hb hby own_d8_0) rfl k) ?_
  refine own_st (fun _ k => XS.iloadN X0.here hx rfl (hb hby own_d8_1) rfl k) ?_
  refine own_st (fun _ k => XS.icmpNo X0.here hx rfl (hb hby own_d8_2) rfl (teq (hit : i = t)).2 k) ?_
  refine own_st (fun _ k => XS.aloadN X0.here hx rfl (hb hby own_d8_5) rfl rfl k) ?_
  refine own_st (fun _ k => XS.iloadN X0.here hx rfl (hb hby own_d8_6) rfl k) ?_
  refine own_st (own_ldR X0 hx hZ e0 (V1.ext O0) rfl (j := f) hj (v := z) hz (g := (mkF m 7 #[.val (.ref a1), .val (.int i), .val (.int f), .val (.int t)] [(.int f), (.ref a1)])) rfl rfl (hb hby own_d8_7)) ?_
  show own_Go _ _ _ _ T0 (mkF m 8 #[.val (.ref a1), .val (.int i), .val (.int f), .val (.int t)] [z])
  exact own_retA X0 hx hret rfl hlk hzr (hb hby own_d8_8) ⟨rfl, N0, e0⟩ (by decide) (by decide)
def own_raF_Q (Z : State) (a1 : Addr) (i f t : Int32) (z : Value) (k1 : ClassId) (vs : List Value) (h0 : Heap) (n0 : Nat) (v : Option Value) (h : Heap) (L : List Loc) : Prop := v = some .null ∧ Fr n0 L ∧ h = h0
set_option maxRecDepth 65536 in
set_option maxHeartbeats 40000000 in
theorem own_raF (l : Launch) {Z : State} {a0 : Array Value} (hw : own_W Z a0) (ws : List Jvm.Cond) (a1 : Addr) (i f t : Int32) (z : Value) (k1 : ClassId) (vs : List Value) (h0 : Heap) (n0 : Nat) (Z0 : n0 ≤ h0.size) (hit : ¬ i = t) (hif : i = f) (V1 : Arv Z h0 a1 k1 (.object "java/lang/Object") 4 vs .null) :
    MetFree l (⟨"com/example/sheaf/sheaf/CountedKeysMovePinLaw", "refAfter", "([Ljava/lang/Object;III)Ljava/lang/Object;"⟩ : MethodName) (head1 (Jvm.Cond.code (⟨"com/example/sheaf/sheaf/CountedKeysMovePinLaw", "refAfter", "([Ljava/lang/Object;III)Ljava/lang/Object;"⟩ : MethodName) method_5_code 4 (some (.object "java/lang/Object")) :: ws) ({ frames := 0, cells := 0, slots := 0, locals := 0 } : Room)) (fun a U => a = #[(.ref a1), (.int i), (.int f), (.int t)] ∧ Z.Warmed39 U.vm ∧ U.heap = h0) (fun _ _ _ _ _ => True) (fun _ U o U' => ∃ v L, o = .returned v ∧ own_raF_Q Z a1 i f t z k1 vs h0 n0 v U'.heap L ∧ FrameEnd U o U' L ({ frames := 0, cells := 0, slots := 0, locals := 0 } : Room).cells ({ frames := 0, cells := 0, slots := 0, locals := 0 } : Room).slots) := by
  refine own_enter (C := ({ frames := 0, cells := 0, slots := 0, locals := 0 } : Room).cells) (S := ({ frames := 0, cells := 0, slots := 0, locals := 0 } : Room).slots) (plainFor_of_name own_pn2) ?_
  intro p e s m below meth c T0 X0 I e0
  obtain ⟨hx, hby, hml, hown, hnm, hret, hlk, hZ⟩ := I
  have N0 := Fr.nil n0
  have O0 := own_extr h0
  refine own_cast (own_ef8 m a1 i f t) ?_
  show own_Go _ _ _ _ T0 (mkF m 0 #[.val (.ref a1), .val (.int i), .val (.int f), .val (.int t)] [])
  refine own_st (fun _ k => XS.iloadN X0.here hx rfl (hb hby own_d8_0) rfl k) ?_
  refine own_st (fun _ k => XS.iloadN X0.here hx rfl (hb hby own_d8_1) rfl k) ?_
  refine own_st (fun _ k => XS.icmpYes X0.here hx rfl (pc0 := 2) (pc' := 9) rfl (hb hby own_d8_2) rfl (feq (hit : ¬ (i = t))).2 (by decide) (by decide) k) ?_
  refine own_st (fun _ k => XS.iloadN X0.here hx rfl (hb hby own_d8_9) rfl k) ?_
  refine own_st (fun _ k => XS.iloadN X0.here hx rfl (hb hby own_d8_10) rfl k) ?_
  refine own_st (fun _ k => XS.icmpNo X0.here hx rfl (hb hby own_d8_11) rfl (teq (hif : i = f)).2 k) ?_
  show own_Go _ _ _ _ T0 (mkF m 14 #[.val (.ref a1), .val (.int i), .val (.int f), .val (.int t)] [])
  refine own_st (fun _ k => XS.aconstNull X0.here hx rfl (hb hby own_d8_14) k) ?_
  exact own_retA X0 hx hret rfl hlk rfl (hb hby own_d8_15) ⟨rfl, N0, e0⟩ (by decide) (by decide)
def own_raN_Q (Z : State) (a1 : Addr) (i f t : Int32) (z : Value) (k1 : ClassId) (vs : List Value) (h0 : Heap) (n0 : Nat) (v : Option Value) (h : Heap) (L : List Loc) : Prop := v = some z ∧ Fr n0 L ∧ h = h0
set_option maxRecDepth 65536 in
set_option maxHeartbeats 40000000 in
theorem own_raN (l : Launch) {Z : State} {a0 : Array Value} (hw : own_W Z a0) (ws : List Jvm.Cond) (a1 : Addr) (i f t : Int32) (z : Value) (k1 : ClassId) (vs : List Value) (h0 : Heap) (n0 : Nat) (Z0 : n0 ≤ h0.size) (hit : ¬ i = t) (hif : ¬ i = f) (hj : ¬ i < 0 ∧ i < 4) (hz : vs.getD i.toNatClampNeg .null = z) (hzr : z.isRef = true) (V1 : Arv Z h0 a1 k1 (.object "java/lang/Object") 4 vs .null) :
    MetFree l (⟨"com/example/sheaf/sheaf/CountedKeysMovePinLaw", "refAfter", "([Ljava/lang/Object;III)Ljava/lang/Object;"⟩ : MethodName) (head1 (Jvm.Cond.code (⟨"com/example/sheaf/sheaf/CountedKeysMovePinLaw", "refAfter", "([Ljava/lang/Object;III)Ljava/lang/Object;"⟩ : MethodName) method_5_code 4 (some (.object "java/lang/Object")) :: ws) ({ frames := 0, cells := 0, slots := 0, locals := 0 } : Room)) (fun a U => a = #[(.ref a1), (.int i), (.int f), (.int t)] ∧ Z.Warmed39 U.vm ∧ U.heap = h0) (fun _ _ _ _ _ => True) (fun _ U o U' => ∃ v L, o = .returned v ∧ own_raN_Q Z a1 i f t z k1 vs h0 n0 v U'.heap L ∧ FrameEnd U o U' L ({ frames := 0, cells := 0, slots := 0, locals := 0 } : Room).cells ({ frames := 0, cells := 0, slots := 0, locals := 0 } : Room).slots) := by
  refine own_enter (C := ({ frames := 0, cells := 0, slots := 0, locals := 0 } : Room).cells) (S := ({ frames := 0, cells := 0, slots := 0, locals := 0 } : Room).slots) (plainFor_of_name own_pn2) ?_
  intro p e s m below meth c T0 X0 I e0
  obtain ⟨hx, hby, hml, hown, hnm, hret, hlk, hZ⟩ := I
  have N0 := Fr.nil n0
  have O0 := own_extr h0
  refine own_cast (own_ef8 m a1 i f t) ?_
  show own_Go _ _ _ _ T0 (mkF m 0 #[.val (.ref a1), .val (.int i), .val (.int f), .val (.int t)] [])
  refine own_st (fun _ k => XS.iloadN X0.here hx rfl (hb hby own_d8_0) rfl k) ?_
  refine own_st (fun _ k => XS.iloadN X0.here hx rfl (hb hby own_d8_1) rfl k) ?_
  refine own_st (fun _ k => XS.icmpYes X0.here hx rfl (pc0 := 2) (pc' := 9) rfl (hb hby own_d8_2) rfl (feq (hit : ¬ (i = t))).2 (by decide) (by decide) k) ?_
  refine own_st (fun _ k => XS.iloadN X0.here hx rfl (hb hby own_d8_9) rfl k) ?_
  refine own_st (fun _ k => XS.iloadN X0.here hx rfl (hb hby own_d8_10) rfl k) ?_
  refine own_st (fun _ k => XS.icmpYes X0.here hx rfl (pc0 := 11) (pc' := 16) rfl (hb hby own_d8_11) rfl (feq (hif : ¬ (i = f))).2 (by decide) (by decide) k) ?_
  show own_Go _ _ _ _ T0 (mkF m 16 #[.val (.ref a1), .val (.int i), .val (.int f), .val (.int t)] [])
  refine own_st (fun _ k => XS.aloadN X0.here hx rfl (hb hby own_d8_16) rfl rfl k) ?_
  refine own_st (fun _ k => XS.iloadN X0.here hx rfl (hb hby own_d8_17) rfl k) ?_
  refine own_st (own_ldR X0 hx hZ e0 (V1.ext O0) rfl (j := i) hj (v := z) hz (g := (mkF m 18 #[.val (.ref a1), .val (.int i), .val (.int f), .val (.int t)] [(.int i), (.ref a1)])) rfl rfl (hb hby own_d8_18)) ?_
  exact own_retA X0 hx hret rfl hlk hzr (hb hby own_d8_19) ⟨rfl, N0, e0⟩ (by decide) (by decide)
def own_im10_Q (Z : State) (a1 a2 : Addr) (f t : Int32) (k1 k2 : ClassId) (o0 o1 o2 o3 : Int32) (h0 : Heap) (n0 : Nat) (v : Option Value) (h : Heap) (L : List Loc) : Prop := v = some (.int 1) ∧ Fr n0 L ∧ h = h0
set_option maxRecDepth 65536 in
set_option maxHeartbeats 40000000 in
theorem own_im10 (l : Launch) {Z : State} {a0 : Array Value} (hw : own_W Z a0) (ws : List Jvm.Cond) (a1 a2 : Addr) (f t : Int32) (k1 k2 : ClassId) (o0 o1 o2 o3 : Int32) (h0 : Heap) (n0 : Nat) (Z0 : n0 ≤ h0.size) (hf : f = (1 : Int32)) (ht : t = (0 : Int32)) (V1 : Arv Z h0 a1 k1 .int 4 [(.int o1), (.int o1), (.int o2), (.int o3)] (.int (0 : Int32))) (V2 : Arv Z h0 a2 k2 .int 4 [(.int o0), (.int o1), (.int o2), (.int o3)] (.int (0 : Int32))) :
    MetFree l (⟨"com/example/sheaf/sheaf/CountedKeysMovePinLaw", "intsMoved", "([I[III)Z"⟩ : MethodName) (head1 (Jvm.Cond.code (⟨"com/example/sheaf/sheaf/CountedKeysMovePinLaw", "intsMoved", "([I[III)Z"⟩ : MethodName) method_4_code 4 (some .boolean) :: ws) ({ frames := 1, cells := 0, slots := 0, locals := 16 } : Room)) (fun a U => a = #[(.ref a1), (.ref a2), (.int f), (.int t)] ∧ Z.Warmed39 U.vm ∧ U.heap = h0) (fun _ _ _ _ _ => True) (fun _ U o U' => ∃ v L, o = .returned v ∧ own_im10_Q Z a1 a2 f t k1 k2 o0 o1 o2 o3 h0 n0 v U'.heap L ∧ FrameEnd U o U' L ({ frames := 1, cells := 0, slots := 0, locals := 16 } : Room).cells ({ frames := 1, cells := 0, slots := 0, locals := 16 } : Room).slots) := by
  refine own_enter (C := ({ frames := 1, cells := 0, slots := 0, locals := 16 } : Room).cells) (S := ({ frames := 1, cells := 0, slots := 0, locals := 16 } : Room).slots) (plainFor_of_name own_pn2) ?_
  intro p e s m below meth c T0 X0 I e0
  obtain ⟨hx, hby, hml, hown, hnm, hret, hlk, hZ⟩ := I
  have N0 := Fr.nil n0
  have O0 := own_extr h0
  refine own_cast (own_ef5 m a1 a2 f t) ?_
  show own_Go _ _ _ _ T0 (mkF m 0 #[.val (.ref a1), .val (.ref a2), .val (.int f), .val (.int t)] [])
  rw [hf, ht]
  show own_Go _ _ _ _ T0 (mkF m 0 #[.val (.ref a1), .val (.ref a2), .val (.int (1 : Int32)), .val (.int (0 : Int32))] [])
  refine own_st (fun _ k => XS.aloadN X0.here hx rfl (hb hby own_d5_0) rfl rfl k) ?_
  refine own_st (fun _ k => XS.iconst X0.here hx rfl (hb hby own_d5_1) k) ?_
  refine own_st (own_ldI X0 hx hZ e0 (V1.ext O0) (j := (0 : Int32)) (by decide) (v := (.int o1)) rfl (g := (mkF m 2 #[.val (.ref a1), .val (.ref a2), .val (.int (1 : Int32)), .val (.int (0 : Int32))] [(.int (0 : Int32)), (.ref a1)])) rfl rfl (hb hby own_d5_2)) ?_
  refine own_st (fun _ k => XS.aloadN X0.here hx rfl (hb hby own_d5_3) rfl rfl k) ?_
  refine own_st (fun _ k => XS.iconst X0.here hx rfl (hb hby own_d5_4) k) ?_
  refine own_st (fun _ k => XS.iloadN X0.here hx rfl (hb hby own_d5_5) rfl k) ?_
  show own_Go _ _ _ _ T0 (mkF m 6 #[.val (.ref a1), .val (.ref a2), .val (.int (1 : Int32)), .val (.int (0 : Int32))] [(.int (1 : Int32)), (.int (0 : Int32)), (.ref a2), (.int o1)])
  refine own_st (fun _ k => XS.iloadN X0.here hx rfl (hb hby own_d5_6) rfl k) ?_
  obtain ⟨v1, T1, L1, hQ1, X1, st1⟩ := own_callS X0 hx hZ (y := (⟨"com/example/sheaf/sheaf/CountedKeysMovePinLaw", "intAfter", "([IIII)I"⟩ : MethodName)) hown (own_w45 hw) (own_w46 hw) (own_w43 hw) (own_w47 hw) (by decide) (own_iaE l hw [] a2 (0 : Int32) (1 : Int32) (0 : Int32) o1 k2 [(.int o0), (.int o1), (.int o2), (.int o3)] h0 n0 (Nat.le_trans Z0 O0.1) rfl (by decide) rfl (V2.ext O0)) e0 (g := (mkF m 7 #[.val (.ref a1), .val (.ref a2), .val (.int (1 : Int32)), .val (.int (0 : Int32))] [(.int (0 : Int32)), (.int (1 : Int32)), (.int (0 : Int32)), (.ref a2), (.int o1)])) rfl (by rw [hml]; rfl) (argsL := [(.ref a2), (.int (0 : Int32)), (.int (1 : Int32)), (.int (0 : Int32))]) (rest := [(.int o1)]) (lenOf own_pd1 rfl) rfl rfl (W := 1) (Nat.le_of_eq rfl) (hb hby own_d5_7) (by decide) (by decide) (by decide) (by decide)
  obtain ⟨rfl, N1, e1⟩ := hQ1
  have N1' := Fr.app N0 N1
  refine own_st st1 ?_
  refine own_st (fun _ k => XS.icmpNo X1.here hx rfl (hb hby own_d5_10) rfl (teq (rfl : o1 = o1)).2 k) ?_
  refine own_st (fun _ k => XS.aloadN X1.here hx rfl (hb hby own_d5_13) rfl rfl k) ?_
  refine own_st (fun _ k => XS.iconst X1.here hx rfl (hb hby own_d5_14) k) ?_
  refine own_st (own_ldI X1 hx hZ e1 (V1.ext O0) (j := (1 : Int32)) (by decide) (v := (.int o1)) rfl (g := (mkF m 15 #[.val (.ref a1), .val (.ref a2), .val (.int (1 : Int32)), .val (.int (0 : Int32))] [(.int (1 : Int32)), (.ref a1)])) rfl rfl (hb hby own_d5_15)) ?_
  show own_Go _ _ _ _ T1 (mkF m 16 #[.val (.ref a1), .val (.ref a2), .val (.int (1 : Int32)), .val (.int (0 : Int32))] [(.int o1)])
  refine own_st (fun _ k => XS.aloadN X1.here hx rfl (hb hby own_d5_16) rfl rfl k) ?_
  refine own_st (fun _ k => XS.iconst X1.here hx rfl (hb hby own_d5_17) k) ?_
  refine own_st (fun _ k => XS.iloadN X1.here hx rfl (hb hby own_d5_18) rfl k) ?_
  refine own_st (fun _ k => XS.iloadN X1.here hx rfl (hb hby own_d5_19) rfl k) ?_
  obtain ⟨v2, T2, L2, hQ2, X2, st2⟩ := own_callS X1 hx hZ (y := (⟨"com/example/sheaf/sheaf/CountedKeysMovePinLaw", "intAfter", "([IIII)I"⟩ : MethodName)) hown (own_w45 hw) (own_w46 hw) (own_w43 hw) (own_w47 hw) (by decide) (own_iaN l hw [] a2 (1 : Int32) (1 : Int32) (0 : Int32) o1 k2 [(.int o0), (.int o1), (.int o2), (.int o3)] h0 n0 (Nat.le_trans Z0 O0.1) (by decide) (by decide) rfl (V2.ext O0)) e1 (g := (mkF m 20 #[.val (.ref a1), .val (.ref a2), .val (.int (1 : Int32)), .val (.int (0 : Int32))] [(.int (0 : Int32)), (.int (1 : Int32)), (.int (1 : Int32)), (.ref a2), (.int o1)])) rfl (by rw [hml]; rfl) (argsL := [(.ref a2), (.int (1 : Int32)), (.int (1 : Int32)), (.int (0 : Int32))]) (rest := [(.int o1)]) (lenOf own_pd1 rfl) rfl rfl (W := 1) (Nat.le_of_eq rfl) (hb hby own_d5_20) (by decide) (by decide) (by decide) (by decide)
  obtain ⟨rfl, N2, e2⟩ := hQ2
  have N2' := Fr.app N1' N2
  refine own_st st2 ?_
  refine own_st (fun _ k => XS.icmpNo X2.here hx rfl (hb hby own_d5_23) rfl (teq (rfl : o1 = o1)).2 k) ?_
  show own_Go _ _ _ _ T2 (mkF m 26 #[.val (.ref a1), .val (.ref a2), .val (.int (1 : Int32)), .val (.int (0 : Int32))] [])
  refine own_st (fun _ k => XS.aloadN X2.here hx rfl (hb hby own_d5_26) rfl rfl k) ?_
  refine own_st (fun _ k => XS.iconst X2.here hx rfl (hb hby own_d5_27) k) ?_
  refine own_st (own_ldI X2 hx hZ e2 (V1.ext O0) (j := (2 : Int32)) (by decide) (v := (.int o2)) rfl (g := (mkF m 28 #[.val (.ref a1), .val (.ref a2), .val (.int (1 : Int32)), .val (.int (0 : Int32))] [(.int (2 : Int32)), (.ref a1)])) rfl rfl (hb hby own_d5_28)) ?_
  refine own_st (fun _ k => XS.aloadN X2.here hx rfl (hb hby own_d5_29) rfl rfl k) ?_
  refine own_st (fun _ k => XS.iconst X2.here hx rfl (hb hby own_d5_30) k) ?_
  refine own_st (fun _ k => XS.iloadN X2.here hx rfl (hb hby own_d5_31) rfl k) ?_
  show own_Go _ _ _ _ T2 (mkF m 32 #[.val (.ref a1), .val (.ref a2), .val (.int (1 : Int32)), .val (.int (0 : Int32))] [(.int (1 : Int32)), (.int (2 : Int32)), (.ref a2), (.int o2)])
  refine own_st (fun _ k => XS.iloadN X2.here hx rfl (hb hby own_d5_32) rfl k) ?_
  obtain ⟨v3, T3, L3, hQ3, X3, st3⟩ := own_callS X2 hx hZ (y := (⟨"com/example/sheaf/sheaf/CountedKeysMovePinLaw", "intAfter", "([IIII)I"⟩ : MethodName)) hown (own_w45 hw) (own_w46 hw) (own_w43 hw) (own_w47 hw) (by decide) (own_iaN l hw [] a2 (2 : Int32) (1 : Int32) (0 : Int32) o2 k2 [(.int o0), (.int o1), (.int o2), (.int o3)] h0 n0 (Nat.le_trans Z0 O0.1) (by decide) (by decide) rfl (V2.ext O0)) e2 (g := (mkF m 33 #[.val (.ref a1), .val (.ref a2), .val (.int (1 : Int32)), .val (.int (0 : Int32))] [(.int (0 : Int32)), (.int (1 : Int32)), (.int (2 : Int32)), (.ref a2), (.int o2)])) rfl (by rw [hml]; rfl) (argsL := [(.ref a2), (.int (2 : Int32)), (.int (1 : Int32)), (.int (0 : Int32))]) (rest := [(.int o2)]) (lenOf own_pd1 rfl) rfl rfl (W := 1) (Nat.le_of_eq rfl) (hb hby own_d5_33) (by decide) (by decide) (by decide) (by decide)
  obtain ⟨rfl, N3, e3⟩ := hQ3
  have N3' := Fr.app N2' N3
  refine own_st st3 ?_
  refine own_st (fun _ k => XS.icmpNo X3.here hx rfl (hb hby own_d5_36) rfl (teq (rfl : o2 = o2)).2 k) ?_
  refine own_st (fun _ k => XS.aloadN X3.here hx rfl (hb hby own_d5_39) rfl rfl k) ?_
  refine own_st (fun _ k => XS.iconst X3.here hx rfl (hb hby own_d5_40) k) ?_
  refine own_st (own_ldI X3 hx hZ e3 (V1.ext O0) (j := (3 : Int32)) (by decide) (v := (.int o3)) rfl (g := (mkF m 41 #[.val (.ref a1), .val (.ref a2), .val (.int (1 : Int32)), .val (.int (0 : Int32))] [(.int (3 : Int32)), (.ref a1)])) rfl rfl (hb hby own_d5_41)) ?_
  show own_Go _ _ _ _ T3 (mkF m 42 #[.val (.ref a1), .val (.ref a2), .val (.int (1 : Int32)), .val (.int (0 : Int32))] [(.int o3)])
  refine own_st (fun _ k => XS.aloadN X3.here hx rfl (hb hby own_d5_42) rfl rfl k) ?_
  refine own_st (fun _ k => XS.iconst X3.here hx rfl (hb hby own_d5_43) k) ?_
  refine own_st (fun _ k => XS.iloadN X3.here hx rfl (hb hby own_d5_44) rfl k) ?_
  refine own_st (fun _ k => XS.iloadN X3.here hx rfl (hb hby own_d5_45) rfl k) ?_
  obtain ⟨v4, T4, L4, hQ4, X4, st4⟩ := own_callS X3 hx hZ (y := (⟨"com/example/sheaf/sheaf/CountedKeysMovePinLaw", "intAfter", "([IIII)I"⟩ : MethodName)) hown (own_w45 hw) (own_w46 hw) (own_w43 hw) (own_w47 hw) (by decide) (own_iaN l hw [] a2 (3 : Int32) (1 : Int32) (0 : Int32) o3 k2 [(.int o0), (.int o1), (.int o2), (.int o3)] h0 n0 (Nat.le_trans Z0 O0.1) (by decide) (by decide) rfl (V2.ext O0)) e3 (g := (mkF m 46 #[.val (.ref a1), .val (.ref a2), .val (.int (1 : Int32)), .val (.int (0 : Int32))] [(.int (0 : Int32)), (.int (1 : Int32)), (.int (3 : Int32)), (.ref a2), (.int o3)])) rfl (by rw [hml]; rfl) (argsL := [(.ref a2), (.int (3 : Int32)), (.int (1 : Int32)), (.int (0 : Int32))]) (rest := [(.int o3)]) (lenOf own_pd1 rfl) rfl rfl (W := 1) (Nat.le_of_eq rfl) (hb hby own_d5_46) (by decide) (by decide) (by decide) (by decide)
  obtain ⟨rfl, N4, e4⟩ := hQ4
  have N4' := Fr.app N3' N4
  refine own_st st4 ?_
  refine own_st (fun _ k => XS.icmpNo X4.here hx rfl (hb hby own_d5_49) rfl (teq (rfl : o3 = o3)).2 k) ?_
  show own_Go _ _ _ _ T4 (mkF m 52 #[.val (.ref a1), .val (.ref a2), .val (.int (1 : Int32)), .val (.int (0 : Int32))] [])
  refine own_st (fun _ k => XS.iconst X4.here hx rfl (hb hby own_d5_52) k) ?_
  refine own_st (fun _ k => XS.goto X4.here hx rfl (pc0 := 53) (pc' := 57) rfl (hb hby own_d5_53) (by decide) (by decide) k) ?_
  exact own_retN X4 hx hret (by simp) hlk (hb hby own_d5_57) ⟨rfl, N4', e4⟩ (by decide) (by decide)
def own_rm10_Q (Z : State) (a1 a2 : Addr) (f t : Int32) (k1 k2 : ClassId) (b0 b1 b2 b3 : Addr) (h0 : Heap) (n0 : Nat) (v : Option Value) (h : Heap) (L : List Loc) : Prop := v = some (.int 1) ∧ Fr n0 L ∧ h = h0
set_option maxRecDepth 65536 in
set_option maxHeartbeats 40000000 in
theorem own_rm10 (l : Launch) {Z : State} {a0 : Array Value} (hw : own_W Z a0) (ws : List Jvm.Cond) (a1 a2 : Addr) (f t : Int32) (k1 k2 : ClassId) (b0 b1 b2 b3 : Addr) (h0 : Heap) (n0 : Nat) (Z0 : n0 ≤ h0.size) (hf : f = (1 : Int32)) (ht : t = (0 : Int32)) (V1 : Arv Z h0 a1 k1 (.object "java/lang/Object") 4 [(.ref b1), .null, (.ref b2), (.ref b3)] .null) (V2 : Arv Z h0 a2 k2 (.object "java/lang/Object") 4 [.null, (.ref b1), (.ref b2), (.ref b3)] .null) :
    MetFree l (⟨"com/example/sheaf/sheaf/CountedKeysMovePinLaw", "refsMoved", "([Ljava/lang/Object;[Ljava/lang/Object;II)Z"⟩ : MethodName) (head1 (Jvm.Cond.code (⟨"com/example/sheaf/sheaf/CountedKeysMovePinLaw", "refsMoved", "([Ljava/lang/Object;[Ljava/lang/Object;II)Z"⟩ : MethodName) method_6_code 4 (some .boolean) :: ws) ({ frames := 1, cells := 0, slots := 0, locals := 16 } : Room)) (fun a U => a = #[(.ref a1), (.ref a2), (.int f), (.int t)] ∧ Z.Warmed39 U.vm ∧ U.heap = h0) (fun _ _ _ _ _ => True) (fun _ U o U' => ∃ v L, o = .returned v ∧ own_rm10_Q Z a1 a2 f t k1 k2 b0 b1 b2 b3 h0 n0 v U'.heap L ∧ FrameEnd U o U' L ({ frames := 1, cells := 0, slots := 0, locals := 16 } : Room).cells ({ frames := 1, cells := 0, slots := 0, locals := 16 } : Room).slots) := by
  refine own_enter (C := ({ frames := 1, cells := 0, slots := 0, locals := 16 } : Room).cells) (S := ({ frames := 1, cells := 0, slots := 0, locals := 16 } : Room).slots) (plainFor_of_name own_pn2) ?_
  intro p e s m below meth c T0 X0 I e0
  obtain ⟨hx, hby, hml, hown, hnm, hret, hlk, hZ⟩ := I
  have N0 := Fr.nil n0
  have O0 := own_extr h0
  refine own_cast (own_ef7 m a1 a2 f t) ?_
  show own_Go _ _ _ _ T0 (mkF m 0 #[.val (.ref a1), .val (.ref a2), .val (.int f), .val (.int t)] [])
  rw [hf, ht]
  show own_Go _ _ _ _ T0 (mkF m 0 #[.val (.ref a1), .val (.ref a2), .val (.int (1 : Int32)), .val (.int (0 : Int32))] [])
  refine own_st (fun _ k => XS.aloadN X0.here hx rfl (hb hby own_d7_0) rfl rfl k) ?_
  refine own_st (fun _ k => XS.iconst X0.here hx rfl (hb hby own_d7_1) k) ?_
  refine own_st (own_ldR X0 hx hZ e0 (V1.ext O0) rfl (j := (0 : Int32)) (by decide) (v := (.ref b1)) rfl (g := (mkF m 2 #[.val (.ref a1), .val (.ref a2), .val (.int (1 : Int32)), .val (.int (0 : Int32))] [(.int (0 : Int32)), (.ref a1)])) rfl rfl (hb hby own_d7_2)) ?_
  refine own_st (fun _ k => XS.aloadN X0.here hx rfl (hb hby own_d7_3) rfl rfl k) ?_
  refine own_st (fun _ k => XS.iconst X0.here hx rfl (hb hby own_d7_4) k) ?_
  refine own_st (fun _ k => XS.iloadN X0.here hx rfl (hb hby own_d7_5) rfl k) ?_
  show own_Go _ _ _ _ T0 (mkF m 6 #[.val (.ref a1), .val (.ref a2), .val (.int (1 : Int32)), .val (.int (0 : Int32))] [(.int (1 : Int32)), (.int (0 : Int32)), (.ref a2), (.ref b1)])
  refine own_st (fun _ k => XS.iloadN X0.here hx rfl (hb hby own_d7_6) rfl k) ?_
  obtain ⟨v1, T1, L1, hQ1, X1, st1⟩ := own_callS X0 hx hZ (y := (⟨"com/example/sheaf/sheaf/CountedKeysMovePinLaw", "refAfter", "([Ljava/lang/Object;III)Ljava/lang/Object;"⟩ : MethodName)) hown (own_w52 hw) (own_w53 hw) (own_w43 hw) (own_w54 hw) (by decide) (own_raE l hw [] a2 (0 : Int32) (1 : Int32) (0 : Int32) (.ref b1) k2 [.null, (.ref b1), (.ref b2), (.ref b3)] h0 n0 (Nat.le_trans Z0 O0.1) rfl (by decide) rfl rfl (V2.ext O0)) e0 (g := (mkF m 7 #[.val (.ref a1), .val (.ref a2), .val (.int (1 : Int32)), .val (.int (0 : Int32))] [(.int (0 : Int32)), (.int (1 : Int32)), (.int (0 : Int32)), (.ref a2), (.ref b1)])) rfl (by rw [hml]; rfl) (argsL := [(.ref a2), (.int (0 : Int32)), (.int (1 : Int32)), (.int (0 : Int32))]) (rest := [(.ref b1)]) (lenOf own_pd2 rfl) rfl rfl (W := 1) (Nat.le_of_eq rfl) (hb hby own_d7_7) (by decide) (by decide) (by decide) (by decide)
  obtain ⟨rfl, N1, e1⟩ := hQ1
  have N1' := Fr.app N0 N1
  refine own_st st1 ?_
  refine own_st (fun _ k => Jvm.RoadKit.acmp (g := (mkF m 10 #[.val (.ref a1), .val (.ref a2), .val (.int (1 : Int32)), .val (.int (0 : Int32))] [(.ref b1), (.ref b1)])) X1 hx rfl rfl rfl (pc0 := 10) (pc' := 13) (same := true) rfl (hb hby own_d7_10) rfl (decide_eq_true rfl) (by decide) (by decide) k) ?_
  refine own_st (fun _ k => XS.aloadN X1.here hx rfl (hb hby own_d7_13) rfl rfl k) ?_
  refine own_st (fun _ k => XS.iconst X1.here hx rfl (hb hby own_d7_14) k) ?_
  refine own_st (own_ldR X1 hx hZ e1 (V1.ext O0) rfl (j := (1 : Int32)) (by decide) (v := .null) rfl (g := (mkF m 15 #[.val (.ref a1), .val (.ref a2), .val (.int (1 : Int32)), .val (.int (0 : Int32))] [(.int (1 : Int32)), (.ref a1)])) rfl rfl (hb hby own_d7_15)) ?_
  show own_Go _ _ _ _ T1 (mkF m 16 #[.val (.ref a1), .val (.ref a2), .val (.int (1 : Int32)), .val (.int (0 : Int32))] [.null])
  refine own_st (fun _ k => XS.aloadN X1.here hx rfl (hb hby own_d7_16) rfl rfl k) ?_
  refine own_st (fun _ k => XS.iconst X1.here hx rfl (hb hby own_d7_17) k) ?_
  refine own_st (fun _ k => XS.iloadN X1.here hx rfl (hb hby own_d7_18) rfl k) ?_
  refine own_st (fun _ k => XS.iloadN X1.here hx rfl (hb hby own_d7_19) rfl k) ?_
  obtain ⟨v2, T2, L2, hQ2, X2, st2⟩ := own_callS X1 hx hZ (y := (⟨"com/example/sheaf/sheaf/CountedKeysMovePinLaw", "refAfter", "([Ljava/lang/Object;III)Ljava/lang/Object;"⟩ : MethodName)) hown (own_w52 hw) (own_w53 hw) (own_w43 hw) (own_w54 hw) (by decide) (own_raF l hw [] a2 (1 : Int32) (1 : Int32) (0 : Int32) .null k2 [.null, (.ref b1), (.ref b2), (.ref b3)] h0 n0 (Nat.le_trans Z0 O0.1) (by decide) rfl (V2.ext O0)) e1 (g := (mkF m 20 #[.val (.ref a1), .val (.ref a2), .val (.int (1 : Int32)), .val (.int (0 : Int32))] [(.int (0 : Int32)), (.int (1 : Int32)), (.int (1 : Int32)), (.ref a2), .null])) rfl (by rw [hml]; rfl) (argsL := [(.ref a2), (.int (1 : Int32)), (.int (1 : Int32)), (.int (0 : Int32))]) (rest := [.null]) (lenOf own_pd2 rfl) rfl rfl (W := 1) (Nat.le_of_eq rfl) (hb hby own_d7_20) (by decide) (by decide) (by decide) (by decide)
  obtain ⟨rfl, N2, e2⟩ := hQ2
  have N2' := Fr.app N1' N2
  refine own_st st2 ?_
  refine own_st (fun _ k => Jvm.RoadKit.acmp (g := (mkF m 23 #[.val (.ref a1), .val (.ref a2), .val (.int (1 : Int32)), .val (.int (0 : Int32))] [.null, .null])) X2 hx rfl rfl rfl (pc0 := 23) (pc' := 26) (same := true) rfl (hb hby own_d7_23) rfl (decide_eq_true rfl) (by decide) (by decide) k) ?_
  show own_Go _ _ _ _ T2 (mkF m 26 #[.val (.ref a1), .val (.ref a2), .val (.int (1 : Int32)), .val (.int (0 : Int32))] [])
  refine own_st (fun _ k => XS.aloadN X2.here hx rfl (hb hby own_d7_26) rfl rfl k) ?_
  refine own_st (fun _ k => XS.iconst X2.here hx rfl (hb hby own_d7_27) k) ?_
  refine own_st (own_ldR X2 hx hZ e2 (V1.ext O0) rfl (j := (2 : Int32)) (by decide) (v := (.ref b2)) rfl (g := (mkF m 28 #[.val (.ref a1), .val (.ref a2), .val (.int (1 : Int32)), .val (.int (0 : Int32))] [(.int (2 : Int32)), (.ref a1)])) rfl rfl (hb hby own_d7_28)) ?_
  refine own_st (fun _ k => XS.aloadN X2.here hx rfl (hb hby own_d7_29) rfl rfl k) ?_
  refine own_st (fun _ k => XS.iconst X2.here hx rfl (hb hby own_d7_30) k) ?_
  refine own_st (fun _ k => XS.iloadN X2.here hx rfl (hb hby own_d7_31) rfl k) ?_
  show own_Go _ _ _ _ T2 (mkF m 32 #[.val (.ref a1), .val (.ref a2), .val (.int (1 : Int32)), .val (.int (0 : Int32))] [(.int (1 : Int32)), (.int (2 : Int32)), (.ref a2), (.ref b2)])
  refine own_st (fun _ k => XS.iloadN X2.here hx rfl (hb hby own_d7_32) rfl k) ?_
  obtain ⟨v3, T3, L3, hQ3, X3, st3⟩ := own_callS X2 hx hZ (y := (⟨"com/example/sheaf/sheaf/CountedKeysMovePinLaw", "refAfter", "([Ljava/lang/Object;III)Ljava/lang/Object;"⟩ : MethodName)) hown (own_w52 hw) (own_w53 hw) (own_w43 hw) (own_w54 hw) (by decide) (own_raN l hw [] a2 (2 : Int32) (1 : Int32) (0 : Int32) (.ref b2) k2 [.null, (.ref b1), (.ref b2), (.ref b3)] h0 n0 (Nat.le_trans Z0 O0.1) (by decide) (by decide) (by decide) rfl rfl (V2.ext O0)) e2 (g := (mkF m 33 #[.val (.ref a1), .val (.ref a2), .val (.int (1 : Int32)), .val (.int (0 : Int32))] [(.int (0 : Int32)), (.int (1 : Int32)), (.int (2 : Int32)), (.ref a2), (.ref b2)])) rfl (by rw [hml]; rfl) (argsL := [(.ref a2), (.int (2 : Int32)), (.int (1 : Int32)), (.int (0 : Int32))]) (rest := [(.ref b2)]) (lenOf own_pd2 rfl) rfl rfl (W := 1) (Nat.le_of_eq rfl) (hb hby own_d7_33) (by decide) (by decide) (by decide) (by decide)
  obtain ⟨rfl, N3, e3⟩ := hQ3
  have N3' := Fr.app N2' N3
  refine own_st st3 ?_
  refine own_st (fun _ k => Jvm.RoadKit.acmp (g := (mkF m 36 #[.val (.ref a1), .val (.ref a2), .val (.int (1 : Int32)), .val (.int (0 : Int32))] [(.ref b2), (.ref b2)])) X3 hx rfl rfl rfl (pc0 := 36) (pc' := 39) (same := true) rfl (hb hby own_d7_36) rfl (decide_eq_true rfl) (by decide) (by decide) k) ?_
  refine own_st (fun _ k => XS.aloadN X3.here hx rfl (hb hby own_d7_39) rfl rfl k) ?_
  refine own_st (fun _ k => XS.iconst X3.here hx rfl (hb hby own_d7_40) k) ?_
  refine own_st (own_ldR X3 hx hZ e3 (V1.ext O0) rfl (j := (3 : Int32)) (by decide) (v := (.ref b3)) rfl (g := (mkF m 41 #[.val (.ref a1), .val (.ref a2), .val (.int (1 : Int32)), .val (.int (0 : Int32))] [(.int (3 : Int32)), (.ref a1)])) rfl rfl (hb hby own_d7_41)) ?_
  show own_Go _ _ _ _ T3 (mkF m 42 #[.val (.ref a1), .val (.ref a2), .val (.int (1 : Int32)), .val (.int (0 : Int32))] [(.ref b3)])
  refine own_st (fun _ k => XS.aloadN X3.here hx rfl (hb hby own_d7_42) rfl rfl k) ?_
  refine own_st (fun _ k => XS.iconst X3.here hx rfl (hb hby own_d7_43) k) ?_
  refine own_st (fun _ k => XS.iloadN X3.here hx rfl (hb hby own_d7_44) rfl k) ?_
  refine own_st (fun _ k => XS.iloadN X3.here hx rfl (hb hby own_d7_45) rfl k) ?_
  obtain ⟨v4, T4, L4, hQ4, X4, st4⟩ := own_callS X3 hx hZ (y := (⟨"com/example/sheaf/sheaf/CountedKeysMovePinLaw", "refAfter", "([Ljava/lang/Object;III)Ljava/lang/Object;"⟩ : MethodName)) hown (own_w52 hw) (own_w53 hw) (own_w43 hw) (own_w54 hw) (by decide) (own_raN l hw [] a2 (3 : Int32) (1 : Int32) (0 : Int32) (.ref b3) k2 [.null, (.ref b1), (.ref b2), (.ref b3)] h0 n0 (Nat.le_trans Z0 O0.1) (by decide) (by decide) (by decide) rfl rfl (V2.ext O0)) e3 (g := (mkF m 46 #[.val (.ref a1), .val (.ref a2), .val (.int (1 : Int32)), .val (.int (0 : Int32))] [(.int (0 : Int32)), (.int (1 : Int32)), (.int (3 : Int32)), (.ref a2), (.ref b3)])) rfl (by rw [hml]; rfl) (argsL := [(.ref a2), (.int (3 : Int32)), (.int (1 : Int32)), (.int (0 : Int32))]) (rest := [(.ref b3)]) (lenOf own_pd2 rfl) rfl rfl (W := 1) (Nat.le_of_eq rfl) (hb hby own_d7_46) (by decide) (by decide) (by decide) (by decide)
  obtain ⟨rfl, N4, e4⟩ := hQ4
  have N4' := Fr.app N3' N4
  refine own_st st4 ?_
  refine own_st (fun _ k => Jvm.RoadKit.acmp (g := (mkF m 49 #[.val (.ref a1), .val (.ref a2), .val (.int (1 : Int32)), .val (.int (0 : Int32))] [(.ref b3), (.ref b3)])) X4 hx rfl rfl rfl (pc0 := 49) (pc' := 52) (same := true) rfl (hb hby own_d7_49) rfl (decide_eq_true rfl) (by decide) (by decide) k) ?_
  show own_Go _ _ _ _ T4 (mkF m 52 #[.val (.ref a1), .val (.ref a2), .val (.int (1 : Int32)), .val (.int (0 : Int32))] [])
  refine own_st (fun _ k => XS.iconst X4.here hx rfl (hb hby own_d7_52) k) ?_
  refine own_st (fun _ k => XS.goto X4.here hx rfl (pc0 := 53) (pc' := 57) rfl (hb hby own_d7_53) (by decide) (by decide) k) ?_
  exact own_retN X4 hx hret (by simp) hlk (hb hby own_d7_57) ⟨rfl, N4', e4⟩ (by decide) (by decide)
def own_im20_Q (Z : State) (a1 a2 : Addr) (f t : Int32) (k1 k2 : ClassId) (o0 o1 o2 o3 : Int32) (h0 : Heap) (n0 : Nat) (v : Option Value) (h : Heap) (L : List Loc) : Prop := v = some (.int 1) ∧ Fr n0 L ∧ h = h0
set_option maxRecDepth 65536 in
set_option maxHeartbeats 40000000 in
theorem own_im20 (l : Launch) {Z : State} {a0 : Array Value} (hw : own_W Z a0) (ws : List Jvm.Cond) (a1 a2 : Addr) (f t : Int32) (k1 k2 : ClassId) (o0 o1 o2 o3 : Int32) (h0 : Heap) (n0 : Nat) (Z0 : n0 ≤ h0.size) (hf : f = (2 : Int32)) (ht : t = (0 : Int32)) (V1 : Arv Z h0 a1 k1 .int 4 [(.int o2), (.int o1), (.int o2), (.int o3)] (.int (0 : Int32))) (V2 : Arv Z h0 a2 k2 .int 4 [(.int o0), (.int o1), (.int o2), (.int o3)] (.int (0 : Int32))) :
    MetFree l (⟨"com/example/sheaf/sheaf/CountedKeysMovePinLaw", "intsMoved", "([I[III)Z"⟩ : MethodName) (head1 (Jvm.Cond.code (⟨"com/example/sheaf/sheaf/CountedKeysMovePinLaw", "intsMoved", "([I[III)Z"⟩ : MethodName) method_4_code 4 (some .boolean) :: ws) ({ frames := 1, cells := 0, slots := 0, locals := 16 } : Room)) (fun a U => a = #[(.ref a1), (.ref a2), (.int f), (.int t)] ∧ Z.Warmed39 U.vm ∧ U.heap = h0) (fun _ _ _ _ _ => True) (fun _ U o U' => ∃ v L, o = .returned v ∧ own_im20_Q Z a1 a2 f t k1 k2 o0 o1 o2 o3 h0 n0 v U'.heap L ∧ FrameEnd U o U' L ({ frames := 1, cells := 0, slots := 0, locals := 16 } : Room).cells ({ frames := 1, cells := 0, slots := 0, locals := 16 } : Room).slots) := by
  refine own_enter (C := ({ frames := 1, cells := 0, slots := 0, locals := 16 } : Room).cells) (S := ({ frames := 1, cells := 0, slots := 0, locals := 16 } : Room).slots) (plainFor_of_name own_pn2) ?_
  intro p e s m below meth c T0 X0 I e0
  obtain ⟨hx, hby, hml, hown, hnm, hret, hlk, hZ⟩ := I
  have N0 := Fr.nil n0
  have O0 := own_extr h0
  refine own_cast (own_ef5 m a1 a2 f t) ?_
  show own_Go _ _ _ _ T0 (mkF m 0 #[.val (.ref a1), .val (.ref a2), .val (.int f), .val (.int t)] [])
  rw [hf, ht]
  show own_Go _ _ _ _ T0 (mkF m 0 #[.val (.ref a1), .val (.ref a2), .val (.int (2 : Int32)), .val (.int (0 : Int32))] [])
  refine own_st (fun _ k => XS.aloadN X0.here hx rfl (hb hby own_d5_0) rfl rfl k) ?_
  refine own_st (fun _ k => XS.iconst X0.here hx rfl (hb hby own_d5_1) k) ?_
  refine own_st (own_ldI X0 hx hZ e0 (V1.ext O0) (j := (0 : Int32)) (by decide) (v := (.int o2)) rfl (g := (mkF m 2 #[.val (.ref a1), .val (.ref a2), .val (.int (2 : Int32)), .val (.int (0 : Int32))] [(.int (0 : Int32)), (.ref a1)])) rfl rfl (hb hby own_d5_2)) ?_
  refine own_st (fun _ k => XS.aloadN X0.here hx rfl (hb hby own_d5_3) rfl rfl k) ?_
  refine own_st (fun _ k => XS.iconst X0.here hx rfl (hb hby own_d5_4) k) ?_
  refine own_st (fun _ k => XS.iloadN X0.here hx rfl (hb hby own_d5_5) rfl k) ?_
  show own_Go _ _ _ _ T0 (mkF m 6 #[.val (.ref a1), .val (.ref a2), .val (.int (2 : Int32)), .val (.int (0 : Int32))] [(.int (2 : Int32)), (.int (0 : Int32)), (.ref a2), (.int o2)])
  refine own_st (fun _ k => XS.iloadN X0.here hx rfl (hb hby own_d5_6) rfl k) ?_
  obtain ⟨v1, T1, L1, hQ1, X1, st1⟩ := own_callS X0 hx hZ (y := (⟨"com/example/sheaf/sheaf/CountedKeysMovePinLaw", "intAfter", "([IIII)I"⟩ : MethodName)) hown (own_w45 hw) (own_w46 hw) (own_w43 hw) (own_w47 hw) (by decide) (own_iaE l hw [] a2 (0 : Int32) (2 : Int32) (0 : Int32) o2 k2 [(.int o0), (.int o1), (.int o2), (.int o3)] h0 n0 (Nat.le_trans Z0 O0.1) rfl (by decide) rfl (V2.ext O0)) e0 (g := (mkF m 7 #[.val (.ref a1), .val (.ref a2), .val (.int (2 : Int32)), .val (.int (0 : Int32))] [(.int (0 : Int32)), (.int (2 : Int32)), (.int (0 : Int32)), (.ref a2), (.int o2)])) rfl (by rw [hml]; rfl) (argsL := [(.ref a2), (.int (0 : Int32)), (.int (2 : Int32)), (.int (0 : Int32))]) (rest := [(.int o2)]) (lenOf own_pd1 rfl) rfl rfl (W := 1) (Nat.le_of_eq rfl) (hb hby own_d5_7) (by decide) (by decide) (by decide) (by decide)
  obtain ⟨rfl, N1, e1⟩ := hQ1
  have N1' := Fr.app N0 N1
  refine own_st st1 ?_
  refine own_st (fun _ k => XS.icmpNo X1.here hx rfl (hb hby own_d5_10) rfl (teq (rfl : o2 = o2)).2 k) ?_
  refine own_st (fun _ k => XS.aloadN X1.here hx rfl (hb hby own_d5_13) rfl rfl k) ?_
  refine own_st (fun _ k => XS.iconst X1.here hx rfl (hb hby own_d5_14) k) ?_
  refine own_st (own_ldI X1 hx hZ e1 (V1.ext O0) (j := (1 : Int32)) (by decide) (v := (.int o1)) rfl (g := (mkF m 15 #[.val (.ref a1), .val (.ref a2), .val (.int (2 : Int32)), .val (.int (0 : Int32))] [(.int (1 : Int32)), (.ref a1)])) rfl rfl (hb hby own_d5_15)) ?_
  show own_Go _ _ _ _ T1 (mkF m 16 #[.val (.ref a1), .val (.ref a2), .val (.int (2 : Int32)), .val (.int (0 : Int32))] [(.int o1)])
  refine own_st (fun _ k => XS.aloadN X1.here hx rfl (hb hby own_d5_16) rfl rfl k) ?_
  refine own_st (fun _ k => XS.iconst X1.here hx rfl (hb hby own_d5_17) k) ?_
  refine own_st (fun _ k => XS.iloadN X1.here hx rfl (hb hby own_d5_18) rfl k) ?_
  refine own_st (fun _ k => XS.iloadN X1.here hx rfl (hb hby own_d5_19) rfl k) ?_
  obtain ⟨v2, T2, L2, hQ2, X2, st2⟩ := own_callS X1 hx hZ (y := (⟨"com/example/sheaf/sheaf/CountedKeysMovePinLaw", "intAfter", "([IIII)I"⟩ : MethodName)) hown (own_w45 hw) (own_w46 hw) (own_w43 hw) (own_w47 hw) (by decide) (own_iaN l hw [] a2 (1 : Int32) (2 : Int32) (0 : Int32) o1 k2 [(.int o0), (.int o1), (.int o2), (.int o3)] h0 n0 (Nat.le_trans Z0 O0.1) (by decide) (by decide) rfl (V2.ext O0)) e1 (g := (mkF m 20 #[.val (.ref a1), .val (.ref a2), .val (.int (2 : Int32)), .val (.int (0 : Int32))] [(.int (0 : Int32)), (.int (2 : Int32)), (.int (1 : Int32)), (.ref a2), (.int o1)])) rfl (by rw [hml]; rfl) (argsL := [(.ref a2), (.int (1 : Int32)), (.int (2 : Int32)), (.int (0 : Int32))]) (rest := [(.int o1)]) (lenOf own_pd1 rfl) rfl rfl (W := 1) (Nat.le_of_eq rfl) (hb hby own_d5_20) (by decide) (by decide) (by decide) (by decide)
  obtain ⟨rfl, N2, e2⟩ := hQ2
  have N2' := Fr.app N1' N2
  refine own_st st2 ?_
  refine own_st (fun _ k => XS.icmpNo X2.here hx rfl (hb hby own_d5_23) rfl (teq (rfl : o1 = o1)).2 k) ?_
  show own_Go _ _ _ _ T2 (mkF m 26 #[.val (.ref a1), .val (.ref a2), .val (.int (2 : Int32)), .val (.int (0 : Int32))] [])
  refine own_st (fun _ k => XS.aloadN X2.here hx rfl (hb hby own_d5_26) rfl rfl k) ?_
  refine own_st (fun _ k => XS.iconst X2.here hx rfl (hb hby own_d5_27) k) ?_
  refine own_st (own_ldI X2 hx hZ e2 (V1.ext O0) (j := (2 : Int32)) (by decide) (v := (.int o2)) rfl (g := (mkF m 28 #[.val (.ref a1), .val (.ref a2), .val (.int (2 : Int32)), .val (.int (0 : Int32))] [(.int (2 : Int32)), (.ref a1)])) rfl rfl (hb hby own_d5_28)) ?_
  refine own_st (fun _ k => XS.aloadN X2.here hx rfl (hb hby own_d5_29) rfl rfl k) ?_
  refine own_st (fun _ k => XS.iconst X2.here hx rfl (hb hby own_d5_30) k) ?_
  refine own_st (fun _ k => XS.iloadN X2.here hx rfl (hb hby own_d5_31) rfl k) ?_
  show own_Go _ _ _ _ T2 (mkF m 32 #[.val (.ref a1), .val (.ref a2), .val (.int (2 : Int32)), .val (.int (0 : Int32))] [(.int (2 : Int32)), (.int (2 : Int32)), (.ref a2), (.int o2)])
  refine own_st (fun _ k => XS.iloadN X2.here hx rfl (hb hby own_d5_32) rfl k) ?_
  obtain ⟨v3, T3, L3, hQ3, X3, st3⟩ := own_callS X2 hx hZ (y := (⟨"com/example/sheaf/sheaf/CountedKeysMovePinLaw", "intAfter", "([IIII)I"⟩ : MethodName)) hown (own_w45 hw) (own_w46 hw) (own_w43 hw) (own_w47 hw) (by decide) (own_iaN l hw [] a2 (2 : Int32) (2 : Int32) (0 : Int32) o2 k2 [(.int o0), (.int o1), (.int o2), (.int o3)] h0 n0 (Nat.le_trans Z0 O0.1) (by decide) (by decide) rfl (V2.ext O0)) e2 (g := (mkF m 33 #[.val (.ref a1), .val (.ref a2), .val (.int (2 : Int32)), .val (.int (0 : Int32))] [(.int (0 : Int32)), (.int (2 : Int32)), (.int (2 : Int32)), (.ref a2), (.int o2)])) rfl (by rw [hml]; rfl) (argsL := [(.ref a2), (.int (2 : Int32)), (.int (2 : Int32)), (.int (0 : Int32))]) (rest := [(.int o2)]) (lenOf own_pd1 rfl) rfl rfl (W := 1) (Nat.le_of_eq rfl) (hb hby own_d5_33) (by decide) (by decide) (by decide) (by decide)
  obtain ⟨rfl, N3, e3⟩ := hQ3
  have N3' := Fr.app N2' N3
  refine own_st st3 ?_
  refine own_st (fun _ k => XS.icmpNo X3.here hx rfl (hb hby own_d5_36) rfl (teq (rfl : o2 = o2)).2 k) ?_
  refine own_st (fun _ k => XS.aloadN X3.here hx rfl (hb hby own_d5_39) rfl rfl k) ?_
  refine own_st (fun _ k => XS.iconst X3.here hx rfl (hb hby own_d5_40) k) ?_
  refine own_st (own_ldI X3 hx hZ e3 (V1.ext O0) (j := (3 : Int32)) (by decide) (v := (.int o3)) rfl (g := (mkF m 41 #[.val (.ref a1), .val (.ref a2), .val (.int (2 : Int32)), .val (.int (0 : Int32))] [(.int (3 : Int32)), (.ref a1)])) rfl rfl (hb hby own_d5_41)) ?_
  show own_Go _ _ _ _ T3 (mkF m 42 #[.val (.ref a1), .val (.ref a2), .val (.int (2 : Int32)), .val (.int (0 : Int32))] [(.int o3)])
  refine own_st (fun _ k => XS.aloadN X3.here hx rfl (hb hby own_d5_42) rfl rfl k) ?_
  refine own_st (fun _ k => XS.iconst X3.here hx rfl (hb hby own_d5_43) k) ?_
  refine own_st (fun _ k => XS.iloadN X3.here hx rfl (hb hby own_d5_44) rfl k) ?_
  refine own_st (fun _ k => XS.iloadN X3.here hx rfl (hb hby own_d5_45) rfl k) ?_
  obtain ⟨v4, T4, L4, hQ4, X4, st4⟩ := own_callS X3 hx hZ (y := (⟨"com/example/sheaf/sheaf/CountedKeysMovePinLaw", "intAfter", "([IIII)I"⟩ : MethodName)) hown (own_w45 hw) (own_w46 hw) (own_w43 hw) (own_w47 hw) (by decide) (own_iaN l hw [] a2 (3 : Int32) (2 : Int32) (0 : Int32) o3 k2 [(.int o0), (.int o1), (.int o2), (.int o3)] h0 n0 (Nat.le_trans Z0 O0.1) (by decide) (by decide) rfl (V2.ext O0)) e3 (g := (mkF m 46 #[.val (.ref a1), .val (.ref a2), .val (.int (2 : Int32)), .val (.int (0 : Int32))] [(.int (0 : Int32)), (.int (2 : Int32)), (.int (3 : Int32)), (.ref a2), (.int o3)])) rfl (by rw [hml]; rfl) (argsL := [(.ref a2), (.int (3 : Int32)), (.int (2 : Int32)), (.int (0 : Int32))]) (rest := [(.int o3)]) (lenOf own_pd1 rfl) rfl rfl (W := 1) (Nat.le_of_eq rfl) (hb hby own_d5_46) (by decide) (by decide) (by decide) (by decide)
  obtain ⟨rfl, N4, e4⟩ := hQ4
  have N4' := Fr.app N3' N4
  refine own_st st4 ?_
  refine own_st (fun _ k => XS.icmpNo X4.here hx rfl (hb hby own_d5_49) rfl (teq (rfl : o3 = o3)).2 k) ?_
  show own_Go _ _ _ _ T4 (mkF m 52 #[.val (.ref a1), .val (.ref a2), .val (.int (2 : Int32)), .val (.int (0 : Int32))] [])
  refine own_st (fun _ k => XS.iconst X4.here hx rfl (hb hby own_d5_52) k) ?_
  refine own_st (fun _ k => XS.goto X4.here hx rfl (pc0 := 53) (pc' := 57) rfl (hb hby own_d5_53) (by decide) (by decide) k) ?_
  exact own_retN X4 hx hret (by simp) hlk (hb hby own_d5_57) ⟨rfl, N4', e4⟩ (by decide) (by decide)
def own_rm20_Q (Z : State) (a1 a2 : Addr) (f t : Int32) (k1 k2 : ClassId) (b0 b1 b2 b3 : Addr) (h0 : Heap) (n0 : Nat) (v : Option Value) (h : Heap) (L : List Loc) : Prop := v = some (.int 1) ∧ Fr n0 L ∧ h = h0
set_option maxRecDepth 65536 in
set_option maxHeartbeats 40000000 in
theorem own_rm20 (l : Launch) {Z : State} {a0 : Array Value} (hw : own_W Z a0) (ws : List Jvm.Cond) (a1 a2 : Addr) (f t : Int32) (k1 k2 : ClassId) (b0 b1 b2 b3 : Addr) (h0 : Heap) (n0 : Nat) (Z0 : n0 ≤ h0.size) (hf : f = (2 : Int32)) (ht : t = (0 : Int32)) (V1 : Arv Z h0 a1 k1 (.object "java/lang/Object") 4 [(.ref b2), (.ref b1), .null, (.ref b3)] .null) (V2 : Arv Z h0 a2 k2 (.object "java/lang/Object") 4 [.null, (.ref b1), (.ref b2), (.ref b3)] .null) :
    MetFree l (⟨"com/example/sheaf/sheaf/CountedKeysMovePinLaw", "refsMoved", "([Ljava/lang/Object;[Ljava/lang/Object;II)Z"⟩ : MethodName) (head1 (Jvm.Cond.code (⟨"com/example/sheaf/sheaf/CountedKeysMovePinLaw", "refsMoved", "([Ljava/lang/Object;[Ljava/lang/Object;II)Z"⟩ : MethodName) method_6_code 4 (some .boolean) :: ws) ({ frames := 1, cells := 0, slots := 0, locals := 16 } : Room)) (fun a U => a = #[(.ref a1), (.ref a2), (.int f), (.int t)] ∧ Z.Warmed39 U.vm ∧ U.heap = h0) (fun _ _ _ _ _ => True) (fun _ U o U' => ∃ v L, o = .returned v ∧ own_rm20_Q Z a1 a2 f t k1 k2 b0 b1 b2 b3 h0 n0 v U'.heap L ∧ FrameEnd U o U' L ({ frames := 1, cells := 0, slots := 0, locals := 16 } : Room).cells ({ frames := 1, cells := 0, slots := 0, locals := 16 } : Room).slots) := by
  refine own_enter (C := ({ frames := 1, cells := 0, slots := 0, locals := 16 } : Room).cells) (S := ({ frames := 1, cells := 0, slots := 0, locals := 16 } : Room).slots) (plainFor_of_name own_pn2) ?_
  intro p e s m below meth c T0 X0 I e0
  obtain ⟨hx, hby, hml, hown, hnm, hret, hlk, hZ⟩ := I
  have N0 := Fr.nil n0
  have O0 := own_extr h0
  refine own_cast (own_ef7 m a1 a2 f t) ?_
  show own_Go _ _ _ _ T0 (mkF m 0 #[.val (.ref a1), .val (.ref a2), .val (.int f), .val (.int t)] [])
  rw [hf, ht]
  show own_Go _ _ _ _ T0 (mkF m 0 #[.val (.ref a1), .val (.ref a2), .val (.int (2 : Int32)), .val (.int (0 : Int32))] [])
  refine own_st (fun _ k => XS.aloadN X0.here hx rfl (hb hby own_d7_0) rfl rfl k) ?_
  refine own_st (fun _ k => XS.iconst X0.here hx rfl (hb hby own_d7_1) k) ?_
  refine own_st (own_ldR X0 hx hZ e0 (V1.ext O0) rfl (j := (0 : Int32)) (by decide) (v := (.ref b2)) rfl (g := (mkF m 2 #[.val (.ref a1), .val (.ref a2), .val (.int (2 : Int32)), .val (.int (0 : Int32))] [(.int (0 : Int32)), (.ref a1)])) rfl rfl (hb hby own_d7_2)) ?_
  refine own_st (fun _ k => XS.aloadN X0.here hx rfl (hb hby own_d7_3) rfl rfl k) ?_
  refine own_st (fun _ k => XS.iconst X0.here hx rfl (hb hby own_d7_4) k) ?_
  refine own_st (fun _ k => XS.iloadN X0.here hx rfl (hb hby own_d7_5) rfl k) ?_
  show own_Go _ _ _ _ T0 (mkF m 6 #[.val (.ref a1), .val (.ref a2), .val (.int (2 : Int32)), .val (.int (0 : Int32))] [(.int (2 : Int32)), (.int (0 : Int32)), (.ref a2), (.ref b2)])
  refine own_st (fun _ k => XS.iloadN X0.here hx rfl (hb hby own_d7_6) rfl k) ?_
  obtain ⟨v1, T1, L1, hQ1, X1, st1⟩ := own_callS X0 hx hZ (y := (⟨"com/example/sheaf/sheaf/CountedKeysMovePinLaw", "refAfter", "([Ljava/lang/Object;III)Ljava/lang/Object;"⟩ : MethodName)) hown (own_w52 hw) (own_w53 hw) (own_w43 hw) (own_w54 hw) (by decide) (own_raE l hw [] a2 (0 : Int32) (2 : Int32) (0 : Int32) (.ref b2) k2 [.null, (.ref b1), (.ref b2), (.ref b3)] h0 n0 (Nat.le_trans Z0 O0.1) rfl (by decide) rfl rfl (V2.ext O0)) e0 (g := (mkF m 7 #[.val (.ref a1), .val (.ref a2), .val (.int (2 : Int32)), .val (.int (0 : Int32))] [(.int (0 : Int32)), (.int (2 : Int32)), (.int (0 : Int32)), (.ref a2), (.ref b2)])) rfl (by rw [hml]; rfl) (argsL := [(.ref a2), (.int (0 : Int32)), (.int (2 : Int32)), (.int (0 : Int32))]) (rest := [(.ref b2)]) (lenOf own_pd2 rfl) rfl rfl (W := 1) (Nat.le_of_eq rfl) (hb hby own_d7_7) (by decide) (by decide) (by decide) (by decide)
  obtain ⟨rfl, N1, e1⟩ := hQ1
  have N1' := Fr.app N0 N1
  refine own_st st1 ?_
  refine own_st (fun _ k => Jvm.RoadKit.acmp (g := (mkF m 10 #[.val (.ref a1), .val (.ref a2), .val (.int (2 : Int32)), .val (.int (0 : Int32))] [(.ref b2), (.ref b2)])) X1 hx rfl rfl rfl (pc0 := 10) (pc' := 13) (same := true) rfl (hb hby own_d7_10) rfl (decide_eq_true rfl) (by decide) (by decide) k) ?_
  refine own_st (fun _ k => XS.aloadN X1.here hx rfl (hb hby own_d7_13) rfl rfl k) ?_
  refine own_st (fun _ k => XS.iconst X1.here hx rfl (hb hby own_d7_14) k) ?_
  refine own_st (own_ldR X1 hx hZ e1 (V1.ext O0) rfl (j := (1 : Int32)) (by decide) (v := (.ref b1)) rfl (g := (mkF m 15 #[.val (.ref a1), .val (.ref a2), .val (.int (2 : Int32)), .val (.int (0 : Int32))] [(.int (1 : Int32)), (.ref a1)])) rfl rfl (hb hby own_d7_15)) ?_
  show own_Go _ _ _ _ T1 (mkF m 16 #[.val (.ref a1), .val (.ref a2), .val (.int (2 : Int32)), .val (.int (0 : Int32))] [(.ref b1)])
  refine own_st (fun _ k => XS.aloadN X1.here hx rfl (hb hby own_d7_16) rfl rfl k) ?_
  refine own_st (fun _ k => XS.iconst X1.here hx rfl (hb hby own_d7_17) k) ?_
  refine own_st (fun _ k => XS.iloadN X1.here hx rfl (hb hby own_d7_18) rfl k) ?_
  refine own_st (fun _ k => XS.iloadN X1.here hx rfl (hb hby own_d7_19) rfl k) ?_
  obtain ⟨v2, T2, L2, hQ2, X2, st2⟩ := own_callS X1 hx hZ (y := (⟨"com/example/sheaf/sheaf/CountedKeysMovePinLaw", "refAfter", "([Ljava/lang/Object;III)Ljava/lang/Object;"⟩ : MethodName)) hown (own_w52 hw) (own_w53 hw) (own_w43 hw) (own_w54 hw) (by decide) (own_raN l hw [] a2 (1 : Int32) (2 : Int32) (0 : Int32) (.ref b1) k2 [.null, (.ref b1), (.ref b2), (.ref b3)] h0 n0 (Nat.le_trans Z0 O0.1) (by decide) (by decide) (by decide) rfl rfl (V2.ext O0)) e1 (g := (mkF m 20 #[.val (.ref a1), .val (.ref a2), .val (.int (2 : Int32)), .val (.int (0 : Int32))] [(.int (0 : Int32)), (.int (2 : Int32)), (.int (1 : Int32)), (.ref a2), (.ref b1)])) rfl (by rw [hml]; rfl) (argsL := [(.ref a2), (.int (1 : Int32)), (.int (2 : Int32)), (.int (0 : Int32))]) (rest := [(.ref b1)]) (lenOf own_pd2 rfl) rfl rfl (W := 1) (Nat.le_of_eq rfl) (hb hby own_d7_20) (by decide) (by decide) (by decide) (by decide)
  obtain ⟨rfl, N2, e2⟩ := hQ2
  have N2' := Fr.app N1' N2
  refine own_st st2 ?_
  refine own_st (fun _ k => Jvm.RoadKit.acmp (g := (mkF m 23 #[.val (.ref a1), .val (.ref a2), .val (.int (2 : Int32)), .val (.int (0 : Int32))] [(.ref b1), (.ref b1)])) X2 hx rfl rfl rfl (pc0 := 23) (pc' := 26) (same := true) rfl (hb hby own_d7_23) rfl (decide_eq_true rfl) (by decide) (by decide) k) ?_
  show own_Go _ _ _ _ T2 (mkF m 26 #[.val (.ref a1), .val (.ref a2), .val (.int (2 : Int32)), .val (.int (0 : Int32))] [])
  refine own_st (fun _ k => XS.aloadN X2.here hx rfl (hb hby own_d7_26) rfl rfl k) ?_
  refine own_st (fun _ k => XS.iconst X2.here hx rfl (hb hby own_d7_27) k) ?_
  refine own_st (own_ldR X2 hx hZ e2 (V1.ext O0) rfl (j := (2 : Int32)) (by decide) (v := .null) rfl (g := (mkF m 28 #[.val (.ref a1), .val (.ref a2), .val (.int (2 : Int32)), .val (.int (0 : Int32))] [(.int (2 : Int32)), (.ref a1)])) rfl rfl (hb hby own_d7_28)) ?_
  refine own_st (fun _ k => XS.aloadN X2.here hx rfl (hb hby own_d7_29) rfl rfl k) ?_
  refine own_st (fun _ k => XS.iconst X2.here hx rfl (hb hby own_d7_30) k) ?_
  refine own_st (fun _ k => XS.iloadN X2.here hx rfl (hb hby own_d7_31) rfl k) ?_
  show own_Go _ _ _ _ T2 (mkF m 32 #[.val (.ref a1), .val (.ref a2), .val (.int (2 : Int32)), .val (.int (0 : Int32))] [(.int (2 : Int32)), (.int (2 : Int32)), (.ref a2), .null])
  refine own_st (fun _ k => XS.iloadN X2.here hx rfl (hb hby own_d7_32) rfl k) ?_
  obtain ⟨v3, T3, L3, hQ3, X3, st3⟩ := own_callS X2 hx hZ (y := (⟨"com/example/sheaf/sheaf/CountedKeysMovePinLaw", "refAfter", "([Ljava/lang/Object;III)Ljava/lang/Object;"⟩ : MethodName)) hown (own_w52 hw) (own_w53 hw) (own_w43 hw) (own_w54 hw) (by decide) (own_raF l hw [] a2 (2 : Int32) (2 : Int32) (0 : Int32) .null k2 [.null, (.ref b1), (.ref b2), (.ref b3)] h0 n0 (Nat.le_trans Z0 O0.1) (by decide) rfl (V2.ext O0)) e2 (g := (mkF m 33 #[.val (.ref a1), .val (.ref a2), .val (.int (2 : Int32)), .val (.int (0 : Int32))] [(.int (0 : Int32)), (.int (2 : Int32)), (.int (2 : Int32)), (.ref a2), .null])) rfl (by rw [hml]; rfl) (argsL := [(.ref a2), (.int (2 : Int32)), (.int (2 : Int32)), (.int (0 : Int32))]) (rest := [.null]) (lenOf own_pd2 rfl) rfl rfl (W := 1) (Nat.le_of_eq rfl) (hb hby own_d7_33) (by decide) (by decide) (by decide) (by decide)
  obtain ⟨rfl, N3, e3⟩ := hQ3
  have N3' := Fr.app N2' N3
  refine own_st st3 ?_
  refine own_st (fun _ k => Jvm.RoadKit.acmp (g := (mkF m 36 #[.val (.ref a1), .val (.ref a2), .val (.int (2 : Int32)), .val (.int (0 : Int32))] [.null, .null])) X3 hx rfl rfl rfl (pc0 := 36) (pc' := 39) (same := true) rfl (hb hby own_d7_36) rfl (decide_eq_true rfl) (by decide) (by decide) k) ?_
  refine own_st (fun _ k => XS.aloadN X3.here hx rfl (hb hby own_d7_39) rfl rfl k) ?_
  refine own_st (fun _ k => XS.iconst X3.here hx rfl (hb hby own_d7_40) k) ?_
  refine own_st (own_ldR X3 hx hZ e3 (V1.ext O0) rfl (j := (3 : Int32)) (by decide) (v := (.ref b3)) rfl (g := (mkF m 41 #[.val (.ref a1), .val (.ref a2), .val (.int (2 : Int32)), .val (.int (0 : Int32))] [(.int (3 : Int32)), (.ref a1)])) rfl rfl (hb hby own_d7_41)) ?_
  show own_Go _ _ _ _ T3 (mkF m 42 #[.val (.ref a1), .val (.ref a2), .val (.int (2 : Int32)), .val (.int (0 : Int32))] [(.ref b3)])
  refine own_st (fun _ k => XS.aloadN X3.here hx rfl (hb hby own_d7_42) rfl rfl k) ?_
  refine own_st (fun _ k => XS.iconst X3.here hx rfl (hb hby own_d7_43) k) ?_
  refine own_st (fun _ k => XS.iloadN X3.here hx rfl (hb hby own_d7_44) rfl k) ?_
  refine own_st (fun _ k => XS.iloadN X3.here hx rfl (hb hby own_d7_45) rfl k) ?_
  obtain ⟨v4, T4, L4, hQ4, X4, st4⟩ := own_callS X3 hx hZ (y := (⟨"com/example/sheaf/sheaf/CountedKeysMovePinLaw", "refAfter", "([Ljava/lang/Object;III)Ljava/lang/Object;"⟩ : MethodName)) hown (own_w52 hw) (own_w53 hw) (own_w43 hw) (own_w54 hw) (by decide) (own_raN l hw [] a2 (3 : Int32) (2 : Int32) (0 : Int32) (.ref b3) k2 [.null, (.ref b1), (.ref b2), (.ref b3)] h0 n0 (Nat.le_trans Z0 O0.1) (by decide) (by decide) (by decide) rfl rfl (V2.ext O0)) e3 (g := (mkF m 46 #[.val (.ref a1), .val (.ref a2), .val (.int (2 : Int32)), .val (.int (0 : Int32))] [(.int (0 : Int32)), (.int (2 : Int32)), (.int (3 : Int32)), (.ref a2), (.ref b3)])) rfl (by rw [hml]; rfl) (argsL := [(.ref a2), (.int (3 : Int32)), (.int (2 : Int32)), (.int (0 : Int32))]) (rest := [(.ref b3)]) (lenOf own_pd2 rfl) rfl rfl (W := 1) (Nat.le_of_eq rfl) (hb hby own_d7_46) (by decide) (by decide) (by decide) (by decide)
  obtain ⟨rfl, N4, e4⟩ := hQ4
  have N4' := Fr.app N3' N4
  refine own_st st4 ?_
  refine own_st (fun _ k => Jvm.RoadKit.acmp (g := (mkF m 49 #[.val (.ref a1), .val (.ref a2), .val (.int (2 : Int32)), .val (.int (0 : Int32))] [(.ref b3), (.ref b3)])) X4 hx rfl rfl rfl (pc0 := 49) (pc' := 52) (same := true) rfl (hb hby own_d7_49) rfl (decide_eq_true rfl) (by decide) (by decide) k) ?_
  show own_Go _ _ _ _ T4 (mkF m 52 #[.val (.ref a1), .val (.ref a2), .val (.int (2 : Int32)), .val (.int (0 : Int32))] [])
  refine own_st (fun _ k => XS.iconst X4.here hx rfl (hb hby own_d7_52) k) ?_
  refine own_st (fun _ k => XS.goto X4.here hx rfl (pc0 := 53) (pc' := 57) rfl (hb hby own_d7_53) (by decide) (by decide) k) ?_
  exact own_retN X4 hx hret (by simp) hlk (hb hby own_d7_57) ⟨rfl, N4', e4⟩ (by decide) (by decide)
def own_im21_Q (Z : State) (a1 a2 : Addr) (f t : Int32) (k1 k2 : ClassId) (o0 o1 o2 o3 : Int32) (h0 : Heap) (n0 : Nat) (v : Option Value) (h : Heap) (L : List Loc) : Prop := v = some (.int 1) ∧ Fr n0 L ∧ h = h0
set_option maxRecDepth 65536 in
set_option maxHeartbeats 40000000 in
theorem own_im21 (l : Launch) {Z : State} {a0 : Array Value} (hw : own_W Z a0) (ws : List Jvm.Cond) (a1 a2 : Addr) (f t : Int32) (k1 k2 : ClassId) (o0 o1 o2 o3 : Int32) (h0 : Heap) (n0 : Nat) (Z0 : n0 ≤ h0.size) (hf : f = (2 : Int32)) (ht : t = (1 : Int32)) (V1 : Arv Z h0 a1 k1 .int 4 [(.int o0), (.int o2), (.int o2), (.int o3)] (.int (0 : Int32))) (V2 : Arv Z h0 a2 k2 .int 4 [(.int o0), (.int o1), (.int o2), (.int o3)] (.int (0 : Int32))) :
    MetFree l (⟨"com/example/sheaf/sheaf/CountedKeysMovePinLaw", "intsMoved", "([I[III)Z"⟩ : MethodName) (head1 (Jvm.Cond.code (⟨"com/example/sheaf/sheaf/CountedKeysMovePinLaw", "intsMoved", "([I[III)Z"⟩ : MethodName) method_4_code 4 (some .boolean) :: ws) ({ frames := 1, cells := 0, slots := 0, locals := 16 } : Room)) (fun a U => a = #[(.ref a1), (.ref a2), (.int f), (.int t)] ∧ Z.Warmed39 U.vm ∧ U.heap = h0) (fun _ _ _ _ _ => True) (fun _ U o U' => ∃ v L, o = .returned v ∧ own_im21_Q Z a1 a2 f t k1 k2 o0 o1 o2 o3 h0 n0 v U'.heap L ∧ FrameEnd U o U' L ({ frames := 1, cells := 0, slots := 0, locals := 16 } : Room).cells ({ frames := 1, cells := 0, slots := 0, locals := 16 } : Room).slots) := by
  refine own_enter (C := ({ frames := 1, cells := 0, slots := 0, locals := 16 } : Room).cells) (S := ({ frames := 1, cells := 0, slots := 0, locals := 16 } : Room).slots) (plainFor_of_name own_pn2) ?_
  intro p e s m below meth c T0 X0 I e0
  obtain ⟨hx, hby, hml, hown, hnm, hret, hlk, hZ⟩ := I
  have N0 := Fr.nil n0
  have O0 := own_extr h0
  refine own_cast (own_ef5 m a1 a2 f t) ?_
  show own_Go _ _ _ _ T0 (mkF m 0 #[.val (.ref a1), .val (.ref a2), .val (.int f), .val (.int t)] [])
  rw [hf, ht]
  show own_Go _ _ _ _ T0 (mkF m 0 #[.val (.ref a1), .val (.ref a2), .val (.int (2 : Int32)), .val (.int (1 : Int32))] [])
  refine own_st (fun _ k => XS.aloadN X0.here hx rfl (hb hby own_d5_0) rfl rfl k) ?_
  refine own_st (fun _ k => XS.iconst X0.here hx rfl (hb hby own_d5_1) k) ?_
  refine own_st (own_ldI X0 hx hZ e0 (V1.ext O0) (j := (0 : Int32)) (by decide) (v := (.int o0)) rfl (g := (mkF m 2 #[.val (.ref a1), .val (.ref a2), .val (.int (2 : Int32)), .val (.int (1 : Int32))] [(.int (0 : Int32)), (.ref a1)])) rfl rfl (hb hby own_d5_2)) ?_
  refine own_st (fun _ k => XS.aloadN X0.here hx rfl (hb hby own_d5_3) rfl rfl k) ?_
  refine own_st (fun _ k => XS.iconst X0.here hx rfl (hb hby own_d5_4) k) ?_
  refine own_st (fun _ k => XS.iloadN X0.here hx rfl (hb hby own_d5_5) rfl k) ?_
  show own_Go _ _ _ _ T0 (mkF m 6 #[.val (.ref a1), .val (.ref a2), .val (.int (2 : Int32)), .val (.int (1 : Int32))] [(.int (2 : Int32)), (.int (0 : Int32)), (.ref a2), (.int o0)])
  refine own_st (fun _ k => XS.iloadN X0.here hx rfl (hb hby own_d5_6) rfl k) ?_
  obtain ⟨v1, T1, L1, hQ1, X1, st1⟩ := own_callS X0 hx hZ (y := (⟨"com/example/sheaf/sheaf/CountedKeysMovePinLaw", "intAfter", "([IIII)I"⟩ : MethodName)) hown (own_w45 hw) (own_w46 hw) (own_w43 hw) (own_w47 hw) (by decide) (own_iaN l hw [] a2 (0 : Int32) (2 : Int32) (1 : Int32) o0 k2 [(.int o0), (.int o1), (.int o2), (.int o3)] h0 n0 (Nat.le_trans Z0 O0.1) (by decide) (by decide) rfl (V2.ext O0)) e0 (g := (mkF m 7 #[.val (.ref a1), .val (.ref a2), .val (.int (2 : Int32)), .val (.int (1 : Int32))] [(.int (1 : Int32)), (.int (2 : Int32)), (.int (0 : Int32)), (.ref a2), (.int o0)])) rfl (by rw [hml]; rfl) (argsL := [(.ref a2), (.int (0 : Int32)), (.int (2 : Int32)), (.int (1 : Int32))]) (rest := [(.int o0)]) (lenOf own_pd1 rfl) rfl rfl (W := 1) (Nat.le_of_eq rfl) (hb hby own_d5_7) (by decide) (by decide) (by decide) (by decide)
  obtain ⟨rfl, N1, e1⟩ := hQ1
  have N1' := Fr.app N0 N1
  refine own_st st1 ?_
  refine own_st (fun _ k => XS.icmpNo X1.here hx rfl (hb hby own_d5_10) rfl (teq (rfl : o0 = o0)).2 k) ?_
  refine own_st (fun _ k => XS.aloadN X1.here hx rfl (hb hby own_d5_13) rfl rfl k) ?_
  refine own_st (fun _ k => XS.iconst X1.here hx rfl (hb hby own_d5_14) k) ?_
  refine own_st (own_ldI X1 hx hZ e1 (V1.ext O0) (j := (1 : Int32)) (by decide) (v := (.int o2)) rfl (g := (mkF m 15 #[.val (.ref a1), .val (.ref a2), .val (.int (2 : Int32)), .val (.int (1 : Int32))] [(.int (1 : Int32)), (.ref a1)])) rfl rfl (hb hby own_d5_15)) ?_
  show own_Go _ _ _ _ T1 (mkF m 16 #[.val (.ref a1), .val (.ref a2), .val (.int (2 : Int32)), .val (.int (1 : Int32))] [(.int o2)])
  refine own_st (fun _ k => XS.aloadN X1.here hx rfl (hb hby own_d5_16) rfl rfl k) ?_
  refine own_st (fun _ k => XS.iconst X1.here hx rfl (hb hby own_d5_17) k) ?_
  refine own_st (fun _ k => XS.iloadN X1.here hx rfl (hb hby own_d5_18) rfl k) ?_
  refine own_st (fun _ k => XS.iloadN X1.here hx rfl (hb hby own_d5_19) rfl k) ?_
  obtain ⟨v2, T2, L2, hQ2, X2, st2⟩ := own_callS X1 hx hZ (y := (⟨"com/example/sheaf/sheaf/CountedKeysMovePinLaw", "intAfter", "([IIII)I"⟩ : MethodName)) hown (own_w45 hw) (own_w46 hw) (own_w43 hw) (own_w47 hw) (by decide) (own_iaE l hw [] a2 (1 : Int32) (2 : Int32) (1 : Int32) o2 k2 [(.int o0), (.int o1), (.int o2), (.int o3)] h0 n0 (Nat.le_trans Z0 O0.1) rfl (by decide) rfl (V2.ext O0)) e1 (g := (mkF m 20 #[.val (.ref a1), .val (.ref a2), .val (.int (2 : Int32)), .val (.int (1 : Int32))] [(.int (1 : Int32)), (.int (2 : Int32)), (.int (1 : Int32)), (.ref a2), (.int o2)])) rfl (by rw [hml]; rfl) (argsL := [(.ref a2), (.int (1 : Int32)), (.int (2 : Int32)), (.int (1 : Int32))]) (rest := [(.int o2)]) (lenOf own_pd1 rfl) rfl rfl (W := 1) (Nat.le_of_eq rfl) (hb hby own_d5_20) (by decide) (by decide) (by decide) (by decide)
  obtain ⟨rfl, N2, e2⟩ := hQ2
  have N2' := Fr.app N1' N2
  refine own_st st2 ?_
  refine own_st (fun _ k => XS.icmpNo X2.here hx rfl (hb hby own_d5_23) rfl (teq (rfl : o2 = o2)).2 k) ?_
  show own_Go _ _ _ _ T2 (mkF m 26 #[.val (.ref a1), .val (.ref a2), .val (.int (2 : Int32)), .val (.int (1 : Int32))] [])
  refine own_st (fun _ k => XS.aloadN X2.here hx rfl (hb hby own_d5_26) rfl rfl k) ?_
  refine own_st (fun _ k => XS.iconst X2.here hx rfl (hb hby own_d5_27) k) ?_
  refine own_st (own_ldI X2 hx hZ e2 (V1.ext O0) (j := (2 : Int32)) (by decide) (v := (.int o2)) rfl (g := (mkF m 28 #[.val (.ref a1), .val (.ref a2), .val (.int (2 : Int32)), .val (.int (1 : Int32))] [(.int (2 : Int32)), (.ref a1)])) rfl rfl (hb hby own_d5_28)) ?_
  refine own_st (fun _ k => XS.aloadN X2.here hx rfl (hb hby own_d5_29) rfl rfl k) ?_
  refine own_st (fun _ k => XS.iconst X2.here hx rfl (hb hby own_d5_30) k) ?_
  refine own_st (fun _ k => XS.iloadN X2.here hx rfl (hb hby own_d5_31) rfl k) ?_
  show own_Go _ _ _ _ T2 (mkF m 32 #[.val (.ref a1), .val (.ref a2), .val (.int (2 : Int32)), .val (.int (1 : Int32))] [(.int (2 : Int32)), (.int (2 : Int32)), (.ref a2), (.int o2)])
  refine own_st (fun _ k => XS.iloadN X2.here hx rfl (hb hby own_d5_32) rfl k) ?_
  obtain ⟨v3, T3, L3, hQ3, X3, st3⟩ := own_callS X2 hx hZ (y := (⟨"com/example/sheaf/sheaf/CountedKeysMovePinLaw", "intAfter", "([IIII)I"⟩ : MethodName)) hown (own_w45 hw) (own_w46 hw) (own_w43 hw) (own_w47 hw) (by decide) (own_iaN l hw [] a2 (2 : Int32) (2 : Int32) (1 : Int32) o2 k2 [(.int o0), (.int o1), (.int o2), (.int o3)] h0 n0 (Nat.le_trans Z0 O0.1) (by decide) (by decide) rfl (V2.ext O0)) e2 (g := (mkF m 33 #[.val (.ref a1), .val (.ref a2), .val (.int (2 : Int32)), .val (.int (1 : Int32))] [(.int (1 : Int32)), (.int (2 : Int32)), (.int (2 : Int32)), (.ref a2), (.int o2)])) rfl (by rw [hml]; rfl) (argsL := [(.ref a2), (.int (2 : Int32)), (.int (2 : Int32)), (.int (1 : Int32))]) (rest := [(.int o2)]) (lenOf own_pd1 rfl) rfl rfl (W := 1) (Nat.le_of_eq rfl) (hb hby own_d5_33) (by decide) (by decide) (by decide) (by decide)
  obtain ⟨rfl, N3, e3⟩ := hQ3
  have N3' := Fr.app N2' N3
  refine own_st st3 ?_
  refine own_st (fun _ k => XS.icmpNo X3.here hx rfl (hb hby own_d5_36) rfl (teq (rfl : o2 = o2)).2 k) ?_
  refine own_st (fun _ k => XS.aloadN X3.here hx rfl (hb hby own_d5_39) rfl rfl k) ?_
  refine own_st (fun _ k => XS.iconst X3.here hx rfl (hb hby own_d5_40) k) ?_
  refine own_st (own_ldI X3 hx hZ e3 (V1.ext O0) (j := (3 : Int32)) (by decide) (v := (.int o3)) rfl (g := (mkF m 41 #[.val (.ref a1), .val (.ref a2), .val (.int (2 : Int32)), .val (.int (1 : Int32))] [(.int (3 : Int32)), (.ref a1)])) rfl rfl (hb hby own_d5_41)) ?_
  show own_Go _ _ _ _ T3 (mkF m 42 #[.val (.ref a1), .val (.ref a2), .val (.int (2 : Int32)), .val (.int (1 : Int32))] [(.int o3)])
  refine own_st (fun _ k => XS.aloadN X3.here hx rfl (hb hby own_d5_42) rfl rfl k) ?_
  refine own_st (fun _ k => XS.iconst X3.here hx rfl (hb hby own_d5_43) k) ?_
  refine own_st (fun _ k => XS.iloadN X3.here hx rfl (hb hby own_d5_44) rfl k) ?_
  refine own_st (fun _ k => XS.iloadN X3.here hx rfl (hb hby own_d5_45) rfl k) ?_
  obtain ⟨v4, T4, L4, hQ4, X4, st4⟩ := own_callS X3 hx hZ (y := (⟨"com/example/sheaf/sheaf/CountedKeysMovePinLaw", "intAfter", "([IIII)I"⟩ : MethodName)) hown (own_w45 hw) (own_w46 hw) (own_w43 hw) (own_w47 hw) (by decide) (own_iaN l hw [] a2 (3 : Int32) (2 : Int32) (1 : Int32) o3 k2 [(.int o0), (.int o1), (.int o2), (.int o3)] h0 n0 (Nat.le_trans Z0 O0.1) (by decide) (by decide) rfl (V2.ext O0)) e3 (g := (mkF m 46 #[.val (.ref a1), .val (.ref a2), .val (.int (2 : Int32)), .val (.int (1 : Int32))] [(.int (1 : Int32)), (.int (2 : Int32)), (.int (3 : Int32)), (.ref a2), (.int o3)])) rfl (by rw [hml]; rfl) (argsL := [(.ref a2), (.int (3 : Int32)), (.int (2 : Int32)), (.int (1 : Int32))]) (rest := [(.int o3)]) (lenOf own_pd1 rfl) rfl rfl (W := 1) (Nat.le_of_eq rfl) (hb hby own_d5_46) (by decide) (by decide) (by decide) (by decide)
  obtain ⟨rfl, N4, e4⟩ := hQ4
  have N4' := Fr.app N3' N4
  refine own_st st4 ?_
  refine own_st (fun _ k => XS.icmpNo X4.here hx rfl (hb hby own_d5_49) rfl (teq (rfl : o3 = o3)).2 k) ?_
  show own_Go _ _ _ _ T4 (mkF m 52 #[.val (.ref a1), .val (.ref a2), .val (.int (2 : Int32)), .val (.int (1 : Int32))] [])
  refine own_st (fun _ k => XS.iconst X4.here hx rfl (hb hby own_d5_52) k) ?_
  refine own_st (fun _ k => XS.goto X4.here hx rfl (pc0 := 53) (pc' := 57) rfl (hb hby own_d5_53) (by decide) (by decide) k) ?_
  exact own_retN X4 hx hret (by simp) hlk (hb hby own_d5_57) ⟨rfl, N4', e4⟩ (by decide) (by decide)
def own_rm21_Q (Z : State) (a1 a2 : Addr) (f t : Int32) (k1 k2 : ClassId) (b0 b1 b2 b3 : Addr) (h0 : Heap) (n0 : Nat) (v : Option Value) (h : Heap) (L : List Loc) : Prop := v = some (.int 1) ∧ Fr n0 L ∧ h = h0
set_option maxRecDepth 65536 in
set_option maxHeartbeats 40000000 in
theorem own_rm21 (l : Launch) {Z : State} {a0 : Array Value} (hw : own_W Z a0) (ws : List Jvm.Cond) (a1 a2 : Addr) (f t : Int32) (k1 k2 : ClassId) (b0 b1 b2 b3 : Addr) (h0 : Heap) (n0 : Nat) (Z0 : n0 ≤ h0.size) (hf : f = (2 : Int32)) (ht : t = (1 : Int32)) (V1 : Arv Z h0 a1 k1 (.object "java/lang/Object") 4 [(.ref b0), (.ref b2), .null, (.ref b3)] .null) (V2 : Arv Z h0 a2 k2 (.object "java/lang/Object") 4 [(.ref b0), .null, (.ref b2), (.ref b3)] .null) :
    MetFree l (⟨"com/example/sheaf/sheaf/CountedKeysMovePinLaw", "refsMoved", "([Ljava/lang/Object;[Ljava/lang/Object;II)Z"⟩ : MethodName) (head1 (Jvm.Cond.code (⟨"com/example/sheaf/sheaf/CountedKeysMovePinLaw", "refsMoved", "([Ljava/lang/Object;[Ljava/lang/Object;II)Z"⟩ : MethodName) method_6_code 4 (some .boolean) :: ws) ({ frames := 1, cells := 0, slots := 0, locals := 16 } : Room)) (fun a U => a = #[(.ref a1), (.ref a2), (.int f), (.int t)] ∧ Z.Warmed39 U.vm ∧ U.heap = h0) (fun _ _ _ _ _ => True) (fun _ U o U' => ∃ v L, o = .returned v ∧ own_rm21_Q Z a1 a2 f t k1 k2 b0 b1 b2 b3 h0 n0 v U'.heap L ∧ FrameEnd U o U' L ({ frames := 1, cells := 0, slots := 0, locals := 16 } : Room).cells ({ frames := 1, cells := 0, slots := 0, locals := 16 } : Room).slots) := by
  refine own_enter (C := ({ frames := 1, cells := 0, slots := 0, locals := 16 } : Room).cells) (S := ({ frames := 1, cells := 0, slots := 0, locals := 16 } : Room).slots) (plainFor_of_name own_pn2) ?_
  intro p e s m below meth c T0 X0 I e0
  obtain ⟨hx, hby, hml, hown, hnm, hret, hlk, hZ⟩ := I
  have N0 := Fr.nil n0
  have O0 := own_extr h0
  refine own_cast (own_ef7 m a1 a2 f t) ?_
  show own_Go _ _ _ _ T0 (mkF m 0 #[.val (.ref a1), .val (.ref a2), .val (.int f), .val (.int t)] [])
  rw [hf, ht]
  show own_Go _ _ _ _ T0 (mkF m 0 #[.val (.ref a1), .val (.ref a2), .val (.int (2 : Int32)), .val (.int (1 : Int32))] [])
  refine own_st (fun _ k => XS.aloadN X0.here hx rfl (hb hby own_d7_0) rfl rfl k) ?_
  refine own_st (fun _ k => XS.iconst X0.here hx rfl (hb hby own_d7_1) k) ?_
  refine own_st (own_ldR X0 hx hZ e0 (V1.ext O0) rfl (j := (0 : Int32)) (by decide) (v := (.ref b0)) rfl (g := (mkF m 2 #[.val (.ref a1), .val (.ref a2), .val (.int (2 : Int32)), .val (.int (1 : Int32))] [(.int (0 : Int32)), (.ref a1)])) rfl rfl (hb hby own_d7_2)) ?_
  refine own_st (fun _ k => XS.aloadN X0.here hx rfl (hb hby own_d7_3) rfl rfl k) ?_
  refine own_st (fun _ k => XS.iconst X0.here hx rfl (hb hby own_d7_4) k) ?_
  refine own_st (fun _ k => XS.iloadN X0.here hx rfl (hb hby own_d7_5) rfl k) ?_
  show own_Go _ _ _ _ T0 (mkF m 6 #[.val (.ref a1), .val (.ref a2), .val (.int (2 : Int32)), .val (.int (1 : Int32))] [(.int (2 : Int32)), (.int (0 : Int32)), (.ref a2), (.ref b0)])
  refine own_st (fun _ k => XS.iloadN X0.here hx rfl (hb hby own_d7_6) rfl k) ?_
  obtain ⟨v1, T1, L1, hQ1, X1, st1⟩ := own_callS X0 hx hZ (y := (⟨"com/example/sheaf/sheaf/CountedKeysMovePinLaw", "refAfter", "([Ljava/lang/Object;III)Ljava/lang/Object;"⟩ : MethodName)) hown (own_w52 hw) (own_w53 hw) (own_w43 hw) (own_w54 hw) (by decide) (own_raN l hw [] a2 (0 : Int32) (2 : Int32) (1 : Int32) (.ref b0) k2 [(.ref b0), .null, (.ref b2), (.ref b3)] h0 n0 (Nat.le_trans Z0 O0.1) (by decide) (by decide) (by decide) rfl rfl (V2.ext O0)) e0 (g := (mkF m 7 #[.val (.ref a1), .val (.ref a2), .val (.int (2 : Int32)), .val (.int (1 : Int32))] [(.int (1 : Int32)), (.int (2 : Int32)), (.int (0 : Int32)), (.ref a2), (.ref b0)])) rfl (by rw [hml]; rfl) (argsL := [(.ref a2), (.int (0 : Int32)), (.int (2 : Int32)), (.int (1 : Int32))]) (rest := [(.ref b0)]) (lenOf own_pd2 rfl) rfl rfl (W := 1) (Nat.le_of_eq rfl) (hb hby own_d7_7) (by decide) (by decide) (by decide) (by decide)
  obtain ⟨rfl, N1, e1⟩ := hQ1
  have N1' := Fr.app N0 N1
  refine own_st st1 ?_
  refine own_st (fun _ k => Jvm.RoadKit.acmp (g := (mkF m 10 #[.val (.ref a1), .val (.ref a2), .val (.int (2 : Int32)), .val (.int (1 : Int32))] [(.ref b0), (.ref b0)])) X1 hx rfl rfl rfl (pc0 := 10) (pc' := 13) (same := true) rfl (hb hby own_d7_10) rfl (decide_eq_true rfl) (by decide) (by decide) k) ?_
  refine own_st (fun _ k => XS.aloadN X1.here hx rfl (hb hby own_d7_13) rfl rfl k) ?_
  refine own_st (fun _ k => XS.iconst X1.here hx rfl (hb hby own_d7_14) k) ?_
  refine own_st (own_ldR X1 hx hZ e1 (V1.ext O0) rfl (j := (1 : Int32)) (by decide) (v := (.ref b2)) rfl (g := (mkF m 15 #[.val (.ref a1), .val (.ref a2), .val (.int (2 : Int32)), .val (.int (1 : Int32))] [(.int (1 : Int32)), (.ref a1)])) rfl rfl (hb hby own_d7_15)) ?_
  show own_Go _ _ _ _ T1 (mkF m 16 #[.val (.ref a1), .val (.ref a2), .val (.int (2 : Int32)), .val (.int (1 : Int32))] [(.ref b2)])
  refine own_st (fun _ k => XS.aloadN X1.here hx rfl (hb hby own_d7_16) rfl rfl k) ?_
  refine own_st (fun _ k => XS.iconst X1.here hx rfl (hb hby own_d7_17) k) ?_
  refine own_st (fun _ k => XS.iloadN X1.here hx rfl (hb hby own_d7_18) rfl k) ?_
  refine own_st (fun _ k => XS.iloadN X1.here hx rfl (hb hby own_d7_19) rfl k) ?_
  obtain ⟨v2, T2, L2, hQ2, X2, st2⟩ := own_callS X1 hx hZ (y := (⟨"com/example/sheaf/sheaf/CountedKeysMovePinLaw", "refAfter", "([Ljava/lang/Object;III)Ljava/lang/Object;"⟩ : MethodName)) hown (own_w52 hw) (own_w53 hw) (own_w43 hw) (own_w54 hw) (by decide) (own_raE l hw [] a2 (1 : Int32) (2 : Int32) (1 : Int32) (.ref b2) k2 [(.ref b0), .null, (.ref b2), (.ref b3)] h0 n0 (Nat.le_trans Z0 O0.1) rfl (by decide) rfl rfl (V2.ext O0)) e1 (g := (mkF m 20 #[.val (.ref a1), .val (.ref a2), .val (.int (2 : Int32)), .val (.int (1 : Int32))] [(.int (1 : Int32)), (.int (2 : Int32)), (.int (1 : Int32)), (.ref a2), (.ref b2)])) rfl (by rw [hml]; rfl) (argsL := [(.ref a2), (.int (1 : Int32)), (.int (2 : Int32)), (.int (1 : Int32))]) (rest := [(.ref b2)]) (lenOf own_pd2 rfl) rfl rfl (W := 1) (Nat.le_of_eq rfl) (hb hby own_d7_20) (by decide) (by decide) (by decide) (by decide)
  obtain ⟨rfl, N2, e2⟩ := hQ2
  have N2' := Fr.app N1' N2
  refine own_st st2 ?_
  refine own_st (fun _ k => Jvm.RoadKit.acmp (g := (mkF m 23 #[.val (.ref a1), .val (.ref a2), .val (.int (2 : Int32)), .val (.int (1 : Int32))] [(.ref b2), (.ref b2)])) X2 hx rfl rfl rfl (pc0 := 23) (pc' := 26) (same := true) rfl (hb hby own_d7_23) rfl (decide_eq_true rfl) (by decide) (by decide) k) ?_
  show own_Go _ _ _ _ T2 (mkF m 26 #[.val (.ref a1), .val (.ref a2), .val (.int (2 : Int32)), .val (.int (1 : Int32))] [])
  refine own_st (fun _ k => XS.aloadN X2.here hx rfl (hb hby own_d7_26) rfl rfl k) ?_
  refine own_st (fun _ k => XS.iconst X2.here hx rfl (hb hby own_d7_27) k) ?_
  refine own_st (own_ldR X2 hx hZ e2 (V1.ext O0) rfl (j := (2 : Int32)) (by decide) (v := .null) rfl (g := (mkF m 28 #[.val (.ref a1), .val (.ref a2), .val (.int (2 : Int32)), .val (.int (1 : Int32))] [(.int (2 : Int32)), (.ref a1)])) rfl rfl (hb hby own_d7_28)) ?_
  refine own_st (fun _ k => XS.aloadN X2.here hx rfl (hb hby own_d7_29) rfl rfl k) ?_
  refine own_st (fun _ k => XS.iconst X2.here hx rfl (hb hby own_d7_30) k) ?_
  refine own_st (fun _ k => XS.iloadN X2.here hx rfl (hb hby own_d7_31) rfl k) ?_
  show own_Go _ _ _ _ T2 (mkF m 32 #[.val (.ref a1), .val (.ref a2), .val (.int (2 : Int32)), .val (.int (1 : Int32))] [(.int (2 : Int32)), (.int (2 : Int32)), (.ref a2), .null])
  refine own_st (fun _ k => XS.iloadN X2.here hx rfl (hb hby own_d7_32) rfl k) ?_
  obtain ⟨v3, T3, L3, hQ3, X3, st3⟩ := own_callS X2 hx hZ (y := (⟨"com/example/sheaf/sheaf/CountedKeysMovePinLaw", "refAfter", "([Ljava/lang/Object;III)Ljava/lang/Object;"⟩ : MethodName)) hown (own_w52 hw) (own_w53 hw) (own_w43 hw) (own_w54 hw) (by decide) (own_raF l hw [] a2 (2 : Int32) (2 : Int32) (1 : Int32) .null k2 [(.ref b0), .null, (.ref b2), (.ref b3)] h0 n0 (Nat.le_trans Z0 O0.1) (by decide) rfl (V2.ext O0)) e2 (g := (mkF m 33 #[.val (.ref a1), .val (.ref a2), .val (.int (2 : Int32)), .val (.int (1 : Int32))] [(.int (1 : Int32)), (.int (2 : Int32)), (.int (2 : Int32)), (.ref a2), .null])) rfl (by rw [hml]; rfl) (argsL := [(.ref a2), (.int (2 : Int32)), (.int (2 : Int32)), (.int (1 : Int32))]) (rest := [.null]) (lenOf own_pd2 rfl) rfl rfl (W := 1) (Nat.le_of_eq rfl) (hb hby own_d7_33) (by decide) (by decide) (by decide) (by decide)
  obtain ⟨rfl, N3, e3⟩ := hQ3
  have N3' := Fr.app N2' N3
  refine own_st st3 ?_
  refine own_st (fun _ k => Jvm.RoadKit.acmp (g := (mkF m 36 #[.val (.ref a1), .val (.ref a2), .val (.int (2 : Int32)), .val (.int (1 : Int32))] [.null, .null])) X3 hx rfl rfl rfl (pc0 := 36) (pc' := 39) (same := true) rfl (hb hby own_d7_36) rfl (decide_eq_true rfl) (by decide) (by decide) k) ?_
  refine own_st (fun _ k => XS.aloadN X3.here hx rfl (hb hby own_d7_39) rfl rfl k) ?_
  refine own_st (fun _ k => XS.iconst X3.here hx rfl (hb hby own_d7_40) k) ?_
  refine own_st (own_ldR X3 hx hZ e3 (V1.ext O0) rfl (j := (3 : Int32)) (by decide) (v := (.ref b3)) rfl (g := (mkF m 41 #[.val (.ref a1), .val (.ref a2), .val (.int (2 : Int32)), .val (.int (1 : Int32))] [(.int (3 : Int32)), (.ref a1)])) rfl rfl (hb hby own_d7_41)) ?_
  show own_Go _ _ _ _ T3 (mkF m 42 #[.val (.ref a1), .val (.ref a2), .val (.int (2 : Int32)), .val (.int (1 : Int32))] [(.ref b3)])
  refine own_st (fun _ k => XS.aloadN X3.here hx rfl (hb hby own_d7_42) rfl rfl k) ?_
  refine own_st (fun _ k => XS.iconst X3.here hx rfl (hb hby own_d7_43) k) ?_
  refine own_st (fun _ k => XS.iloadN X3.here hx rfl (hb hby own_d7_44) rfl k) ?_
  refine own_st (fun _ k => XS.iloadN X3.here hx rfl (hb hby own_d7_45) rfl k) ?_
  obtain ⟨v4, T4, L4, hQ4, X4, st4⟩ := own_callS X3 hx hZ (y := (⟨"com/example/sheaf/sheaf/CountedKeysMovePinLaw", "refAfter", "([Ljava/lang/Object;III)Ljava/lang/Object;"⟩ : MethodName)) hown (own_w52 hw) (own_w53 hw) (own_w43 hw) (own_w54 hw) (by decide) (own_raN l hw [] a2 (3 : Int32) (2 : Int32) (1 : Int32) (.ref b3) k2 [(.ref b0), .null, (.ref b2), (.ref b3)] h0 n0 (Nat.le_trans Z0 O0.1) (by decide) (by decide) (by decide) rfl rfl (V2.ext O0)) e3 (g := (mkF m 46 #[.val (.ref a1), .val (.ref a2), .val (.int (2 : Int32)), .val (.int (1 : Int32))] [(.int (1 : Int32)), (.int (2 : Int32)), (.int (3 : Int32)), (.ref a2), (.ref b3)])) rfl (by rw [hml]; rfl) (argsL := [(.ref a2), (.int (3 : Int32)), (.int (2 : Int32)), (.int (1 : Int32))]) (rest := [(.ref b3)]) (lenOf own_pd2 rfl) rfl rfl (W := 1) (Nat.le_of_eq rfl) (hb hby own_d7_46) (by decide) (by decide) (by decide) (by decide)
  obtain ⟨rfl, N4, e4⟩ := hQ4
  have N4' := Fr.app N3' N4
  refine own_st st4 ?_
  refine own_st (fun _ k => Jvm.RoadKit.acmp (g := (mkF m 49 #[.val (.ref a1), .val (.ref a2), .val (.int (2 : Int32)), .val (.int (1 : Int32))] [(.ref b3), (.ref b3)])) X4 hx rfl rfl rfl (pc0 := 49) (pc' := 52) (same := true) rfl (hb hby own_d7_49) rfl (decide_eq_true rfl) (by decide) (by decide) k) ?_
  show own_Go _ _ _ _ T4 (mkF m 52 #[.val (.ref a1), .val (.ref a2), .val (.int (2 : Int32)), .val (.int (1 : Int32))] [])
  refine own_st (fun _ k => XS.iconst X4.here hx rfl (hb hby own_d7_52) k) ?_
  refine own_st (fun _ k => XS.goto X4.here hx rfl (pc0 := 53) (pc' := 57) rfl (hb hby own_d7_53) (by decide) (by decide) k) ?_
  exact own_retN X4 hx hret (by simp) hlk (hb hby own_d7_57) ⟨rfl, N4', e4⟩ (by decide) (by decide)
def own_im30_Q (Z : State) (a1 a2 : Addr) (f t : Int32) (k1 k2 : ClassId) (o0 o1 o2 o3 : Int32) (h0 : Heap) (n0 : Nat) (v : Option Value) (h : Heap) (L : List Loc) : Prop := v = some (.int 1) ∧ Fr n0 L ∧ h = h0
set_option maxRecDepth 65536 in
set_option maxHeartbeats 40000000 in
theorem own_im30 (l : Launch) {Z : State} {a0 : Array Value} (hw : own_W Z a0) (ws : List Jvm.Cond) (a1 a2 : Addr) (f t : Int32) (k1 k2 : ClassId) (o0 o1 o2 o3 : Int32) (h0 : Heap) (n0 : Nat) (Z0 : n0 ≤ h0.size) (hf : f = (3 : Int32)) (ht : t = (0 : Int32)) (V1 : Arv Z h0 a1 k1 .int 4 [(.int o3), (.int o1), (.int o2), (.int o3)] (.int (0 : Int32))) (V2 : Arv Z h0 a2 k2 .int 4 [(.int o0), (.int o1), (.int o2), (.int o3)] (.int (0 : Int32))) :
    MetFree l (⟨"com/example/sheaf/sheaf/CountedKeysMovePinLaw", "intsMoved", "([I[III)Z"⟩ : MethodName) (head1 (Jvm.Cond.code (⟨"com/example/sheaf/sheaf/CountedKeysMovePinLaw", "intsMoved", "([I[III)Z"⟩ : MethodName) method_4_code 4 (some .boolean) :: ws) ({ frames := 1, cells := 0, slots := 0, locals := 16 } : Room)) (fun a U => a = #[(.ref a1), (.ref a2), (.int f), (.int t)] ∧ Z.Warmed39 U.vm ∧ U.heap = h0) (fun _ _ _ _ _ => True) (fun _ U o U' => ∃ v L, o = .returned v ∧ own_im30_Q Z a1 a2 f t k1 k2 o0 o1 o2 o3 h0 n0 v U'.heap L ∧ FrameEnd U o U' L ({ frames := 1, cells := 0, slots := 0, locals := 16 } : Room).cells ({ frames := 1, cells := 0, slots := 0, locals := 16 } : Room).slots) := by
  refine own_enter (C := ({ frames := 1, cells := 0, slots := 0, locals := 16 } : Room).cells) (S := ({ frames := 1, cells := 0, slots := 0, locals := 16 } : Room).slots) (plainFor_of_name own_pn2) ?_
  intro p e s m below meth c T0 X0 I e0
  obtain ⟨hx, hby, hml, hown, hnm, hret, hlk, hZ⟩ := I
  have N0 := Fr.nil n0
  have O0 := own_extr h0
  refine own_cast (own_ef5 m a1 a2 f t) ?_
  show own_Go _ _ _ _ T0 (mkF m 0 #[.val (.ref a1), .val (.ref a2), .val (.int f), .val (.int t)] [])
  rw [hf, ht]
  show own_Go _ _ _ _ T0 (mkF m 0 #[.val (.ref a1), .val (.ref a2), .val (.int (3 : Int32)), .val (.int (0 : Int32))] [])
  refine own_st (fun _ k => XS.aloadN X0.here hx rfl (hb hby own_d5_0) rfl rfl k) ?_
  refine own_st (fun _ k => XS.iconst X0.here hx rfl (hb hby own_d5_1) k) ?_
  refine own_st (own_ldI X0 hx hZ e0 (V1.ext O0) (j := (0 : Int32)) (by decide) (v := (.int o3)) rfl (g := (mkF m 2 #[.val (.ref a1), .val (.ref a2), .val (.int (3 : Int32)), .val (.int (0 : Int32))] [(.int (0 : Int32)), (.ref a1)])) rfl rfl (hb hby own_d5_2)) ?_
  refine own_st (fun _ k => XS.aloadN X0.here hx rfl (hb hby own_d5_3) rfl rfl k) ?_
  refine own_st (fun _ k => XS.iconst X0.here hx rfl (hb hby own_d5_4) k) ?_
  refine own_st (fun _ k => XS.iloadN X0.here hx rfl (hb hby own_d5_5) rfl k) ?_
  show own_Go _ _ _ _ T0 (mkF m 6 #[.val (.ref a1), .val (.ref a2), .val (.int (3 : Int32)), .val (.int (0 : Int32))] [(.int (3 : Int32)), (.int (0 : Int32)), (.ref a2), (.int o3)])
  refine own_st (fun _ k => XS.iloadN X0.here hx rfl (hb hby own_d5_6) rfl k) ?_
  obtain ⟨v1, T1, L1, hQ1, X1, st1⟩ := own_callS X0 hx hZ (y := (⟨"com/example/sheaf/sheaf/CountedKeysMovePinLaw", "intAfter", "([IIII)I"⟩ : MethodName)) hown (own_w45 hw) (own_w46 hw) (own_w43 hw) (own_w47 hw) (by decide) (own_iaE l hw [] a2 (0 : Int32) (3 : Int32) (0 : Int32) o3 k2 [(.int o0), (.int o1), (.int o2), (.int o3)] h0 n0 (Nat.le_trans Z0 O0.1) rfl (by decide) rfl (V2.ext O0)) e0 (g := (mkF m 7 #[.val (.ref a1), .val (.ref a2), .val (.int (3 : Int32)), .val (.int (0 : Int32))] [(.int (0 : Int32)), (.int (3 : Int32)), (.int (0 : Int32)), (.ref a2), (.int o3)])) rfl (by rw [hml]; rfl) (argsL := [(.ref a2), (.int (0 : Int32)), (.int (3 : Int32)), (.int (0 : Int32))]) (rest := [(.int o3)]) (lenOf own_pd1 rfl) rfl rfl (W := 1) (Nat.le_of_eq rfl) (hb hby own_d5_7) (by decide) (by decide) (by decide) (by decide)
  obtain ⟨rfl, N1, e1⟩ := hQ1
  have N1' := Fr.app N0 N1
  refine own_st st1 ?_
  refine own_st (fun _ k => XS.icmpNo X1.here hx rfl (hb hby own_d5_10) rfl (teq (rfl : o3 = o3)).2 k) ?_
  refine own_st (fun _ k => XS.aloadN X1.here hx rfl (hb hby own_d5_13) rfl rfl k) ?_
  refine own_st (fun _ k => XS.iconst X1.here hx rfl (hb hby own_d5_14) k) ?_
  refine own_st (own_ldI X1 hx hZ e1 (V1.ext O0) (j := (1 : Int32)) (by decide) (v := (.int o1)) rfl (g := (mkF m 15 #[.val (.ref a1), .val (.ref a2), .val (.int (3 : Int32)), .val (.int (0 : Int32))] [(.int (1 : Int32)), (.ref a1)])) rfl rfl (hb hby own_d5_15)) ?_
  show own_Go _ _ _ _ T1 (mkF m 16 #[.val (.ref a1), .val (.ref a2), .val (.int (3 : Int32)), .val (.int (0 : Int32))] [(.int o1)])
  refine own_st (fun _ k => XS.aloadN X1.here hx rfl (hb hby own_d5_16) rfl rfl k) ?_
  refine own_st (fun _ k => XS.iconst X1.here hx rfl (hb hby own_d5_17) k) ?_
  refine own_st (fun _ k => XS.iloadN X1.here hx rfl (hb hby own_d5_18) rfl k) ?_
  refine own_st (fun _ k => XS.iloadN X1.here hx rfl (hb hby own_d5_19) rfl k) ?_
  obtain ⟨v2, T2, L2, hQ2, X2, st2⟩ := own_callS X1 hx hZ (y := (⟨"com/example/sheaf/sheaf/CountedKeysMovePinLaw", "intAfter", "([IIII)I"⟩ : MethodName)) hown (own_w45 hw) (own_w46 hw) (own_w43 hw) (own_w47 hw) (by decide) (own_iaN l hw [] a2 (1 : Int32) (3 : Int32) (0 : Int32) o1 k2 [(.int o0), (.int o1), (.int o2), (.int o3)] h0 n0 (Nat.le_trans Z0 O0.1) (by decide) (by decide) rfl (V2.ext O0)) e1 (g := (mkF m 20 #[.val (.ref a1), .val (.ref a2), .val (.int (3 : Int32)), .val (.int (0 : Int32))] [(.int (0 : Int32)), (.int (3 : Int32)), (.int (1 : Int32)), (.ref a2), (.int o1)])) rfl (by rw [hml]; rfl) (argsL := [(.ref a2), (.int (1 : Int32)), (.int (3 : Int32)), (.int (0 : Int32))]) (rest := [(.int o1)]) (lenOf own_pd1 rfl) rfl rfl (W := 1) (Nat.le_of_eq rfl) (hb hby own_d5_20) (by decide) (by decide) (by decide) (by decide)
  obtain ⟨rfl, N2, e2⟩ := hQ2
  have N2' := Fr.app N1' N2
  refine own_st st2 ?_
  refine own_st (fun _ k => XS.icmpNo X2.here hx rfl (hb hby own_d5_23) rfl (teq (rfl : o1 = o1)).2 k) ?_
  show own_Go _ _ _ _ T2 (mkF m 26 #[.val (.ref a1), .val (.ref a2), .val (.int (3 : Int32)), .val (.int (0 : Int32))] [])
  refine own_st (fun _ k => XS.aloadN X2.here hx rfl (hb hby own_d5_26) rfl rfl k) ?_
  refine own_st (fun _ k => XS.iconst X2.here hx rfl (hb hby own_d5_27) k) ?_
  refine own_st (own_ldI X2 hx hZ e2 (V1.ext O0) (j := (2 : Int32)) (by decide) (v := (.int o2)) rfl (g := (mkF m 28 #[.val (.ref a1), .val (.ref a2), .val (.int (3 : Int32)), .val (.int (0 : Int32))] [(.int (2 : Int32)), (.ref a1)])) rfl rfl (hb hby own_d5_28)) ?_
  refine own_st (fun _ k => XS.aloadN X2.here hx rfl (hb hby own_d5_29) rfl rfl k) ?_
  refine own_st (fun _ k => XS.iconst X2.here hx rfl (hb hby own_d5_30) k) ?_
  refine own_st (fun _ k => XS.iloadN X2.here hx rfl (hb hby own_d5_31) rfl k) ?_
  show own_Go _ _ _ _ T2 (mkF m 32 #[.val (.ref a1), .val (.ref a2), .val (.int (3 : Int32)), .val (.int (0 : Int32))] [(.int (3 : Int32)), (.int (2 : Int32)), (.ref a2), (.int o2)])
  refine own_st (fun _ k => XS.iloadN X2.here hx rfl (hb hby own_d5_32) rfl k) ?_
  obtain ⟨v3, T3, L3, hQ3, X3, st3⟩ := own_callS X2 hx hZ (y := (⟨"com/example/sheaf/sheaf/CountedKeysMovePinLaw", "intAfter", "([IIII)I"⟩ : MethodName)) hown (own_w45 hw) (own_w46 hw) (own_w43 hw) (own_w47 hw) (by decide) (own_iaN l hw [] a2 (2 : Int32) (3 : Int32) (0 : Int32) o2 k2 [(.int o0), (.int o1), (.int o2), (.int o3)] h0 n0 (Nat.le_trans Z0 O0.1) (by decide) (by decide) rfl (V2.ext O0)) e2 (g := (mkF m 33 #[.val (.ref a1), .val (.ref a2), .val (.int (3 : Int32)), .val (.int (0 : Int32))] [(.int (0 : Int32)), (.int (3 : Int32)), (.int (2 : Int32)), (.ref a2), (.int o2)])) rfl (by rw [hml]; rfl) (argsL := [(.ref a2), (.int (2 : Int32)), (.int (3 : Int32)), (.int (0 : Int32))]) (rest := [(.int o2)]) (lenOf own_pd1 rfl) rfl rfl (W := 1) (Nat.le_of_eq rfl) (hb hby own_d5_33) (by decide) (by decide) (by decide) (by decide)
  obtain ⟨rfl, N3, e3⟩ := hQ3
  have N3' := Fr.app N2' N3
  refine own_st st3 ?_
  refine own_st (fun _ k => XS.icmpNo X3.here hx rfl (hb hby own_d5_36) rfl (teq (rfl : o2 = o2)).2 k) ?_
  refine own_st (fun _ k => XS.aloadN X3.here hx rfl (hb hby own_d5_39) rfl rfl k) ?_
  refine own_st (fun _ k => XS.iconst X3.here hx rfl (hb hby own_d5_40) k) ?_
  refine own_st (own_ldI X3 hx hZ e3 (V1.ext O0) (j := (3 : Int32)) (by decide) (v := (.int o3)) rfl (g := (mkF m 41 #[.val (.ref a1), .val (.ref a2), .val (.int (3 : Int32)), .val (.int (0 : Int32))] [(.int (3 : Int32)), (.ref a1)])) rfl rfl (hb hby own_d5_41)) ?_
  show own_Go _ _ _ _ T3 (mkF m 42 #[.val (.ref a1), .val (.ref a2), .val (.int (3 : Int32)), .val (.int (0 : Int32))] [(.int o3)])
  refine own_st (fun _ k => XS.aloadN X3.here hx rfl (hb hby own_d5_42) rfl rfl k) ?_
  refine own_st (fun _ k => XS.iconst X3.here hx rfl (hb hby own_d5_43) k) ?_
  refine own_st (fun _ k => XS.iloadN X3.here hx rfl (hb hby own_d5_44) rfl k) ?_
  refine own_st (fun _ k => XS.iloadN X3.here hx rfl (hb hby own_d5_45) rfl k) ?_
  obtain ⟨v4, T4, L4, hQ4, X4, st4⟩ := own_callS X3 hx hZ (y := (⟨"com/example/sheaf/sheaf/CountedKeysMovePinLaw", "intAfter", "([IIII)I"⟩ : MethodName)) hown (own_w45 hw) (own_w46 hw) (own_w43 hw) (own_w47 hw) (by decide) (own_iaN l hw [] a2 (3 : Int32) (3 : Int32) (0 : Int32) o3 k2 [(.int o0), (.int o1), (.int o2), (.int o3)] h0 n0 (Nat.le_trans Z0 O0.1) (by decide) (by decide) rfl (V2.ext O0)) e3 (g := (mkF m 46 #[.val (.ref a1), .val (.ref a2), .val (.int (3 : Int32)), .val (.int (0 : Int32))] [(.int (0 : Int32)), (.int (3 : Int32)), (.int (3 : Int32)), (.ref a2), (.int o3)])) rfl (by rw [hml]; rfl) (argsL := [(.ref a2), (.int (3 : Int32)), (.int (3 : Int32)), (.int (0 : Int32))]) (rest := [(.int o3)]) (lenOf own_pd1 rfl) rfl rfl (W := 1) (Nat.le_of_eq rfl) (hb hby own_d5_46) (by decide) (by decide) (by decide) (by decide)
  obtain ⟨rfl, N4, e4⟩ := hQ4
  have N4' := Fr.app N3' N4
  refine own_st st4 ?_
  refine own_st (fun _ k => XS.icmpNo X4.here hx rfl (hb hby own_d5_49) rfl (teq (rfl : o3 = o3)).2 k) ?_
  show own_Go _ _ _ _ T4 (mkF m 52 #[.val (.ref a1), .val (.ref a2), .val (.int (3 : Int32)), .val (.int (0 : Int32))] [])
  refine own_st (fun _ k => XS.iconst X4.here hx rfl (hb hby own_d5_52) k) ?_
  refine own_st (fun _ k => XS.goto X4.here hx rfl (pc0 := 53) (pc' := 57) rfl (hb hby own_d5_53) (by decide) (by decide) k) ?_
  exact own_retN X4 hx hret (by simp) hlk (hb hby own_d5_57) ⟨rfl, N4', e4⟩ (by decide) (by decide)
def own_rm30_Q (Z : State) (a1 a2 : Addr) (f t : Int32) (k1 k2 : ClassId) (b0 b1 b2 b3 : Addr) (h0 : Heap) (n0 : Nat) (v : Option Value) (h : Heap) (L : List Loc) : Prop := v = some (.int 1) ∧ Fr n0 L ∧ h = h0
set_option maxRecDepth 65536 in
set_option maxHeartbeats 40000000 in
theorem own_rm30 (l : Launch) {Z : State} {a0 : Array Value} (hw : own_W Z a0) (ws : List Jvm.Cond) (a1 a2 : Addr) (f t : Int32) (k1 k2 : ClassId) (b0 b1 b2 b3 : Addr) (h0 : Heap) (n0 : Nat) (Z0 : n0 ≤ h0.size) (hf : f = (3 : Int32)) (ht : t = (0 : Int32)) (V1 : Arv Z h0 a1 k1 (.object "java/lang/Object") 4 [(.ref b3), (.ref b1), (.ref b2), .null] .null) (V2 : Arv Z h0 a2 k2 (.object "java/lang/Object") 4 [.null, (.ref b1), (.ref b2), (.ref b3)] .null) :
    MetFree l (⟨"com/example/sheaf/sheaf/CountedKeysMovePinLaw", "refsMoved", "([Ljava/lang/Object;[Ljava/lang/Object;II)Z"⟩ : MethodName) (head1 (Jvm.Cond.code (⟨"com/example/sheaf/sheaf/CountedKeysMovePinLaw", "refsMoved", "([Ljava/lang/Object;[Ljava/lang/Object;II)Z"⟩ : MethodName) method_6_code 4 (some .boolean) :: ws) ({ frames := 1, cells := 0, slots := 0, locals := 16 } : Room)) (fun a U => a = #[(.ref a1), (.ref a2), (.int f), (.int t)] ∧ Z.Warmed39 U.vm ∧ U.heap = h0) (fun _ _ _ _ _ => True) (fun _ U o U' => ∃ v L, o = .returned v ∧ own_rm30_Q Z a1 a2 f t k1 k2 b0 b1 b2 b3 h0 n0 v U'.heap L ∧ FrameEnd U o U' L ({ frames := 1, cells := 0, slots := 0, locals := 16 } : Room).cells ({ frames := 1, cells := 0, slots := 0, locals := 16 } : Room).slots) := by
  refine own_enter (C := ({ frames := 1, cells := 0, slots := 0, locals := 16 } : Room).cells) (S := ({ frames := 1, cells := 0, slots := 0, locals := 16 } : Room).slots) (plainFor_of_name own_pn2) ?_
  intro p e s m below meth c T0 X0 I e0
  obtain ⟨hx, hby, hml, hown, hnm, hret, hlk, hZ⟩ := I
  have N0 := Fr.nil n0
  have O0 := own_extr h0
  refine own_cast (own_ef7 m a1 a2 f t) ?_
  show own_Go _ _ _ _ T0 (mkF m 0 #[.val (.ref a1), .val (.ref a2), .val (.int f), .val (.int t)] [])
  rw [hf, ht]
  show own_Go _ _ _ _ T0 (mkF m 0 #[.val (.ref a1), .val (.ref a2), .val (.int (3 : Int32)), .val (.int (0 : Int32))] [])
  refine own_st (fun _ k => XS.aloadN X0.here hx rfl (hb hby own_d7_0) rfl rfl k) ?_
  refine own_st (fun _ k => XS.iconst X0.here hx rfl (hb hby own_d7_1) k) ?_
  refine own_st (own_ldR X0 hx hZ e0 (V1.ext O0) rfl (j := (0 : Int32)) (by decide) (v := (.ref b3)) rfl (g := (mkF m 2 #[.val (.ref a1), .val (.ref a2), .val (.int (3 : Int32)), .val (.int (0 : Int32))] [(.int (0 : Int32)), (.ref a1)])) rfl rfl (hb hby own_d7_2)) ?_
  refine own_st (fun _ k => XS.aloadN X0.here hx rfl (hb hby own_d7_3) rfl rfl k) ?_
  refine own_st (fun _ k => XS.iconst X0.here hx rfl (hb hby own_d7_4) k) ?_
  refine own_st (fun _ k => XS.iloadN X0.here hx rfl (hb hby own_d7_5) rfl k) ?_
  show own_Go _ _ _ _ T0 (mkF m 6 #[.val (.ref a1), .val (.ref a2), .val (.int (3 : Int32)), .val (.int (0 : Int32))] [(.int (3 : Int32)), (.int (0 : Int32)), (.ref a2), (.ref b3)])
  refine own_st (fun _ k => XS.iloadN X0.here hx rfl (hb hby own_d7_6) rfl k) ?_
  obtain ⟨v1, T1, L1, hQ1, X1, st1⟩ := own_callS X0 hx hZ (y := (⟨"com/example/sheaf/sheaf/CountedKeysMovePinLaw", "refAfter", "([Ljava/lang/Object;III)Ljava/lang/Object;"⟩ : MethodName)) hown (own_w52 hw) (own_w53 hw) (own_w43 hw) (own_w54 hw) (by decide) (own_raE l hw [] a2 (0 : Int32) (3 : Int32) (0 : Int32) (.ref b3) k2 [.null, (.ref b1), (.ref b2), (.ref b3)] h0 n0 (Nat.le_trans Z0 O0.1) rfl (by decide) rfl rfl (V2.ext O0)) e0 (g := (mkF m 7 #[.val (.ref a1), .val (.ref a2), .val (.int (3 : Int32)), .val (.int (0 : Int32))] [(.int (0 : Int32)), (.int (3 : Int32)), (.int (0 : Int32)), (.ref a2), (.ref b3)])) rfl (by rw [hml]; rfl) (argsL := [(.ref a2), (.int (0 : Int32)), (.int (3 : Int32)), (.int (0 : Int32))]) (rest := [(.ref b3)]) (lenOf own_pd2 rfl) rfl rfl (W := 1) (Nat.le_of_eq rfl) (hb hby own_d7_7) (by decide) (by decide) (by decide) (by decide)
  obtain ⟨rfl, N1, e1⟩ := hQ1
  have N1' := Fr.app N0 N1
  refine own_st st1 ?_
  refine own_st (fun _ k => Jvm.RoadKit.acmp (g := (mkF m 10 #[.val (.ref a1), .val (.ref a2), .val (.int (3 : Int32)), .val (.int (0 : Int32))] [(.ref b3), (.ref b3)])) X1 hx rfl rfl rfl (pc0 := 10) (pc' := 13) (same := true) rfl (hb hby own_d7_10) rfl (decide_eq_true rfl) (by decide) (by decide) k) ?_
  refine own_st (fun _ k => XS.aloadN X1.here hx rfl (hb hby own_d7_13) rfl rfl k) ?_
  refine own_st (fun _ k => XS.iconst X1.here hx rfl (hb hby own_d7_14) k) ?_
  refine own_st (own_ldR X1 hx hZ e1 (V1.ext O0) rfl (j := (1 : Int32)) (by decide) (v := (.ref b1)) rfl (g := (mkF m 15 #[.val (.ref a1), .val (.ref a2), .val (.int (3 : Int32)), .val (.int (0 : Int32))] [(.int (1 : Int32)), (.ref a1)])) rfl rfl (hb hby own_d7_15)) ?_
  show own_Go _ _ _ _ T1 (mkF m 16 #[.val (.ref a1), .val (.ref a2), .val (.int (3 : Int32)), .val (.int (0 : Int32))] [(.ref b1)])
  refine own_st (fun _ k => XS.aloadN X1.here hx rfl (hb hby own_d7_16) rfl rfl k) ?_
  refine own_st (fun _ k => XS.iconst X1.here hx rfl (hb hby own_d7_17) k) ?_
  refine own_st (fun _ k => XS.iloadN X1.here hx rfl (hb hby own_d7_18) rfl k) ?_
  refine own_st (fun _ k => XS.iloadN X1.here hx rfl (hb hby own_d7_19) rfl k) ?_
  obtain ⟨v2, T2, L2, hQ2, X2, st2⟩ := own_callS X1 hx hZ (y := (⟨"com/example/sheaf/sheaf/CountedKeysMovePinLaw", "refAfter", "([Ljava/lang/Object;III)Ljava/lang/Object;"⟩ : MethodName)) hown (own_w52 hw) (own_w53 hw) (own_w43 hw) (own_w54 hw) (by decide) (own_raN l hw [] a2 (1 : Int32) (3 : Int32) (0 : Int32) (.ref b1) k2 [.null, (.ref b1), (.ref b2), (.ref b3)] h0 n0 (Nat.le_trans Z0 O0.1) (by decide) (by decide) (by decide) rfl rfl (V2.ext O0)) e1 (g := (mkF m 20 #[.val (.ref a1), .val (.ref a2), .val (.int (3 : Int32)), .val (.int (0 : Int32))] [(.int (0 : Int32)), (.int (3 : Int32)), (.int (1 : Int32)), (.ref a2), (.ref b1)])) rfl (by rw [hml]; rfl) (argsL := [(.ref a2), (.int (1 : Int32)), (.int (3 : Int32)), (.int (0 : Int32))]) (rest := [(.ref b1)]) (lenOf own_pd2 rfl) rfl rfl (W := 1) (Nat.le_of_eq rfl) (hb hby own_d7_20) (by decide) (by decide) (by decide) (by decide)
  obtain ⟨rfl, N2, e2⟩ := hQ2
  have N2' := Fr.app N1' N2
  refine own_st st2 ?_
  refine own_st (fun _ k => Jvm.RoadKit.acmp (g := (mkF m 23 #[.val (.ref a1), .val (.ref a2), .val (.int (3 : Int32)), .val (.int (0 : Int32))] [(.ref b1), (.ref b1)])) X2 hx rfl rfl rfl (pc0 := 23) (pc' := 26) (same := true) rfl (hb hby own_d7_23) rfl (decide_eq_true rfl) (by decide) (by decide) k) ?_
  show own_Go _ _ _ _ T2 (mkF m 26 #[.val (.ref a1), .val (.ref a2), .val (.int (3 : Int32)), .val (.int (0 : Int32))] [])
  refine own_st (fun _ k => XS.aloadN X2.here hx rfl (hb hby own_d7_26) rfl rfl k) ?_
  refine own_st (fun _ k => XS.iconst X2.here hx rfl (hb hby own_d7_27) k) ?_
  refine own_st (own_ldR X2 hx hZ e2 (V1.ext O0) rfl (j := (2 : Int32)) (by decide) (v := (.ref b2)) rfl (g := (mkF m 28 #[.val (.ref a1), .val (.ref a2), .val (.int (3 : Int32)), .val (.int (0 : Int32))] [(.int (2 : Int32)), (.ref a1)])) rfl rfl (hb hby own_d7_28)) ?_
  refine own_st (fun _ k => XS.aloadN X2.here hx rfl (hb hby own_d7_29) rfl rfl k) ?_
  refine own_st (fun _ k => XS.iconst X2.here hx rfl (hb hby own_d7_30) k) ?_
  refine own_st (fun _ k => XS.iloadN X2.here hx rfl (hb hby own_d7_31) rfl k) ?_
  show own_Go _ _ _ _ T2 (mkF m 32 #[.val (.ref a1), .val (.ref a2), .val (.int (3 : Int32)), .val (.int (0 : Int32))] [(.int (3 : Int32)), (.int (2 : Int32)), (.ref a2), (.ref b2)])
  refine own_st (fun _ k => XS.iloadN X2.here hx rfl (hb hby own_d7_32) rfl k) ?_
  obtain ⟨v3, T3, L3, hQ3, X3, st3⟩ := own_callS X2 hx hZ (y := (⟨"com/example/sheaf/sheaf/CountedKeysMovePinLaw", "refAfter", "([Ljava/lang/Object;III)Ljava/lang/Object;"⟩ : MethodName)) hown (own_w52 hw) (own_w53 hw) (own_w43 hw) (own_w54 hw) (by decide) (own_raN l hw [] a2 (2 : Int32) (3 : Int32) (0 : Int32) (.ref b2) k2 [.null, (.ref b1), (.ref b2), (.ref b3)] h0 n0 (Nat.le_trans Z0 O0.1) (by decide) (by decide) (by decide) rfl rfl (V2.ext O0)) e2 (g := (mkF m 33 #[.val (.ref a1), .val (.ref a2), .val (.int (3 : Int32)), .val (.int (0 : Int32))] [(.int (0 : Int32)), (.int (3 : Int32)), (.int (2 : Int32)), (.ref a2), (.ref b2)])) rfl (by rw [hml]; rfl) (argsL := [(.ref a2), (.int (2 : Int32)), (.int (3 : Int32)), (.int (0 : Int32))]) (rest := [(.ref b2)]) (lenOf own_pd2 rfl) rfl rfl (W := 1) (Nat.le_of_eq rfl) (hb hby own_d7_33) (by decide) (by decide) (by decide) (by decide)
  obtain ⟨rfl, N3, e3⟩ := hQ3
  have N3' := Fr.app N2' N3
  refine own_st st3 ?_
  refine own_st (fun _ k => Jvm.RoadKit.acmp (g := (mkF m 36 #[.val (.ref a1), .val (.ref a2), .val (.int (3 : Int32)), .val (.int (0 : Int32))] [(.ref b2), (.ref b2)])) X3 hx rfl rfl rfl (pc0 := 36) (pc' := 39) (same := true) rfl (hb hby own_d7_36) rfl (decide_eq_true rfl) (by decide) (by decide) k) ?_
  refine own_st (fun _ k => XS.aloadN X3.here hx rfl (hb hby own_d7_39) rfl rfl k) ?_
  refine own_st (fun _ k => XS.iconst X3.here hx rfl (hb hby own_d7_40) k) ?_
  refine own_st (own_ldR X3 hx hZ e3 (V1.ext O0) rfl (j := (3 : Int32)) (by decide) (v := .null) rfl (g := (mkF m 41 #[.val (.ref a1), .val (.ref a2), .val (.int (3 : Int32)), .val (.int (0 : Int32))] [(.int (3 : Int32)), (.ref a1)])) rfl rfl (hb hby own_d7_41)) ?_
  show own_Go _ _ _ _ T3 (mkF m 42 #[.val (.ref a1), .val (.ref a2), .val (.int (3 : Int32)), .val (.int (0 : Int32))] [.null])
  refine own_st (fun _ k => XS.aloadN X3.here hx rfl (hb hby own_d7_42) rfl rfl k) ?_
  refine own_st (fun _ k => XS.iconst X3.here hx rfl (hb hby own_d7_43) k) ?_
  refine own_st (fun _ k => XS.iloadN X3.here hx rfl (hb hby own_d7_44) rfl k) ?_
  refine own_st (fun _ k => XS.iloadN X3.here hx rfl (hb hby own_d7_45) rfl k) ?_
  obtain ⟨v4, T4, L4, hQ4, X4, st4⟩ := own_callS X3 hx hZ (y := (⟨"com/example/sheaf/sheaf/CountedKeysMovePinLaw", "refAfter", "([Ljava/lang/Object;III)Ljava/lang/Object;"⟩ : MethodName)) hown (own_w52 hw) (own_w53 hw) (own_w43 hw) (own_w54 hw) (by decide) (own_raF l hw [] a2 (3 : Int32) (3 : Int32) (0 : Int32) .null k2 [.null, (.ref b1), (.ref b2), (.ref b3)] h0 n0 (Nat.le_trans Z0 O0.1) (by decide) rfl (V2.ext O0)) e3 (g := (mkF m 46 #[.val (.ref a1), .val (.ref a2), .val (.int (3 : Int32)), .val (.int (0 : Int32))] [(.int (0 : Int32)), (.int (3 : Int32)), (.int (3 : Int32)), (.ref a2), .null])) rfl (by rw [hml]; rfl) (argsL := [(.ref a2), (.int (3 : Int32)), (.int (3 : Int32)), (.int (0 : Int32))]) (rest := [.null]) (lenOf own_pd2 rfl) rfl rfl (W := 1) (Nat.le_of_eq rfl) (hb hby own_d7_46) (by decide) (by decide) (by decide) (by decide)
  obtain ⟨rfl, N4, e4⟩ := hQ4
  have N4' := Fr.app N3' N4
  refine own_st st4 ?_
  refine own_st (fun _ k => Jvm.RoadKit.acmp (g := (mkF m 49 #[.val (.ref a1), .val (.ref a2), .val (.int (3 : Int32)), .val (.int (0 : Int32))] [.null, .null])) X4 hx rfl rfl rfl (pc0 := 49) (pc' := 52) (same := true) rfl (hb hby own_d7_49) rfl (decide_eq_true rfl) (by decide) (by decide) k) ?_
  show own_Go _ _ _ _ T4 (mkF m 52 #[.val (.ref a1), .val (.ref a2), .val (.int (3 : Int32)), .val (.int (0 : Int32))] [])
  refine own_st (fun _ k => XS.iconst X4.here hx rfl (hb hby own_d7_52) k) ?_
  refine own_st (fun _ k => XS.goto X4.here hx rfl (pc0 := 53) (pc' := 57) rfl (hb hby own_d7_53) (by decide) (by decide) k) ?_
  exact own_retN X4 hx hret (by simp) hlk (hb hby own_d7_57) ⟨rfl, N4', e4⟩ (by decide) (by decide)
def own_im31_Q (Z : State) (a1 a2 : Addr) (f t : Int32) (k1 k2 : ClassId) (o0 o1 o2 o3 : Int32) (h0 : Heap) (n0 : Nat) (v : Option Value) (h : Heap) (L : List Loc) : Prop := v = some (.int 1) ∧ Fr n0 L ∧ h = h0
set_option maxRecDepth 65536 in
set_option maxHeartbeats 40000000 in
theorem own_im31 (l : Launch) {Z : State} {a0 : Array Value} (hw : own_W Z a0) (ws : List Jvm.Cond) (a1 a2 : Addr) (f t : Int32) (k1 k2 : ClassId) (o0 o1 o2 o3 : Int32) (h0 : Heap) (n0 : Nat) (Z0 : n0 ≤ h0.size) (hf : f = (3 : Int32)) (ht : t = (1 : Int32)) (V1 : Arv Z h0 a1 k1 .int 4 [(.int o0), (.int o3), (.int o2), (.int o3)] (.int (0 : Int32))) (V2 : Arv Z h0 a2 k2 .int 4 [(.int o0), (.int o1), (.int o2), (.int o3)] (.int (0 : Int32))) :
    MetFree l (⟨"com/example/sheaf/sheaf/CountedKeysMovePinLaw", "intsMoved", "([I[III)Z"⟩ : MethodName) (head1 (Jvm.Cond.code (⟨"com/example/sheaf/sheaf/CountedKeysMovePinLaw", "intsMoved", "([I[III)Z"⟩ : MethodName) method_4_code 4 (some .boolean) :: ws) ({ frames := 1, cells := 0, slots := 0, locals := 16 } : Room)) (fun a U => a = #[(.ref a1), (.ref a2), (.int f), (.int t)] ∧ Z.Warmed39 U.vm ∧ U.heap = h0) (fun _ _ _ _ _ => True) (fun _ U o U' => ∃ v L, o = .returned v ∧ own_im31_Q Z a1 a2 f t k1 k2 o0 o1 o2 o3 h0 n0 v U'.heap L ∧ FrameEnd U o U' L ({ frames := 1, cells := 0, slots := 0, locals := 16 } : Room).cells ({ frames := 1, cells := 0, slots := 0, locals := 16 } : Room).slots) := by
  refine own_enter (C := ({ frames := 1, cells := 0, slots := 0, locals := 16 } : Room).cells) (S := ({ frames := 1, cells := 0, slots := 0, locals := 16 } : Room).slots) (plainFor_of_name own_pn2) ?_
  intro p e s m below meth c T0 X0 I e0
  obtain ⟨hx, hby, hml, hown, hnm, hret, hlk, hZ⟩ := I
  have N0 := Fr.nil n0
  have O0 := own_extr h0
  refine own_cast (own_ef5 m a1 a2 f t) ?_
  show own_Go _ _ _ _ T0 (mkF m 0 #[.val (.ref a1), .val (.ref a2), .val (.int f), .val (.int t)] [])
  rw [hf, ht]
  show own_Go _ _ _ _ T0 (mkF m 0 #[.val (.ref a1), .val (.ref a2), .val (.int (3 : Int32)), .val (.int (1 : Int32))] [])
  refine own_st (fun _ k => XS.aloadN X0.here hx rfl (hb hby own_d5_0) rfl rfl k) ?_
  refine own_st (fun _ k => XS.iconst X0.here hx rfl (hb hby own_d5_1) k) ?_
  refine own_st (own_ldI X0 hx hZ e0 (V1.ext O0) (j := (0 : Int32)) (by decide) (v := (.int o0)) rfl (g := (mkF m 2 #[.val (.ref a1), .val (.ref a2), .val (.int (3 : Int32)), .val (.int (1 : Int32))] [(.int (0 : Int32)), (.ref a1)])) rfl rfl (hb hby own_d5_2)) ?_
  refine own_st (fun _ k => XS.aloadN X0.here hx rfl (hb hby own_d5_3) rfl rfl k) ?_
  refine own_st (fun _ k => XS.iconst X0.here hx rfl (hb hby own_d5_4) k) ?_
  refine own_st (fun _ k => XS.iloadN X0.here hx rfl (hb hby own_d5_5) rfl k) ?_
  show own_Go _ _ _ _ T0 (mkF m 6 #[.val (.ref a1), .val (.ref a2), .val (.int (3 : Int32)), .val (.int (1 : Int32))] [(.int (3 : Int32)), (.int (0 : Int32)), (.ref a2), (.int o0)])
  refine own_st (fun _ k => XS.iloadN X0.here hx rfl (hb hby own_d5_6) rfl k) ?_
  obtain ⟨v1, T1, L1, hQ1, X1, st1⟩ := own_callS X0 hx hZ (y := (⟨"com/example/sheaf/sheaf/CountedKeysMovePinLaw", "intAfter", "([IIII)I"⟩ : MethodName)) hown (own_w45 hw) (own_w46 hw) (own_w43 hw) (own_w47 hw) (by decide) (own_iaN l hw [] a2 (0 : Int32) (3 : Int32) (1 : Int32) o0 k2 [(.int o0), (.int o1), (.int o2), (.int o3)] h0 n0 (Nat.le_trans Z0 O0.1) (by decide) (by decide) rfl (V2.ext O0)) e0 (g := (mkF m 7 #[.val (.ref a1), .val (.ref a2), .val (.int (3 : Int32)), .val (.int (1 : Int32))] [(.int (1 : Int32)), (.int (3 : Int32)), (.int (0 : Int32)), (.ref a2), (.int o0)])) rfl (by rw [hml]; rfl) (argsL := [(.ref a2), (.int (0 : Int32)), (.int (3 : Int32)), (.int (1 : Int32))]) (rest := [(.int o0)]) (lenOf own_pd1 rfl) rfl rfl (W := 1) (Nat.le_of_eq rfl) (hb hby own_d5_7) (by decide) (by decide) (by decide) (by decide)
  obtain ⟨rfl, N1, e1⟩ := hQ1
  have N1' := Fr.app N0 N1
  refine own_st st1 ?_
  refine own_st (fun _ k => XS.icmpNo X1.here hx rfl (hb hby own_d5_10) rfl (teq (rfl : o0 = o0)).2 k) ?_
  refine own_st (fun _ k => XS.aloadN X1.here hx rfl (hb hby own_d5_13) rfl rfl k) ?_
  refine own_st (fun _ k => XS.iconst X1.here hx rfl (hb hby own_d5_14) k) ?_
  refine own_st (own_ldI X1 hx hZ e1 (V1.ext O0) (j := (1 : Int32)) (by decide) (v := (.int o3)) rfl (g := (mkF m 15 #[.val (.ref a1), .val (.ref a2), .val (.int (3 : Int32)), .val (.int (1 : Int32))] [(.int (1 : Int32)), (.ref a1)])) rfl rfl (hb hby own_d5_15)) ?_
  show own_Go _ _ _ _ T1 (mkF m 16 #[.val (.ref a1), .val (.ref a2), .val (.int (3 : Int32)), .val (.int (1 : Int32))] [(.int o3)])
  refine own_st (fun _ k => XS.aloadN X1.here hx rfl (hb hby own_d5_16) rfl rfl k) ?_
  refine own_st (fun _ k => XS.iconst X1.here hx rfl (hb hby own_d5_17) k) ?_
  refine own_st (fun _ k => XS.iloadN X1.here hx rfl (hb hby own_d5_18) rfl k) ?_
  refine own_st (fun _ k => XS.iloadN X1.here hx rfl (hb hby own_d5_19) rfl k) ?_
  obtain ⟨v2, T2, L2, hQ2, X2, st2⟩ := own_callS X1 hx hZ (y := (⟨"com/example/sheaf/sheaf/CountedKeysMovePinLaw", "intAfter", "([IIII)I"⟩ : MethodName)) hown (own_w45 hw) (own_w46 hw) (own_w43 hw) (own_w47 hw) (by decide) (own_iaE l hw [] a2 (1 : Int32) (3 : Int32) (1 : Int32) o3 k2 [(.int o0), (.int o1), (.int o2), (.int o3)] h0 n0 (Nat.le_trans Z0 O0.1) rfl (by decide) rfl (V2.ext O0)) e1 (g := (mkF m 20 #[.val (.ref a1), .val (.ref a2), .val (.int (3 : Int32)), .val (.int (1 : Int32))] [(.int (1 : Int32)), (.int (3 : Int32)), (.int (1 : Int32)), (.ref a2), (.int o3)])) rfl (by rw [hml]; rfl) (argsL := [(.ref a2), (.int (1 : Int32)), (.int (3 : Int32)), (.int (1 : Int32))]) (rest := [(.int o3)]) (lenOf own_pd1 rfl) rfl rfl (W := 1) (Nat.le_of_eq rfl) (hb hby own_d5_20) (by decide) (by decide) (by decide) (by decide)
  obtain ⟨rfl, N2, e2⟩ := hQ2
  have N2' := Fr.app N1' N2
  refine own_st st2 ?_
  refine own_st (fun _ k => XS.icmpNo X2.here hx rfl (hb hby own_d5_23) rfl (teq (rfl : o3 = o3)).2 k) ?_
  show own_Go _ _ _ _ T2 (mkF m 26 #[.val (.ref a1), .val (.ref a2), .val (.int (3 : Int32)), .val (.int (1 : Int32))] [])
  refine own_st (fun _ k => XS.aloadN X2.here hx rfl (hb hby own_d5_26) rfl rfl k) ?_
  refine own_st (fun _ k => XS.iconst X2.here hx rfl (hb hby own_d5_27) k) ?_
  refine own_st (own_ldI X2 hx hZ e2 (V1.ext O0) (j := (2 : Int32)) (by decide) (v := (.int o2)) rfl (g := (mkF m 28 #[.val (.ref a1), .val (.ref a2), .val (.int (3 : Int32)), .val (.int (1 : Int32))] [(.int (2 : Int32)), (.ref a1)])) rfl rfl (hb hby own_d5_28)) ?_
  refine own_st (fun _ k => XS.aloadN X2.here hx rfl (hb hby own_d5_29) rfl rfl k) ?_
  refine own_st (fun _ k => XS.iconst X2.here hx rfl (hb hby own_d5_30) k) ?_
  refine own_st (fun _ k => XS.iloadN X2.here hx rfl (hb hby own_d5_31) rfl k) ?_
  show own_Go _ _ _ _ T2 (mkF m 32 #[.val (.ref a1), .val (.ref a2), .val (.int (3 : Int32)), .val (.int (1 : Int32))] [(.int (3 : Int32)), (.int (2 : Int32)), (.ref a2), (.int o2)])
  refine own_st (fun _ k => XS.iloadN X2.here hx rfl (hb hby own_d5_32) rfl k) ?_
  obtain ⟨v3, T3, L3, hQ3, X3, st3⟩ := own_callS X2 hx hZ (y := (⟨"com/example/sheaf/sheaf/CountedKeysMovePinLaw", "intAfter", "([IIII)I"⟩ : MethodName)) hown (own_w45 hw) (own_w46 hw) (own_w43 hw) (own_w47 hw) (by decide) (own_iaN l hw [] a2 (2 : Int32) (3 : Int32) (1 : Int32) o2 k2 [(.int o0), (.int o1), (.int o2), (.int o3)] h0 n0 (Nat.le_trans Z0 O0.1) (by decide) (by decide) rfl (V2.ext O0)) e2 (g := (mkF m 33 #[.val (.ref a1), .val (.ref a2), .val (.int (3 : Int32)), .val (.int (1 : Int32))] [(.int (1 : Int32)), (.int (3 : Int32)), (.int (2 : Int32)), (.ref a2), (.int o2)])) rfl (by rw [hml]; rfl) (argsL := [(.ref a2), (.int (2 : Int32)), (.int (3 : Int32)), (.int (1 : Int32))]) (rest := [(.int o2)]) (lenOf own_pd1 rfl) rfl rfl (W := 1) (Nat.le_of_eq rfl) (hb hby own_d5_33) (by decide) (by decide) (by decide) (by decide)
  obtain ⟨rfl, N3, e3⟩ := hQ3
  have N3' := Fr.app N2' N3
  refine own_st st3 ?_
  refine own_st (fun _ k => XS.icmpNo X3.here hx rfl (hb hby own_d5_36) rfl (teq (rfl : o2 = o2)).2 k) ?_
  refine own_st (fun _ k => XS.aloadN X3.here hx rfl (hb hby own_d5_39) rfl rfl k) ?_
  refine own_st (fun _ k => XS.iconst X3.here hx rfl (hb hby own_d5_40) k) ?_
  refine own_st (own_ldI X3 hx hZ e3 (V1.ext O0) (j := (3 : Int32)) (by decide) (v := (.int o3)) rfl (g := (mkF m 41 #[.val (.ref a1), .val (.ref a2), .val (.int (3 : Int32)), .val (.int (1 : Int32))] [(.int (3 : Int32)), (.ref a1)])) rfl rfl (hb hby own_d5_41)) ?_
  show own_Go _ _ _ _ T3 (mkF m 42 #[.val (.ref a1), .val (.ref a2), .val (.int (3 : Int32)), .val (.int (1 : Int32))] [(.int o3)])
  refine own_st (fun _ k => XS.aloadN X3.here hx rfl (hb hby own_d5_42) rfl rfl k) ?_
  refine own_st (fun _ k => XS.iconst X3.here hx rfl (hb hby own_d5_43) k) ?_
  refine own_st (fun _ k => XS.iloadN X3.here hx rfl (hb hby own_d5_44) rfl k) ?_
  refine own_st (fun _ k => XS.iloadN X3.here hx rfl (hb hby own_d5_45) rfl k) ?_
  obtain ⟨v4, T4, L4, hQ4, X4, st4⟩ := own_callS X3 hx hZ (y := (⟨"com/example/sheaf/sheaf/CountedKeysMovePinLaw", "intAfter", "([IIII)I"⟩ : MethodName)) hown (own_w45 hw) (own_w46 hw) (own_w43 hw) (own_w47 hw) (by decide) (own_iaN l hw [] a2 (3 : Int32) (3 : Int32) (1 : Int32) o3 k2 [(.int o0), (.int o1), (.int o2), (.int o3)] h0 n0 (Nat.le_trans Z0 O0.1) (by decide) (by decide) rfl (V2.ext O0)) e3 (g := (mkF m 46 #[.val (.ref a1), .val (.ref a2), .val (.int (3 : Int32)), .val (.int (1 : Int32))] [(.int (1 : Int32)), (.int (3 : Int32)), (.int (3 : Int32)), (.ref a2), (.int o3)])) rfl (by rw [hml]; rfl) (argsL := [(.ref a2), (.int (3 : Int32)), (.int (3 : Int32)), (.int (1 : Int32))]) (rest := [(.int o3)]) (lenOf own_pd1 rfl) rfl rfl (W := 1) (Nat.le_of_eq rfl) (hb hby own_d5_46) (by decide) (by decide) (by decide) (by decide)
  obtain ⟨rfl, N4, e4⟩ := hQ4
  have N4' := Fr.app N3' N4
  refine own_st st4 ?_
  refine own_st (fun _ k => XS.icmpNo X4.here hx rfl (hb hby own_d5_49) rfl (teq (rfl : o3 = o3)).2 k) ?_
  show own_Go _ _ _ _ T4 (mkF m 52 #[.val (.ref a1), .val (.ref a2), .val (.int (3 : Int32)), .val (.int (1 : Int32))] [])
  refine own_st (fun _ k => XS.iconst X4.here hx rfl (hb hby own_d5_52) k) ?_
  refine own_st (fun _ k => XS.goto X4.here hx rfl (pc0 := 53) (pc' := 57) rfl (hb hby own_d5_53) (by decide) (by decide) k) ?_
  exact own_retN X4 hx hret (by simp) hlk (hb hby own_d5_57) ⟨rfl, N4', e4⟩ (by decide) (by decide)
def own_rm31_Q (Z : State) (a1 a2 : Addr) (f t : Int32) (k1 k2 : ClassId) (b0 b1 b2 b3 : Addr) (h0 : Heap) (n0 : Nat) (v : Option Value) (h : Heap) (L : List Loc) : Prop := v = some (.int 1) ∧ Fr n0 L ∧ h = h0
set_option maxRecDepth 65536 in
set_option maxHeartbeats 40000000 in
theorem own_rm31 (l : Launch) {Z : State} {a0 : Array Value} (hw : own_W Z a0) (ws : List Jvm.Cond) (a1 a2 : Addr) (f t : Int32) (k1 k2 : ClassId) (b0 b1 b2 b3 : Addr) (h0 : Heap) (n0 : Nat) (Z0 : n0 ≤ h0.size) (hf : f = (3 : Int32)) (ht : t = (1 : Int32)) (V1 : Arv Z h0 a1 k1 (.object "java/lang/Object") 4 [(.ref b0), (.ref b3), (.ref b2), .null] .null) (V2 : Arv Z h0 a2 k2 (.object "java/lang/Object") 4 [(.ref b0), .null, (.ref b2), (.ref b3)] .null) :
    MetFree l (⟨"com/example/sheaf/sheaf/CountedKeysMovePinLaw", "refsMoved", "([Ljava/lang/Object;[Ljava/lang/Object;II)Z"⟩ : MethodName) (head1 (Jvm.Cond.code (⟨"com/example/sheaf/sheaf/CountedKeysMovePinLaw", "refsMoved", "([Ljava/lang/Object;[Ljava/lang/Object;II)Z"⟩ : MethodName) method_6_code 4 (some .boolean) :: ws) ({ frames := 1, cells := 0, slots := 0, locals := 16 } : Room)) (fun a U => a = #[(.ref a1), (.ref a2), (.int f), (.int t)] ∧ Z.Warmed39 U.vm ∧ U.heap = h0) (fun _ _ _ _ _ => True) (fun _ U o U' => ∃ v L, o = .returned v ∧ own_rm31_Q Z a1 a2 f t k1 k2 b0 b1 b2 b3 h0 n0 v U'.heap L ∧ FrameEnd U o U' L ({ frames := 1, cells := 0, slots := 0, locals := 16 } : Room).cells ({ frames := 1, cells := 0, slots := 0, locals := 16 } : Room).slots) := by
  refine own_enter (C := ({ frames := 1, cells := 0, slots := 0, locals := 16 } : Room).cells) (S := ({ frames := 1, cells := 0, slots := 0, locals := 16 } : Room).slots) (plainFor_of_name own_pn2) ?_
  intro p e s m below meth c T0 X0 I e0
  obtain ⟨hx, hby, hml, hown, hnm, hret, hlk, hZ⟩ := I
  have N0 := Fr.nil n0
  have O0 := own_extr h0
  refine own_cast (own_ef7 m a1 a2 f t) ?_
  show own_Go _ _ _ _ T0 (mkF m 0 #[.val (.ref a1), .val (.ref a2), .val (.int f), .val (.int t)] [])
  rw [hf, ht]
  show own_Go _ _ _ _ T0 (mkF m 0 #[.val (.ref a1), .val (.ref a2), .val (.int (3 : Int32)), .val (.int (1 : Int32))] [])
  refine own_st (fun _ k => XS.aloadN X0.here hx rfl (hb hby own_d7_0) rfl rfl k) ?_
  refine own_st (fun _ k => XS.iconst X0.here hx rfl (hb hby own_d7_1) k) ?_
  refine own_st (own_ldR X0 hx hZ e0 (V1.ext O0) rfl (j := (0 : Int32)) (by decide) (v := (.ref b0)) rfl (g := (mkF m 2 #[.val (.ref a1), .val (.ref a2), .val (.int (3 : Int32)), .val (.int (1 : Int32))] [(.int (0 : Int32)), (.ref a1)])) rfl rfl (hb hby own_d7_2)) ?_
  refine own_st (fun _ k => XS.aloadN X0.here hx rfl (hb hby own_d7_3) rfl rfl k) ?_
  refine own_st (fun _ k => XS.iconst X0.here hx rfl (hb hby own_d7_4) k) ?_
  refine own_st (fun _ k => XS.iloadN X0.here hx rfl (hb hby own_d7_5) rfl k) ?_
  show own_Go _ _ _ _ T0 (mkF m 6 #[.val (.ref a1), .val (.ref a2), .val (.int (3 : Int32)), .val (.int (1 : Int32))] [(.int (3 : Int32)), (.int (0 : Int32)), (.ref a2), (.ref b0)])
  refine own_st (fun _ k => XS.iloadN X0.here hx rfl (hb hby own_d7_6) rfl k) ?_
  obtain ⟨v1, T1, L1, hQ1, X1, st1⟩ := own_callS X0 hx hZ (y := (⟨"com/example/sheaf/sheaf/CountedKeysMovePinLaw", "refAfter", "([Ljava/lang/Object;III)Ljava/lang/Object;"⟩ : MethodName)) hown (own_w52 hw) (own_w53 hw) (own_w43 hw) (own_w54 hw) (by decide) (own_raN l hw [] a2 (0 : Int32) (3 : Int32) (1 : Int32) (.ref b0) k2 [(.ref b0), .null, (.ref b2), (.ref b3)] h0 n0 (Nat.le_trans Z0 O0.1) (by decide) (by decide) (by decide) rfl rfl (V2.ext O0)) e0 (g := (mkF m 7 #[.val (.ref a1), .val (.ref a2), .val (.int (3 : Int32)), .val (.int (1 : Int32))] [(.int (1 : Int32)), (.int (3 : Int32)), (.int (0 : Int32)), (.ref a2), (.ref b0)])) rfl (by rw [hml]; rfl) (argsL := [(.ref a2), (.int (0 : Int32)), (.int (3 : Int32)), (.int (1 : Int32))]) (rest := [(.ref b0)]) (lenOf own_pd2 rfl) rfl rfl (W := 1) (Nat.le_of_eq rfl) (hb hby own_d7_7) (by decide) (by decide) (by decide) (by decide)
  obtain ⟨rfl, N1, e1⟩ := hQ1
  have N1' := Fr.app N0 N1
  refine own_st st1 ?_
  refine own_st (fun _ k => Jvm.RoadKit.acmp (g := (mkF m 10 #[.val (.ref a1), .val (.ref a2), .val (.int (3 : Int32)), .val (.int (1 : Int32))] [(.ref b0), (.ref b0)])) X1 hx rfl rfl rfl (pc0 := 10) (pc' := 13) (same := true) rfl (hb hby own_d7_10) rfl (decide_eq_true rfl) (by decide) (by decide) k) ?_
  refine own_st (fun _ k => XS.aloadN X1.here hx rfl (hb hby own_d7_13) rfl rfl k) ?_
  refine own_st (fun _ k => XS.iconst X1.here hx rfl (hb hby own_d7_14) k) ?_
  refine own_st (own_ldR X1 hx hZ e1 (V1.ext O0) rfl (j := (1 : Int32)) (by decide) (v := (.ref b3)) rfl (g := (mkF m 15 #[.val (.ref a1), .val (.ref a2), .val (.int (3 : Int32)), .val (.int (1 : Int32))] [(.int (1 : Int32)), (.ref a1)])) rfl rfl (hb hby own_d7_15)) ?_
  show own_Go _ _ _ _ T1 (mkF m 16 #[.val (.ref a1), .val (.ref a2), .val (.int (3 : Int32)), .val (.int (1 : Int32))] [(.ref b3)])
  refine own_st (fun _ k => XS.aloadN X1.here hx rfl (hb hby own_d7_16) rfl rfl k) ?_
  refine own_st (fun _ k => XS.iconst X1.here hx rfl (hb hby own_d7_17) k) ?_
  refine own_st (fun _ k => XS.iloadN X1.here hx rfl (hb hby own_d7_18) rfl k) ?_
  refine own_st (fun _ k => XS.iloadN X1.here hx rfl (hb hby own_d7_19) rfl k) ?_
  obtain ⟨v2, T2, L2, hQ2, X2, st2⟩ := own_callS X1 hx hZ (y := (⟨"com/example/sheaf/sheaf/CountedKeysMovePinLaw", "refAfter", "([Ljava/lang/Object;III)Ljava/lang/Object;"⟩ : MethodName)) hown (own_w52 hw) (own_w53 hw) (own_w43 hw) (own_w54 hw) (by decide) (own_raE l hw [] a2 (1 : Int32) (3 : Int32) (1 : Int32) (.ref b3) k2 [(.ref b0), .null, (.ref b2), (.ref b3)] h0 n0 (Nat.le_trans Z0 O0.1) rfl (by decide) rfl rfl (V2.ext O0)) e1 (g := (mkF m 20 #[.val (.ref a1), .val (.ref a2), .val (.int (3 : Int32)), .val (.int (1 : Int32))] [(.int (1 : Int32)), (.int (3 : Int32)), (.int (1 : Int32)), (.ref a2), (.ref b3)])) rfl (by rw [hml]; rfl) (argsL := [(.ref a2), (.int (1 : Int32)), (.int (3 : Int32)), (.int (1 : Int32))]) (rest := [(.ref b3)]) (lenOf own_pd2 rfl) rfl rfl (W := 1) (Nat.le_of_eq rfl) (hb hby own_d7_20) (by decide) (by decide) (by decide) (by decide)
  obtain ⟨rfl, N2, e2⟩ := hQ2
  have N2' := Fr.app N1' N2
  refine own_st st2 ?_
  refine own_st (fun _ k => Jvm.RoadKit.acmp (g := (mkF m 23 #[.val (.ref a1), .val (.ref a2), .val (.int (3 : Int32)), .val (.int (1 : Int32))] [(.ref b3), (.ref b3)])) X2 hx rfl rfl rfl (pc0 := 23) (pc' := 26) (same := true) rfl (hb hby own_d7_23) rfl (decide_eq_true rfl) (by decide) (by decide) k) ?_
  show own_Go _ _ _ _ T2 (mkF m 26 #[.val (.ref a1), .val (.ref a2), .val (.int (3 : Int32)), .val (.int (1 : Int32))] [])
  refine own_st (fun _ k => XS.aloadN X2.here hx rfl (hb hby own_d7_26) rfl rfl k) ?_
  refine own_st (fun _ k => XS.iconst X2.here hx rfl (hb hby own_d7_27) k) ?_
  refine own_st (own_ldR X2 hx hZ e2 (V1.ext O0) rfl (j := (2 : Int32)) (by decide) (v := (.ref b2)) rfl (g := (mkF m 28 #[.val (.ref a1), .val (.ref a2), .val (.int (3 : Int32)), .val (.int (1 : Int32))] [(.int (2 : Int32)), (.ref a1)])) rfl rfl (hb hby own_d7_28)) ?_
  refine own_st (fun _ k => XS.aloadN X2.here hx rfl (hb hby own_d7_29) rfl rfl k) ?_
  refine own_st (fun _ k => XS.iconst X2.here hx rfl (hb hby own_d7_30) k) ?_
  refine own_st (fun _ k => XS.iloadN X2.here hx rfl (hb hby own_d7_31) rfl k) ?_
  show own_Go _ _ _ _ T2 (mkF m 32 #[.val (.ref a1), .val (.ref a2), .val (.int (3 : Int32)), .val (.int (1 : Int32))] [(.int (3 : Int32)), (.int (2 : Int32)), (.ref a2), (.ref b2)])
  refine own_st (fun _ k => XS.iloadN X2.here hx rfl (hb hby own_d7_32) rfl k) ?_
  obtain ⟨v3, T3, L3, hQ3, X3, st3⟩ := own_callS X2 hx hZ (y := (⟨"com/example/sheaf/sheaf/CountedKeysMovePinLaw", "refAfter", "([Ljava/lang/Object;III)Ljava/lang/Object;"⟩ : MethodName)) hown (own_w52 hw) (own_w53 hw) (own_w43 hw) (own_w54 hw) (by decide) (own_raN l hw [] a2 (2 : Int32) (3 : Int32) (1 : Int32) (.ref b2) k2 [(.ref b0), .null, (.ref b2), (.ref b3)] h0 n0 (Nat.le_trans Z0 O0.1) (by decide) (by decide) (by decide) rfl rfl (V2.ext O0)) e2 (g := (mkF m 33 #[.val (.ref a1), .val (.ref a2), .val (.int (3 : Int32)), .val (.int (1 : Int32))] [(.int (1 : Int32)), (.int (3 : Int32)), (.int (2 : Int32)), (.ref a2), (.ref b2)])) rfl (by rw [hml]; rfl) (argsL := [(.ref a2), (.int (2 : Int32)), (.int (3 : Int32)), (.int (1 : Int32))]) (rest := [(.ref b2)]) (lenOf own_pd2 rfl) rfl rfl (W := 1) (Nat.le_of_eq rfl) (hb hby own_d7_33) (by decide) (by decide) (by decide) (by decide)
  obtain ⟨rfl, N3, e3⟩ := hQ3
  have N3' := Fr.app N2' N3
  refine own_st st3 ?_
  refine own_st (fun _ k => Jvm.RoadKit.acmp (g := (mkF m 36 #[.val (.ref a1), .val (.ref a2), .val (.int (3 : Int32)), .val (.int (1 : Int32))] [(.ref b2), (.ref b2)])) X3 hx rfl rfl rfl (pc0 := 36) (pc' := 39) (same := true) rfl (hb hby own_d7_36) rfl (decide_eq_true rfl) (by decide) (by decide) k) ?_
  refine own_st (fun _ k => XS.aloadN X3.here hx rfl (hb hby own_d7_39) rfl rfl k) ?_
  refine own_st (fun _ k => XS.iconst X3.here hx rfl (hb hby own_d7_40) k) ?_
  refine own_st (own_ldR X3 hx hZ e3 (V1.ext O0) rfl (j := (3 : Int32)) (by decide) (v := .null) rfl (g := (mkF m 41 #[.val (.ref a1), .val (.ref a2), .val (.int (3 : Int32)), .val (.int (1 : Int32))] [(.int (3 : Int32)), (.ref a1)])) rfl rfl (hb hby own_d7_41)) ?_
  show own_Go _ _ _ _ T3 (mkF m 42 #[.val (.ref a1), .val (.ref a2), .val (.int (3 : Int32)), .val (.int (1 : Int32))] [.null])
  refine own_st (fun _ k => XS.aloadN X3.here hx rfl (hb hby own_d7_42) rfl rfl k) ?_
  refine own_st (fun _ k => XS.iconst X3.here hx rfl (hb hby own_d7_43) k) ?_
  refine own_st (fun _ k => XS.iloadN X3.here hx rfl (hb hby own_d7_44) rfl k) ?_
  refine own_st (fun _ k => XS.iloadN X3.here hx rfl (hb hby own_d7_45) rfl k) ?_
  obtain ⟨v4, T4, L4, hQ4, X4, st4⟩ := own_callS X3 hx hZ (y := (⟨"com/example/sheaf/sheaf/CountedKeysMovePinLaw", "refAfter", "([Ljava/lang/Object;III)Ljava/lang/Object;"⟩ : MethodName)) hown (own_w52 hw) (own_w53 hw) (own_w43 hw) (own_w54 hw) (by decide) (own_raF l hw [] a2 (3 : Int32) (3 : Int32) (1 : Int32) .null k2 [(.ref b0), .null, (.ref b2), (.ref b3)] h0 n0 (Nat.le_trans Z0 O0.1) (by decide) rfl (V2.ext O0)) e3 (g := (mkF m 46 #[.val (.ref a1), .val (.ref a2), .val (.int (3 : Int32)), .val (.int (1 : Int32))] [(.int (1 : Int32)), (.int (3 : Int32)), (.int (3 : Int32)), (.ref a2), .null])) rfl (by rw [hml]; rfl) (argsL := [(.ref a2), (.int (3 : Int32)), (.int (3 : Int32)), (.int (1 : Int32))]) (rest := [.null]) (lenOf own_pd2 rfl) rfl rfl (W := 1) (Nat.le_of_eq rfl) (hb hby own_d7_46) (by decide) (by decide) (by decide) (by decide)
  obtain ⟨rfl, N4, e4⟩ := hQ4
  have N4' := Fr.app N3' N4
  refine own_st st4 ?_
  refine own_st (fun _ k => Jvm.RoadKit.acmp (g := (mkF m 49 #[.val (.ref a1), .val (.ref a2), .val (.int (3 : Int32)), .val (.int (1 : Int32))] [.null, .null])) X4 hx rfl rfl rfl (pc0 := 49) (pc' := 52) (same := true) rfl (hb hby own_d7_49) rfl (decide_eq_true rfl) (by decide) (by decide) k) ?_
  show own_Go _ _ _ _ T4 (mkF m 52 #[.val (.ref a1), .val (.ref a2), .val (.int (3 : Int32)), .val (.int (1 : Int32))] [])
  refine own_st (fun _ k => XS.iconst X4.here hx rfl (hb hby own_d7_52) k) ?_
  refine own_st (fun _ k => XS.goto X4.here hx rfl (pc0 := 53) (pc' := 57) rfl (hb hby own_d7_53) (by decide) (by decide) k) ?_
  exact own_retN X4 hx hret (by simp) hlk (hb hby own_d7_57) ⟨rfl, N4', e4⟩ (by decide) (by decide)
def own_im32_Q (Z : State) (a1 a2 : Addr) (f t : Int32) (k1 k2 : ClassId) (o0 o1 o2 o3 : Int32) (h0 : Heap) (n0 : Nat) (v : Option Value) (h : Heap) (L : List Loc) : Prop := v = some (.int 1) ∧ Fr n0 L ∧ h = h0
set_option maxRecDepth 65536 in
set_option maxHeartbeats 40000000 in
theorem own_im32 (l : Launch) {Z : State} {a0 : Array Value} (hw : own_W Z a0) (ws : List Jvm.Cond) (a1 a2 : Addr) (f t : Int32) (k1 k2 : ClassId) (o0 o1 o2 o3 : Int32) (h0 : Heap) (n0 : Nat) (Z0 : n0 ≤ h0.size) (hf : f = (3 : Int32)) (ht : t = (2 : Int32)) (V1 : Arv Z h0 a1 k1 .int 4 [(.int o0), (.int o1), (.int o3), (.int o3)] (.int (0 : Int32))) (V2 : Arv Z h0 a2 k2 .int 4 [(.int o0), (.int o1), (.int o2), (.int o3)] (.int (0 : Int32))) :
    MetFree l (⟨"com/example/sheaf/sheaf/CountedKeysMovePinLaw", "intsMoved", "([I[III)Z"⟩ : MethodName) (head1 (Jvm.Cond.code (⟨"com/example/sheaf/sheaf/CountedKeysMovePinLaw", "intsMoved", "([I[III)Z"⟩ : MethodName) method_4_code 4 (some .boolean) :: ws) ({ frames := 1, cells := 0, slots := 0, locals := 16 } : Room)) (fun a U => a = #[(.ref a1), (.ref a2), (.int f), (.int t)] ∧ Z.Warmed39 U.vm ∧ U.heap = h0) (fun _ _ _ _ _ => True) (fun _ U o U' => ∃ v L, o = .returned v ∧ own_im32_Q Z a1 a2 f t k1 k2 o0 o1 o2 o3 h0 n0 v U'.heap L ∧ FrameEnd U o U' L ({ frames := 1, cells := 0, slots := 0, locals := 16 } : Room).cells ({ frames := 1, cells := 0, slots := 0, locals := 16 } : Room).slots) := by
  refine own_enter (C := ({ frames := 1, cells := 0, slots := 0, locals := 16 } : Room).cells) (S := ({ frames := 1, cells := 0, slots := 0, locals := 16 } : Room).slots) (plainFor_of_name own_pn2) ?_
  intro p e s m below meth c T0 X0 I e0
  obtain ⟨hx, hby, hml, hown, hnm, hret, hlk, hZ⟩ := I
  have N0 := Fr.nil n0
  have O0 := own_extr h0
  refine own_cast (own_ef5 m a1 a2 f t) ?_
  show own_Go _ _ _ _ T0 (mkF m 0 #[.val (.ref a1), .val (.ref a2), .val (.int f), .val (.int t)] [])
  rw [hf, ht]
  show own_Go _ _ _ _ T0 (mkF m 0 #[.val (.ref a1), .val (.ref a2), .val (.int (3 : Int32)), .val (.int (2 : Int32))] [])
  refine own_st (fun _ k => XS.aloadN X0.here hx rfl (hb hby own_d5_0) rfl rfl k) ?_
  refine own_st (fun _ k => XS.iconst X0.here hx rfl (hb hby own_d5_1) k) ?_
  refine own_st (own_ldI X0 hx hZ e0 (V1.ext O0) (j := (0 : Int32)) (by decide) (v := (.int o0)) rfl (g := (mkF m 2 #[.val (.ref a1), .val (.ref a2), .val (.int (3 : Int32)), .val (.int (2 : Int32))] [(.int (0 : Int32)), (.ref a1)])) rfl rfl (hb hby own_d5_2)) ?_
  refine own_st (fun _ k => XS.aloadN X0.here hx rfl (hb hby own_d5_3) rfl rfl k) ?_
  refine own_st (fun _ k => XS.iconst X0.here hx rfl (hb hby own_d5_4) k) ?_
  refine own_st (fun _ k => XS.iloadN X0.here hx rfl (hb hby own_d5_5) rfl k) ?_
  show own_Go _ _ _ _ T0 (mkF m 6 #[.val (.ref a1), .val (.ref a2), .val (.int (3 : Int32)), .val (.int (2 : Int32))] [(.int (3 : Int32)), (.int (0 : Int32)), (.ref a2), (.int o0)])
  refine own_st (fun _ k => XS.iloadN X0.here hx rfl (hb hby own_d5_6) rfl k) ?_
  obtain ⟨v1, T1, L1, hQ1, X1, st1⟩ := own_callS X0 hx hZ (y := (⟨"com/example/sheaf/sheaf/CountedKeysMovePinLaw", "intAfter", "([IIII)I"⟩ : MethodName)) hown (own_w45 hw) (own_w46 hw) (own_w43 hw) (own_w47 hw) (by decide) (own_iaN l hw [] a2 (0 : Int32) (3 : Int32) (2 : Int32) o0 k2 [(.int o0), (.int o1), (.int o2), (.int o3)] h0 n0 (Nat.le_trans Z0 O0.1) (by decide) (by decide) rfl (V2.ext O0)) e0 (g := (mkF m 7 #[.val (.ref a1), .val (.ref a2), .val (.int (3 : Int32)), .val (.int (2 : Int32))] [(.int (2 : Int32)), (.int (3 : Int32)), (.int (0 : Int32)), (.ref a2), (.int o0)])) rfl (by rw [hml]; rfl) (argsL := [(.ref a2), (.int (0 : Int32)), (.int (3 : Int32)), (.int (2 : Int32))]) (rest := [(.int o0)]) (lenOf own_pd1 rfl) rfl rfl (W := 1) (Nat.le_of_eq rfl) (hb hby own_d5_7) (by decide) (by decide) (by decide) (by decide)
  obtain ⟨rfl, N1, e1⟩ := hQ1
  have N1' := Fr.app N0 N1
  refine own_st st1 ?_
  refine own_st (fun _ k => XS.icmpNo X1.here hx rfl (hb hby own_d5_10) rfl (teq (rfl : o0 = o0)).2 k) ?_
  refine own_st (fun _ k => XS.aloadN X1.here hx rfl (hb hby own_d5_13) rfl rfl k) ?_
  refine own_st (fun _ k => XS.iconst X1.here hx rfl (hb hby own_d5_14) k) ?_
  refine own_st (own_ldI X1 hx hZ e1 (V1.ext O0) (j := (1 : Int32)) (by decide) (v := (.int o1)) rfl (g := (mkF m 15 #[.val (.ref a1), .val (.ref a2), .val (.int (3 : Int32)), .val (.int (2 : Int32))] [(.int (1 : Int32)), (.ref a1)])) rfl rfl (hb hby own_d5_15)) ?_
  show own_Go _ _ _ _ T1 (mkF m 16 #[.val (.ref a1), .val (.ref a2), .val (.int (3 : Int32)), .val (.int (2 : Int32))] [(.int o1)])
  refine own_st (fun _ k => XS.aloadN X1.here hx rfl (hb hby own_d5_16) rfl rfl k) ?_
  refine own_st (fun _ k => XS.iconst X1.here hx rfl (hb hby own_d5_17) k) ?_
  refine own_st (fun _ k => XS.iloadN X1.here hx rfl (hb hby own_d5_18) rfl k) ?_
  refine own_st (fun _ k => XS.iloadN X1.here hx rfl (hb hby own_d5_19) rfl k) ?_
  obtain ⟨v2, T2, L2, hQ2, X2, st2⟩ := own_callS X1 hx hZ (y := (⟨"com/example/sheaf/sheaf/CountedKeysMovePinLaw", "intAfter", "([IIII)I"⟩ : MethodName)) hown (own_w45 hw) (own_w46 hw) (own_w43 hw) (own_w47 hw) (by decide) (own_iaN l hw [] a2 (1 : Int32) (3 : Int32) (2 : Int32) o1 k2 [(.int o0), (.int o1), (.int o2), (.int o3)] h0 n0 (Nat.le_trans Z0 O0.1) (by decide) (by decide) rfl (V2.ext O0)) e1 (g := (mkF m 20 #[.val (.ref a1), .val (.ref a2), .val (.int (3 : Int32)), .val (.int (2 : Int32))] [(.int (2 : Int32)), (.int (3 : Int32)), (.int (1 : Int32)), (.ref a2), (.int o1)])) rfl (by rw [hml]; rfl) (argsL := [(.ref a2), (.int (1 : Int32)), (.int (3 : Int32)), (.int (2 : Int32))]) (rest := [(.int o1)]) (lenOf own_pd1 rfl) rfl rfl (W := 1) (Nat.le_of_eq rfl) (hb hby own_d5_20) (by decide) (by decide) (by decide) (by decide)
  obtain ⟨rfl, N2, e2⟩ := hQ2
  have N2' := Fr.app N1' N2
  refine own_st st2 ?_
  refine own_st (fun _ k => XS.icmpNo X2.here hx rfl (hb hby own_d5_23) rfl (teq (rfl : o1 = o1)).2 k) ?_
  show own_Go _ _ _ _ T2 (mkF m 26 #[.val (.ref a1), .val (.ref a2), .val (.int (3 : Int32)), .val (.int (2 : Int32))] [])
  refine own_st (fun _ k => XS.aloadN X2.here hx rfl (hb hby own_d5_26) rfl rfl k) ?_
  refine own_st (fun _ k => XS.iconst X2.here hx rfl (hb hby own_d5_27) k) ?_
  refine own_st (own_ldI X2 hx hZ e2 (V1.ext O0) (j := (2 : Int32)) (by decide) (v := (.int o3)) rfl (g := (mkF m 28 #[.val (.ref a1), .val (.ref a2), .val (.int (3 : Int32)), .val (.int (2 : Int32))] [(.int (2 : Int32)), (.ref a1)])) rfl rfl (hb hby own_d5_28)) ?_
  refine own_st (fun _ k => XS.aloadN X2.here hx rfl (hb hby own_d5_29) rfl rfl k) ?_
  refine own_st (fun _ k => XS.iconst X2.here hx rfl (hb hby own_d5_30) k) ?_
  refine own_st (fun _ k => XS.iloadN X2.here hx rfl (hb hby own_d5_31) rfl k) ?_
  show own_Go _ _ _ _ T2 (mkF m 32 #[.val (.ref a1), .val (.ref a2), .val (.int (3 : Int32)), .val (.int (2 : Int32))] [(.int (3 : Int32)), (.int (2 : Int32)), (.ref a2), (.int o3)])
  refine own_st (fun _ k => XS.iloadN X2.here hx rfl (hb hby own_d5_32) rfl k) ?_
  obtain ⟨v3, T3, L3, hQ3, X3, st3⟩ := own_callS X2 hx hZ (y := (⟨"com/example/sheaf/sheaf/CountedKeysMovePinLaw", "intAfter", "([IIII)I"⟩ : MethodName)) hown (own_w45 hw) (own_w46 hw) (own_w43 hw) (own_w47 hw) (by decide) (own_iaE l hw [] a2 (2 : Int32) (3 : Int32) (2 : Int32) o3 k2 [(.int o0), (.int o1), (.int o2), (.int o3)] h0 n0 (Nat.le_trans Z0 O0.1) rfl (by decide) rfl (V2.ext O0)) e2 (g := (mkF m 33 #[.val (.ref a1), .val (.ref a2), .val (.int (3 : Int32)), .val (.int (2 : Int32))] [(.int (2 : Int32)), (.int (3 : Int32)), (.int (2 : Int32)), (.ref a2), (.int o3)])) rfl (by rw [hml]; rfl) (argsL := [(.ref a2), (.int (2 : Int32)), (.int (3 : Int32)), (.int (2 : Int32))]) (rest := [(.int o3)]) (lenOf own_pd1 rfl) rfl rfl (W := 1) (Nat.le_of_eq rfl) (hb hby own_d5_33) (by decide) (by decide) (by decide) (by decide)
  obtain ⟨rfl, N3, e3⟩ := hQ3
  have N3' := Fr.app N2' N3
  refine own_st st3 ?_
  refine own_st (fun _ k => XS.icmpNo X3.here hx rfl (hb hby own_d5_36) rfl (teq (rfl : o3 = o3)).2 k) ?_
  refine own_st (fun _ k => XS.aloadN X3.here hx rfl (hb hby own_d5_39) rfl rfl k) ?_
  refine own_st (fun _ k => XS.iconst X3.here hx rfl (hb hby own_d5_40) k) ?_
  refine own_st (own_ldI X3 hx hZ e3 (V1.ext O0) (j := (3 : Int32)) (by decide) (v := (.int o3)) rfl (g := (mkF m 41 #[.val (.ref a1), .val (.ref a2), .val (.int (3 : Int32)), .val (.int (2 : Int32))] [(.int (3 : Int32)), (.ref a1)])) rfl rfl (hb hby own_d5_41)) ?_
  show own_Go _ _ _ _ T3 (mkF m 42 #[.val (.ref a1), .val (.ref a2), .val (.int (3 : Int32)), .val (.int (2 : Int32))] [(.int o3)])
  refine own_st (fun _ k => XS.aloadN X3.here hx rfl (hb hby own_d5_42) rfl rfl k) ?_
  refine own_st (fun _ k => XS.iconst X3.here hx rfl (hb hby own_d5_43) k) ?_
  refine own_st (fun _ k => XS.iloadN X3.here hx rfl (hb hby own_d5_44) rfl k) ?_
  refine own_st (fun _ k => XS.iloadN X3.here hx rfl (hb hby own_d5_45) rfl k) ?_
  obtain ⟨v4, T4, L4, hQ4, X4, st4⟩ := own_callS X3 hx hZ (y := (⟨"com/example/sheaf/sheaf/CountedKeysMovePinLaw", "intAfter", "([IIII)I"⟩ : MethodName)) hown (own_w45 hw) (own_w46 hw) (own_w43 hw) (own_w47 hw) (by decide) (own_iaN l hw [] a2 (3 : Int32) (3 : Int32) (2 : Int32) o3 k2 [(.int o0), (.int o1), (.int o2), (.int o3)] h0 n0 (Nat.le_trans Z0 O0.1) (by decide) (by decide) rfl (V2.ext O0)) e3 (g := (mkF m 46 #[.val (.ref a1), .val (.ref a2), .val (.int (3 : Int32)), .val (.int (2 : Int32))] [(.int (2 : Int32)), (.int (3 : Int32)), (.int (3 : Int32)), (.ref a2), (.int o3)])) rfl (by rw [hml]; rfl) (argsL := [(.ref a2), (.int (3 : Int32)), (.int (3 : Int32)), (.int (2 : Int32))]) (rest := [(.int o3)]) (lenOf own_pd1 rfl) rfl rfl (W := 1) (Nat.le_of_eq rfl) (hb hby own_d5_46) (by decide) (by decide) (by decide) (by decide)
  obtain ⟨rfl, N4, e4⟩ := hQ4
  have N4' := Fr.app N3' N4
  refine own_st st4 ?_
  refine own_st (fun _ k => XS.icmpNo X4.here hx rfl (hb hby own_d5_49) rfl (teq (rfl : o3 = o3)).2 k) ?_
  show own_Go _ _ _ _ T4 (mkF m 52 #[.val (.ref a1), .val (.ref a2), .val (.int (3 : Int32)), .val (.int (2 : Int32))] [])
  refine own_st (fun _ k => XS.iconst X4.here hx rfl (hb hby own_d5_52) k) ?_
  refine own_st (fun _ k => XS.goto X4.here hx rfl (pc0 := 53) (pc' := 57) rfl (hb hby own_d5_53) (by decide) (by decide) k) ?_
  exact own_retN X4 hx hret (by simp) hlk (hb hby own_d5_57) ⟨rfl, N4', e4⟩ (by decide) (by decide)
def own_rm32_Q (Z : State) (a1 a2 : Addr) (f t : Int32) (k1 k2 : ClassId) (b0 b1 b2 b3 : Addr) (h0 : Heap) (n0 : Nat) (v : Option Value) (h : Heap) (L : List Loc) : Prop := v = some (.int 1) ∧ Fr n0 L ∧ h = h0
set_option maxRecDepth 65536 in
set_option maxHeartbeats 40000000 in
theorem own_rm32 (l : Launch) {Z : State} {a0 : Array Value} (hw : own_W Z a0) (ws : List Jvm.Cond) (a1 a2 : Addr) (f t : Int32) (k1 k2 : ClassId) (b0 b1 b2 b3 : Addr) (h0 : Heap) (n0 : Nat) (Z0 : n0 ≤ h0.size) (hf : f = (3 : Int32)) (ht : t = (2 : Int32)) (V1 : Arv Z h0 a1 k1 (.object "java/lang/Object") 4 [(.ref b0), (.ref b1), (.ref b3), .null] .null) (V2 : Arv Z h0 a2 k2 (.object "java/lang/Object") 4 [(.ref b0), (.ref b1), .null, (.ref b3)] .null) :
    MetFree l (⟨"com/example/sheaf/sheaf/CountedKeysMovePinLaw", "refsMoved", "([Ljava/lang/Object;[Ljava/lang/Object;II)Z"⟩ : MethodName) (head1 (Jvm.Cond.code (⟨"com/example/sheaf/sheaf/CountedKeysMovePinLaw", "refsMoved", "([Ljava/lang/Object;[Ljava/lang/Object;II)Z"⟩ : MethodName) method_6_code 4 (some .boolean) :: ws) ({ frames := 1, cells := 0, slots := 0, locals := 16 } : Room)) (fun a U => a = #[(.ref a1), (.ref a2), (.int f), (.int t)] ∧ Z.Warmed39 U.vm ∧ U.heap = h0) (fun _ _ _ _ _ => True) (fun _ U o U' => ∃ v L, o = .returned v ∧ own_rm32_Q Z a1 a2 f t k1 k2 b0 b1 b2 b3 h0 n0 v U'.heap L ∧ FrameEnd U o U' L ({ frames := 1, cells := 0, slots := 0, locals := 16 } : Room).cells ({ frames := 1, cells := 0, slots := 0, locals := 16 } : Room).slots) := by
  refine own_enter (C := ({ frames := 1, cells := 0, slots := 0, locals := 16 } : Room).cells) (S := ({ frames := 1, cells := 0, slots := 0, locals := 16 } : Room).slots) (plainFor_of_name own_pn2) ?_
  intro p e s m below meth c T0 X0 I e0
  obtain ⟨hx, hby, hml, hown, hnm, hret, hlk, hZ⟩ := I
  have N0 := Fr.nil n0
  have O0 := own_extr h0
  refine own_cast (own_ef7 m a1 a2 f t) ?_
  show own_Go _ _ _ _ T0 (mkF m 0 #[.val (.ref a1), .val (.ref a2), .val (.int f), .val (.int t)] [])
  rw [hf, ht]
  show own_Go _ _ _ _ T0 (mkF m 0 #[.val (.ref a1), .val (.ref a2), .val (.int (3 : Int32)), .val (.int (2 : Int32))] [])
  refine own_st (fun _ k => XS.aloadN X0.here hx rfl (hb hby own_d7_0) rfl rfl k) ?_
  refine own_st (fun _ k => XS.iconst X0.here hx rfl (hb hby own_d7_1) k) ?_
  refine own_st (own_ldR X0 hx hZ e0 (V1.ext O0) rfl (j := (0 : Int32)) (by decide) (v := (.ref b0)) rfl (g := (mkF m 2 #[.val (.ref a1), .val (.ref a2), .val (.int (3 : Int32)), .val (.int (2 : Int32))] [(.int (0 : Int32)), (.ref a1)])) rfl rfl (hb hby own_d7_2)) ?_
  refine own_st (fun _ k => XS.aloadN X0.here hx rfl (hb hby own_d7_3) rfl rfl k) ?_
  refine own_st (fun _ k => XS.iconst X0.here hx rfl (hb hby own_d7_4) k) ?_
  refine own_st (fun _ k => XS.iloadN X0.here hx rfl (hb hby own_d7_5) rfl k) ?_
  show own_Go _ _ _ _ T0 (mkF m 6 #[.val (.ref a1), .val (.ref a2), .val (.int (3 : Int32)), .val (.int (2 : Int32))] [(.int (3 : Int32)), (.int (0 : Int32)), (.ref a2), (.ref b0)])
  refine own_st (fun _ k => XS.iloadN X0.here hx rfl (hb hby own_d7_6) rfl k) ?_
  obtain ⟨v1, T1, L1, hQ1, X1, st1⟩ := own_callS X0 hx hZ (y := (⟨"com/example/sheaf/sheaf/CountedKeysMovePinLaw", "refAfter", "([Ljava/lang/Object;III)Ljava/lang/Object;"⟩ : MethodName)) hown (own_w52 hw) (own_w53 hw) (own_w43 hw) (own_w54 hw) (by decide) (own_raN l hw [] a2 (0 : Int32) (3 : Int32) (2 : Int32) (.ref b0) k2 [(.ref b0), (.ref b1), .null, (.ref b3)] h0 n0 (Nat.le_trans Z0 O0.1) (by decide) (by decide) (by decide) rfl rfl (V2.ext O0)) e0 (g := (mkF m 7 #[.val (.ref a1), .val (.ref a2), .val (.int (3 : Int32)), .val (.int (2 : Int32))] [(.int (2 : Int32)), (.int (3 : Int32)), (.int (0 : Int32)), (.ref a2), (.ref b0)])) rfl (by rw [hml]; rfl) (argsL := [(.ref a2), (.int (0 : Int32)), (.int (3 : Int32)), (.int (2 : Int32))]) (rest := [(.ref b0)]) (lenOf own_pd2 rfl) rfl rfl (W := 1) (Nat.le_of_eq rfl) (hb hby own_d7_7) (by decide) (by decide) (by decide) (by decide)
  obtain ⟨rfl, N1, e1⟩ := hQ1
  have N1' := Fr.app N0 N1
  refine own_st st1 ?_
  refine own_st (fun _ k => Jvm.RoadKit.acmp (g := (mkF m 10 #[.val (.ref a1), .val (.ref a2), .val (.int (3 : Int32)), .val (.int (2 : Int32))] [(.ref b0), (.ref b0)])) X1 hx rfl rfl rfl (pc0 := 10) (pc' := 13) (same := true) rfl (hb hby own_d7_10) rfl (decide_eq_true rfl) (by decide) (by decide) k) ?_
  refine own_st (fun _ k => XS.aloadN X1.here hx rfl (hb hby own_d7_13) rfl rfl k) ?_
  refine own_st (fun _ k => XS.iconst X1.here hx rfl (hb hby own_d7_14) k) ?_
  refine own_st (own_ldR X1 hx hZ e1 (V1.ext O0) rfl (j := (1 : Int32)) (by decide) (v := (.ref b1)) rfl (g := (mkF m 15 #[.val (.ref a1), .val (.ref a2), .val (.int (3 : Int32)), .val (.int (2 : Int32))] [(.int (1 : Int32)), (.ref a1)])) rfl rfl (hb hby own_d7_15)) ?_
  show own_Go _ _ _ _ T1 (mkF m 16 #[.val (.ref a1), .val (.ref a2), .val (.int (3 : Int32)), .val (.int (2 : Int32))] [(.ref b1)])
  refine own_st (fun _ k => XS.aloadN X1.here hx rfl (hb hby own_d7_16) rfl rfl k) ?_
  refine own_st (fun _ k => XS.iconst X1.here hx rfl (hb hby own_d7_17) k) ?_
  refine own_st (fun _ k => XS.iloadN X1.here hx rfl (hb hby own_d7_18) rfl k) ?_
  refine own_st (fun _ k => XS.iloadN X1.here hx rfl (hb hby own_d7_19) rfl k) ?_
  obtain ⟨v2, T2, L2, hQ2, X2, st2⟩ := own_callS X1 hx hZ (y := (⟨"com/example/sheaf/sheaf/CountedKeysMovePinLaw", "refAfter", "([Ljava/lang/Object;III)Ljava/lang/Object;"⟩ : MethodName)) hown (own_w52 hw) (own_w53 hw) (own_w43 hw) (own_w54 hw) (by decide) (own_raN l hw [] a2 (1 : Int32) (3 : Int32) (2 : Int32) (.ref b1) k2 [(.ref b0), (.ref b1), .null, (.ref b3)] h0 n0 (Nat.le_trans Z0 O0.1) (by decide) (by decide) (by decide) rfl rfl (V2.ext O0)) e1 (g := (mkF m 20 #[.val (.ref a1), .val (.ref a2), .val (.int (3 : Int32)), .val (.int (2 : Int32))] [(.int (2 : Int32)), (.int (3 : Int32)), (.int (1 : Int32)), (.ref a2), (.ref b1)])) rfl (by rw [hml]; rfl) (argsL := [(.ref a2), (.int (1 : Int32)), (.int (3 : Int32)), (.int (2 : Int32))]) (rest := [(.ref b1)]) (lenOf own_pd2 rfl) rfl rfl (W := 1) (Nat.le_of_eq rfl) (hb hby own_d7_20) (by decide) (by decide) (by decide) (by decide)
  obtain ⟨rfl, N2, e2⟩ := hQ2
  have N2' := Fr.app N1' N2
  refine own_st st2 ?_
  refine own_st (fun _ k => Jvm.RoadKit.acmp (g := (mkF m 23 #[.val (.ref a1), .val (.ref a2), .val (.int (3 : Int32)), .val (.int (2 : Int32))] [(.ref b1), (.ref b1)])) X2 hx rfl rfl rfl (pc0 := 23) (pc' := 26) (same := true) rfl (hb hby own_d7_23) rfl (decide_eq_true rfl) (by decide) (by decide) k) ?_
  show own_Go _ _ _ _ T2 (mkF m 26 #[.val (.ref a1), .val (.ref a2), .val (.int (3 : Int32)), .val (.int (2 : Int32))] [])
  refine own_st (fun _ k => XS.aloadN X2.here hx rfl (hb hby own_d7_26) rfl rfl k) ?_
  refine own_st (fun _ k => XS.iconst X2.here hx rfl (hb hby own_d7_27) k) ?_
  refine own_st (own_ldR X2 hx hZ e2 (V1.ext O0) rfl (j := (2 : Int32)) (by decide) (v := (.ref b3)) rfl (g := (mkF m 28 #[.val (.ref a1), .val (.ref a2), .val (.int (3 : Int32)), .val (.int (2 : Int32))] [(.int (2 : Int32)), (.ref a1)])) rfl rfl (hb hby own_d7_28)) ?_
  refine own_st (fun _ k => XS.aloadN X2.here hx rfl (hb hby own_d7_29) rfl rfl k) ?_
  refine own_st (fun _ k => XS.iconst X2.here hx rfl (hb hby own_d7_30) k) ?_
  refine own_st (fun _ k => XS.iloadN X2.here hx rfl (hb hby own_d7_31) rfl k) ?_
  show own_Go _ _ _ _ T2 (mkF m 32 #[.val (.ref a1), .val (.ref a2), .val (.int (3 : Int32)), .val (.int (2 : Int32))] [(.int (3 : Int32)), (.int (2 : Int32)), (.ref a2), (.ref b3)])
  refine own_st (fun _ k => XS.iloadN X2.here hx rfl (hb hby own_d7_32) rfl k) ?_
  obtain ⟨v3, T3, L3, hQ3, X3, st3⟩ := own_callS X2 hx hZ (y := (⟨"com/example/sheaf/sheaf/CountedKeysMovePinLaw", "refAfter", "([Ljava/lang/Object;III)Ljava/lang/Object;"⟩ : MethodName)) hown (own_w52 hw) (own_w53 hw) (own_w43 hw) (own_w54 hw) (by decide) (own_raE l hw [] a2 (2 : Int32) (3 : Int32) (2 : Int32) (.ref b3) k2 [(.ref b0), (.ref b1), .null, (.ref b3)] h0 n0 (Nat.le_trans Z0 O0.1) rfl (by decide) rfl rfl (V2.ext O0)) e2 (g := (mkF m 33 #[.val (.ref a1), .val (.ref a2), .val (.int (3 : Int32)), .val (.int (2 : Int32))] [(.int (2 : Int32)), (.int (3 : Int32)), (.int (2 : Int32)), (.ref a2), (.ref b3)])) rfl (by rw [hml]; rfl) (argsL := [(.ref a2), (.int (2 : Int32)), (.int (3 : Int32)), (.int (2 : Int32))]) (rest := [(.ref b3)]) (lenOf own_pd2 rfl) rfl rfl (W := 1) (Nat.le_of_eq rfl) (hb hby own_d7_33) (by decide) (by decide) (by decide) (by decide)
  obtain ⟨rfl, N3, e3⟩ := hQ3
  have N3' := Fr.app N2' N3
  refine own_st st3 ?_
  refine own_st (fun _ k => Jvm.RoadKit.acmp (g := (mkF m 36 #[.val (.ref a1), .val (.ref a2), .val (.int (3 : Int32)), .val (.int (2 : Int32))] [(.ref b3), (.ref b3)])) X3 hx rfl rfl rfl (pc0 := 36) (pc' := 39) (same := true) rfl (hb hby own_d7_36) rfl (decide_eq_true rfl) (by decide) (by decide) k) ?_
  refine own_st (fun _ k => XS.aloadN X3.here hx rfl (hb hby own_d7_39) rfl rfl k) ?_
  refine own_st (fun _ k => XS.iconst X3.here hx rfl (hb hby own_d7_40) k) ?_
  refine own_st (own_ldR X3 hx hZ e3 (V1.ext O0) rfl (j := (3 : Int32)) (by decide) (v := .null) rfl (g := (mkF m 41 #[.val (.ref a1), .val (.ref a2), .val (.int (3 : Int32)), .val (.int (2 : Int32))] [(.int (3 : Int32)), (.ref a1)])) rfl rfl (hb hby own_d7_41)) ?_
  show own_Go _ _ _ _ T3 (mkF m 42 #[.val (.ref a1), .val (.ref a2), .val (.int (3 : Int32)), .val (.int (2 : Int32))] [.null])
  refine own_st (fun _ k => XS.aloadN X3.here hx rfl (hb hby own_d7_42) rfl rfl k) ?_
  refine own_st (fun _ k => XS.iconst X3.here hx rfl (hb hby own_d7_43) k) ?_
  refine own_st (fun _ k => XS.iloadN X3.here hx rfl (hb hby own_d7_44) rfl k) ?_
  refine own_st (fun _ k => XS.iloadN X3.here hx rfl (hb hby own_d7_45) rfl k) ?_
  obtain ⟨v4, T4, L4, hQ4, X4, st4⟩ := own_callS X3 hx hZ (y := (⟨"com/example/sheaf/sheaf/CountedKeysMovePinLaw", "refAfter", "([Ljava/lang/Object;III)Ljava/lang/Object;"⟩ : MethodName)) hown (own_w52 hw) (own_w53 hw) (own_w43 hw) (own_w54 hw) (by decide) (own_raF l hw [] a2 (3 : Int32) (3 : Int32) (2 : Int32) .null k2 [(.ref b0), (.ref b1), .null, (.ref b3)] h0 n0 (Nat.le_trans Z0 O0.1) (by decide) rfl (V2.ext O0)) e3 (g := (mkF m 46 #[.val (.ref a1), .val (.ref a2), .val (.int (3 : Int32)), .val (.int (2 : Int32))] [(.int (2 : Int32)), (.int (3 : Int32)), (.int (3 : Int32)), (.ref a2), .null])) rfl (by rw [hml]; rfl) (argsL := [(.ref a2), (.int (3 : Int32)), (.int (3 : Int32)), (.int (2 : Int32))]) (rest := [.null]) (lenOf own_pd2 rfl) rfl rfl (W := 1) (Nat.le_of_eq rfl) (hb hby own_d7_46) (by decide) (by decide) (by decide) (by decide)
  obtain ⟨rfl, N4, e4⟩ := hQ4
  have N4' := Fr.app N3' N4
  refine own_st st4 ?_
  refine own_st (fun _ k => Jvm.RoadKit.acmp (g := (mkF m 49 #[.val (.ref a1), .val (.ref a2), .val (.int (3 : Int32)), .val (.int (2 : Int32))] [.null, .null])) X4 hx rfl rfl rfl (pc0 := 49) (pc' := 52) (same := true) rfl (hb hby own_d7_49) rfl (decide_eq_true rfl) (by decide) (by decide) k) ?_
  show own_Go _ _ _ _ T4 (mkF m 52 #[.val (.ref a1), .val (.ref a2), .val (.int (3 : Int32)), .val (.int (2 : Int32))] [])
  refine own_st (fun _ k => XS.iconst X4.here hx rfl (hb hby own_d7_52) k) ?_
  refine own_st (fun _ k => XS.goto X4.here hx rfl (pc0 := 53) (pc' := 57) rfl (hb hby own_d7_53) (by decide) (by decide) k) ?_
  exact own_retN X4 hx hret (by simp) hlk (hb hby own_d7_57) ⟨rfl, N4', e4⟩ (by decide) (by decide)
def own_law_Q (Z : State) (p1 p2 p3 p4 : Int32) (q5 : Int64) (p6 : Int32) (wo wi : Addr) (h0 : Heap) (n0 : Nat) (v : Option Value) (h : Heap) (L : List Loc) : Prop := v = some (.int 1) ∧ Fr n0 L
set_option maxRecDepth 65536 in
set_option maxHeartbeats 40000000 in
theorem own_law (l : Launch) {Z : State} {a0 : Array Value} (hw : own_W Z a0) (ws : List Jvm.Cond) (p1 p2 p3 p4 : Int32) (q5 : Int64) (p6 : Int32) (wo wi : Addr) (h0 : Heap) (n0 : Nat) (Z0 : n0 ≤ h0.size) (So : Sta Z h0 "com/example/sheaf/sheaf/CompactHash" "NO_OBJECTS" "[Ljava/lang/Object;" (.ref wo)) (Si : Sta Z h0 "com/example/sheaf/sheaf/CompactHash" "NO_INTS" "[I" (.ref wi)) :
    MetFree l x (head1 (Jvm.Cond.code x code maxLocals ret :: ws) room_1) (fun a U => a = #[(.int p1), (.int p2), (.int p3), (.int p4), (.long q5), (.int p6)] ∧ Z.Warmed39 U.vm ∧ U.heap = h0) (fun _ _ _ _ _ => True) (fun _ U o U' => ∃ v L, o = .returned v ∧ own_law_Q Z p1 p2 p3 p4 q5 p6 wo wi h0 n0 v U'.heap L ∧ FrameEnd U o U' L 32 128) := by
  refine own_enter (C := 32) (S := 128) (plainFor_of_name own_pn2) ?_
  intro p e s m below meth c T0 X0 I e0
  obtain ⟨hx, hby, hml, hown, hnm, hret, hlk, hZ⟩ := I
  have N0 := Fr.nil n0
  have O0 := own_extr h0
  refine own_cast (own_ef0 m p1 p2 p3 p4 q5 p6) ?_
  show own_Go _ _ _ _ T0 (mkF m 0 #[.val (.int p1), .val (.int p2), .val (.int p3), .val (.int p4), .val (.long q5), .second, .val (.int p6), .unset, .unset, .unset, .unset, .unset, .unset, .unset, .unset, .unset, .unset, .unset, .unset, .unset, .unset, .unset, .unset] [])
  have tl00 : ∀ (Tt : State) (lt : List Loc) (ht : Heap) (Xt : Stand p l e room_1 s m #[(.int p1), (.int p2), (.int p3), (.int p4), (.long q5), (.int p6)] below meth c Tt lt 11 32) (Nt : Fr n0 lt) (et : Tt.heap = ht) (Ot : Ext h0 ht) (f t y1 y2 y3 y4 : Int32) (oc cn oh hd og gr ky : Addr) (Gc : Fld Z ht ky "com/example/sheaf/sheaf/CountedKeys" "counts" "[I" (.ref cn)) (Gg : Fld Z ht ky "com/example/sheaf/sheaf/CountedKeys" "groups" "[Ljava/lang/Object;" .null) (Gh : Fld Z ht ky "com/example/sheaf/sheaf/CountedKeys" "heads" "[I" .null) (M1 : MetFree l (⟨"com/example/sheaf/sheaf/CountedKeysMovePinLaw", "intsMoved", "([I[III)Z"⟩ : MethodName) (head1 [Jvm.Cond.code (⟨"com/example/sheaf/sheaf/CountedKeysMovePinLaw", "intsMoved", "([I[III)Z"⟩ : MethodName) method_4_code 4 (some .boolean)] ({ frames := 1, cells := 0, slots := 0, locals := 16 } : Room)) (fun a U => a = #[.ref cn, .ref oc, .int f, .int t] ∧ Z.Warmed39 U.vm ∧ U.heap = ht) (fun _ _ _ _ _ => True) (fun _ U o U' => ∃ v L, o = .returned v ∧ own_one n0 ht v U'.heap L ∧ FrameEnd U o U' L ({ frames := 1, cells := 0, slots := 0, locals := 16 } : Room).cells ({ frames := 1, cells := 0, slots := 0, locals := 16 } : Room).slots)), own_Go p.tables e below (own_F below s (own_law_Q Z p1 p2 p3 p4 q5 p6 wo wi h0 n0) 32 128) Tt (mkF m 285 #[.val (.int p1), .val (.int p2), .val (.int p3), .val (.int p4), .val (.long q5), .second, .val (.int p6), .val (.int (0 : Int32)), .val (.int (0 : Int32)), .val (.int f), .val (.int t), .val (.ref oc), .val (.ref cn), .val (.int y1), .val (.int y2), .val (.int y3), .val (.int y4), .val (.ref oh), .val (.ref hd), .val (.ref og), .val (.ref gr), .val (.ref ky), .unset] []) := by
    intro Tt lt ht Xt Nt et Ot f t y1 y2 y3 y4 oc cn oh hd og gr ky Gc Gg Gh M1
    refine own_st (fun _ k => XS.aload Xt.here hx rfl (hb hby at_285) rfl rfl k) ?_
    obtain ⟨T1, X1, e1, st1⟩ := getF Xt hx hZ hown (host := "") (Or.inl (own_w30 hw)) Via.refl et Gc (g := (mkF m 287 #[.val (.int p1), .val (.int p2), .val (.int p3), .val (.int p4), .val (.long q5), .second, .val (.int p6), .val (.int (0 : Int32)), .val (.int (0 : Int32)), .val (.int f), .val (.int t), .val (.ref oc), .val (.ref cn), .val (.int y1), .val (.int y2), .val (.int y3), .val (.int y4), .val (.ref oh), .val (.ref hd), .val (.ref og), .val (.ref gr), .val (.ref ky), .unset] [(.ref ky)])) rfl rfl (hb hby at_287)
    refine own_st st1 ?_
    refine own_st (fun _ k => XS.aload X1.here hx rfl (hb hby at_290) rfl rfl k) ?_
    refine own_st (fun _ k => Jvm.RoadKit.acmp (g := (mkF m 292 #[.val (.int p1), .val (.int p2), .val (.int p3), .val (.int p4), .val (.long q5), .second, .val (.int p6), .val (.int (0 : Int32)), .val (.int (0 : Int32)), .val (.int f), .val (.int t), .val (.ref oc), .val (.ref cn), .val (.int y1), .val (.int y2), .val (.int y3), .val (.int y4), .val (.ref oh), .val (.ref hd), .val (.ref og), .val (.ref gr), .val (.ref ky), .unset] [(.ref cn), (.ref cn)])) X1 hx rfl rfl rfl (pc0 := 292) (pc' := 295) (same := true) rfl (hb hby at_292) rfl (decide_eq_true rfl) (by decide) (by decide) k) ?_
    refine own_st (fun _ k => XS.aload X1.here hx rfl (hb hby at_295) rfl rfl k) ?_
    refine own_st (fun _ k => XS.aload X1.here hx rfl (hb hby at_297) rfl rfl k) ?_
    show own_Go _ _ _ _ T1 (mkF m 299 #[.val (.int p1), .val (.int p2), .val (.int p3), .val (.int p4), .val (.long q5), .second, .val (.int p6), .val (.int (0 : Int32)), .val (.int (0 : Int32)), .val (.int f), .val (.int t), .val (.ref oc), .val (.ref cn), .val (.int y1), .val (.int y2), .val (.int y3), .val (.int y4), .val (.ref oh), .val (.ref hd), .val (.ref og), .val (.ref gr), .val (.ref ky), .unset] [(.ref oc), (.ref cn)])
    refine own_st (fun _ k => XS.iload X1.here hx rfl (hb hby at_299) rfl k) ?_
    refine own_st (fun _ k => XS.iload X1.here hx rfl (hb hby at_301) rfl k) ?_
    obtain ⟨v2, T2, L2, hQ2, X2, st2⟩ := own_callS X1 hx hZ (y := (⟨"com/example/sheaf/sheaf/CountedKeysMovePinLaw", "intsMoved", "([I[III)Z"⟩ : MethodName)) hown (own_w41 hw) (own_w42 hw) (own_w43 hw) (own_w44 hw) (by decide) M1 e1 (g := (mkF m 303 #[.val (.int p1), .val (.int p2), .val (.int p3), .val (.int p4), .val (.long q5), .second, .val (.int p6), .val (.int (0 : Int32)), .val (.int (0 : Int32)), .val (.int f), .val (.int t), .val (.ref oc), .val (.ref cn), .val (.int y1), .val (.int y2), .val (.int y3), .val (.int y4), .val (.ref oh), .val (.ref hd), .val (.ref og), .val (.ref gr), .val (.ref ky), .unset] [(.int t), (.int f), (.ref oc), (.ref cn)])) rfl (by rw [hml]; rfl) (argsL := [(.ref cn), (.ref oc), (.int f), (.int t)]) (rest := []) (lenOf own_pd3 rfl) rfl rfl (W := 0) (Nat.le_of_eq rfl) (hb hby at_303) (by decide) (by decide) (by decide) (by decide)
    obtain ⟨rfl, N2, e2⟩ := hQ2
    have N2' := Fr.app Nt N2
    refine own_st st2 ?_
    refine own_st (fun _ k => XS.ifNo X2.here hx rfl (hb hby at_306) rfl ((if0 _ _).trans (feq (by decide : ¬ ((1 : Int32) = (0 : Int32)))).1) k) ?_
    refine own_st (fun _ k => XS.iconst X2.here hx rfl (hb hby at_309) k) ?_
    refine own_st (fun _ k => XS.goto X2.here hx rfl (pc0 := 310) (pc' := 314) rfl (hb hby at_310) (by decide) (by decide) k) ?_
    show own_Go _ _ _ _ T2 (mkF m 314 #[.val (.int p1), .val (.int p2), .val (.int p3), .val (.int p4), .val (.long q5), .second, .val (.int p6), .val (.int (0 : Int32)), .val (.int (0 : Int32)), .val (.int f), .val (.int t), .val (.ref oc), .val (.ref cn), .val (.int y1), .val (.int y2), .val (.int y3), .val (.int y4), .val (.ref oh), .val (.ref hd), .val (.ref og), .val (.ref gr), .val (.ref ky), .unset] [(.int (1 : Int32))])
    refine own_st (fun _ k => XS.istore X2.here hx rfl (hb hby at_314) rfl (l' := #[.val (.int p1), .val (.int p2), .val (.int p3), .val (.int p4), .val (.long q5), .second, .val (.int p6), .val (.int (0 : Int32)), .val (.int (0 : Int32)), .val (.int f), .val (.int t), .val (.ref oc), .val (.ref cn), .val (.int y1), .val (.int y2), .val (.int y3), .val (.int y4), .val (.ref oh), .val (.ref hd), .val (.ref og), .val (.ref gr), .val (.ref ky), .val (.int (1 : Int32))]) rfl k) ?_
    refine own_st (fun _ k => XS.iload X2.here hx rfl (hb hby at_316) rfl k) ?_
    refine own_st (fun _ k => XS.ifYes X2.here hx rfl (pc0 := 318) (pc' := 360) rfl (hb hby at_318) rfl ((if0 _ _).trans (teq (by decide : (0 : Int32) = (0 : Int32))).1) (by decide) (by decide) k) ?_
    refine own_st (fun _ k => XS.iload X2.here hx rfl (hb hby at_360) rfl k) ?_
    refine own_st (fun _ k => XS.ifNo X2.here hx rfl (hb hby at_362) rfl ((if0 _ _).trans (feq (by decide : ¬ ((1 : Int32) = (0 : Int32)))).1) k) ?_
    refine own_st (fun _ k => XS.aload X2.here hx rfl (hb hby at_365) rfl rfl k) ?_
    show own_Go _ _ _ _ T2 (mkF m 367 #[.val (.int p1), .val (.int p2), .val (.int p3), .val (.int p4), .val (.long q5), .second, .val (.int p6), .val (.int (0 : Int32)), .val (.int (0 : Int32)), .val (.int f), .val (.int t), .val (.ref oc), .val (.ref cn), .val (.int y1), .val (.int y2), .val (.int y3), .val (.int y4), .val (.ref oh), .val (.ref hd), .val (.ref og), .val (.ref gr), .val (.ref ky), .val (.int (1 : Int32))] [(.ref ky)])
    obtain ⟨T3, X3, e3, st3⟩ := getF X2 hx hZ hown (host := "") (Or.inl (own_w48 hw)) Via.refl e2 Gg (g := (mkF m 367 #[.val (.int p1), .val (.int p2), .val (.int p3), .val (.int p4), .val (.long q5), .second, .val (.int p6), .val (.int (0 : Int32)), .val (.int (0 : Int32)), .val (.int f), .val (.int t), .val (.ref oc), .val (.ref cn), .val (.int y1), .val (.int y2), .val (.int y3), .val (.int y4), .val (.ref oh), .val (.ref hd), .val (.ref og), .val (.ref gr), .val (.ref ky), .val (.int (1 : Int32))] [(.ref ky)])) rfl rfl (hb hby at_367)
    refine own_st st3 ?_
    refine own_st (fun _ k => XS.ifnonnullNo X3.here hx rfl (hb hby at_370) rfl k) ?_
    refine own_st (fun _ k => XS.iconst X3.here hx rfl (hb hby at_373) k) ?_
    refine own_st (fun _ k => XS.goto X3.here hx rfl (pc0 := 374) (pc' := 378) rfl (hb hby at_374) (by decide) (by decide) k) ?_
    refine own_st (fun _ k => XS.istore X3.here hx rfl (hb hby at_378) rfl (l' := #[.val (.int p1), .val (.int p2), .val (.int p3), .val (.int p4), .val (.long q5), .second, .val (.int p6), .val (.int (0 : Int32)), .val (.int (0 : Int32)), .val (.int f), .val (.int t), .val (.ref oc), .val (.ref cn), .val (.int y1), .val (.int y2), .val (.int y3), .val (.int y4), .val (.ref oh), .val (.ref hd), .val (.ref og), .val (.ref gr), .val (.ref ky), .val (.int (1 : Int32))]) rfl k) ?_
    refine own_st (fun _ k => XS.iload X3.here hx rfl (hb hby at_380) rfl k) ?_
    show own_Go _ _ _ _ T3 (mkF m 382 #[.val (.int p1), .val (.int p2), .val (.int p3), .val (.int p4), .val (.long q5), .second, .val (.int p6), .val (.int (0 : Int32)), .val (.int (0 : Int32)), .val (.int f), .val (.int t), .val (.ref oc), .val (.ref cn), .val (.int y1), .val (.int y2), .val (.int y3), .val (.int y4), .val (.ref oh), .val (.ref hd), .val (.ref og), .val (.ref gr), .val (.ref ky), .val (.int (1 : Int32))] [(.int (0 : Int32))])
    refine own_st (fun _ k => XS.ifYes X3.here hx rfl (pc0 := 382) (pc' := 424) rfl (hb hby at_382) rfl ((if0 _ _).trans (teq (by decide : (0 : Int32) = (0 : Int32))).1) (by decide) (by decide) k) ?_
    refine own_st (fun _ k => XS.iload X3.here hx rfl (hb hby at_424) rfl k) ?_
    refine own_st (fun _ k => XS.ifNo X3.here hx rfl (hb hby at_426) rfl ((if0 _ _).trans (feq (by decide : ¬ ((1 : Int32) = (0 : Int32)))).1) k) ?_
    refine own_st (fun _ k => XS.aload X3.here hx rfl (hb hby at_429) rfl rfl k) ?_
    obtain ⟨T4, X4, e4, st4⟩ := getF X3 hx hZ hown (host := "") (Or.inl (own_w31 hw)) Via.refl e3 Gh (g := (mkF m 431 #[.val (.int p1), .val (.int p2), .val (.int p3), .val (.int p4), .val (.long q5), .second, .val (.int p6), .val (.int (0 : Int32)), .val (.int (0 : Int32)), .val (.int f), .val (.int t), .val (.ref oc), .val (.ref cn), .val (.int y1), .val (.int y2), .val (.int y3), .val (.int y4), .val (.ref oh), .val (.ref hd), .val (.ref og), .val (.ref gr), .val (.ref ky), .val (.int (1 : Int32))] [(.ref ky)])) rfl rfl (hb hby at_431)
    refine own_st st4 ?_
    refine own_st (fun _ k => XS.ifnonnullNo X4.here hx rfl (hb hby at_434) rfl k) ?_
    show own_Go _ _ _ _ T4 (mkF m 437 #[.val (.int p1), .val (.int p2), .val (.int p3), .val (.int p4), .val (.long q5), .second, .val (.int p6), .val (.int (0 : Int32)), .val (.int (0 : Int32)), .val (.int f), .val (.int t), .val (.ref oc), .val (.ref cn), .val (.int y1), .val (.int y2), .val (.int y3), .val (.int y4), .val (.ref oh), .val (.ref hd), .val (.ref og), .val (.ref gr), .val (.ref ky), .val (.int (1 : Int32))] [])
    refine own_st (fun _ k => XS.iconst X4.here hx rfl (hb hby at_437) k) ?_
    refine own_st (fun _ k => XS.goto X4.here hx rfl (pc0 := 438) (pc' := 442) rfl (hb hby at_438) (by decide) (by decide) k) ?_
    refine own_st (fun _ k => XS.istore X4.here hx rfl (hb hby at_442) rfl (l' := #[.val (.int p1), .val (.int p2), .val (.int p3), .val (.int p4), .val (.long q5), .second, .val (.int p6), .val (.int (0 : Int32)), .val (.int (0 : Int32)), .val (.int f), .val (.int t), .val (.ref oc), .val (.ref cn), .val (.int y1), .val (.int y2), .val (.int y3), .val (.int y4), .val (.ref oh), .val (.ref hd), .val (.ref og), .val (.ref gr), .val (.ref ky), .val (.int (1 : Int32))]) rfl k) ?_
    refine own_st (fun _ k => XS.iload X4.here hx rfl (hb hby at_444) rfl k) ?_
    exact own_retN X4 hx hret (by simp) hlk (hb hby at_446) ⟨rfl, N2'⟩ (by decide) (by decide)
  have tl01 : ∀ (Tt : State) (lt : List Loc) (ht : Heap) (Xt : Stand p l e room_1 s m #[(.int p1), (.int p2), (.int p3), (.int p4), (.long q5), (.int p6)] below meth c Tt lt 11 32) (Nt : Fr n0 lt) (et : Tt.heap = ht) (Ot : Ext h0 ht) (f t y1 y2 y3 y4 : Int32) (oc cn oh hd og gr ky : Addr) (Gc : Fld Z ht ky "com/example/sheaf/sheaf/CountedKeys" "counts" "[I" (.ref cn)) (Gg : Fld Z ht ky "com/example/sheaf/sheaf/CountedKeys" "groups" "[Ljava/lang/Object;" .null) (Gh : Fld Z ht ky "com/example/sheaf/sheaf/CountedKeys" "heads" "[I" (.ref hd)) (M1 : MetFree l (⟨"com/example/sheaf/sheaf/CountedKeysMovePinLaw", "intsMoved", "([I[III)Z"⟩ : MethodName) (head1 [Jvm.Cond.code (⟨"com/example/sheaf/sheaf/CountedKeysMovePinLaw", "intsMoved", "([I[III)Z"⟩ : MethodName) method_4_code 4 (some .boolean)] ({ frames := 1, cells := 0, slots := 0, locals := 16 } : Room)) (fun a U => a = #[.ref cn, .ref oc, .int f, .int t] ∧ Z.Warmed39 U.vm ∧ U.heap = ht) (fun _ _ _ _ _ => True) (fun _ U o U' => ∃ v L, o = .returned v ∧ own_one n0 ht v U'.heap L ∧ FrameEnd U o U' L ({ frames := 1, cells := 0, slots := 0, locals := 16 } : Room).cells ({ frames := 1, cells := 0, slots := 0, locals := 16 } : Room).slots)) (M3 : MetFree l (⟨"com/example/sheaf/sheaf/CountedKeysMovePinLaw", "intsMoved", "([I[III)Z"⟩ : MethodName) (head1 [Jvm.Cond.code (⟨"com/example/sheaf/sheaf/CountedKeysMovePinLaw", "intsMoved", "([I[III)Z"⟩ : MethodName) method_4_code 4 (some .boolean)] ({ frames := 1, cells := 0, slots := 0, locals := 16 } : Room)) (fun a U => a = #[.ref hd, .ref oh, .int f, .int t] ∧ Z.Warmed39 U.vm ∧ U.heap = ht) (fun _ _ _ _ _ => True) (fun _ U o U' => ∃ v L, o = .returned v ∧ own_one n0 ht v U'.heap L ∧ FrameEnd U o U' L ({ frames := 1, cells := 0, slots := 0, locals := 16 } : Room).cells ({ frames := 1, cells := 0, slots := 0, locals := 16 } : Room).slots)), own_Go p.tables e below (own_F below s (own_law_Q Z p1 p2 p3 p4 q5 p6 wo wi h0 n0) 32 128) Tt (mkF m 285 #[.val (.int p1), .val (.int p2), .val (.int p3), .val (.int p4), .val (.long q5), .second, .val (.int p6), .val (.int (0 : Int32)), .val (.int (1 : Int32)), .val (.int f), .val (.int t), .val (.ref oc), .val (.ref cn), .val (.int y1), .val (.int y2), .val (.int y3), .val (.int y4), .val (.ref oh), .val (.ref hd), .val (.ref og), .val (.ref gr), .val (.ref ky), .unset] []) := by
    intro Tt lt ht Xt Nt et Ot f t y1 y2 y3 y4 oc cn oh hd og gr ky Gc Gg Gh M1 M3
    refine own_st (fun _ k => XS.aload Xt.here hx rfl (hb hby at_285) rfl rfl k) ?_
    obtain ⟨T5, X5, e5, st5⟩ := getF Xt hx hZ hown (host := "") (Or.inl (own_w30 hw)) Via.refl et Gc (g := (mkF m 287 #[.val (.int p1), .val (.int p2), .val (.int p3), .val (.int p4), .val (.long q5), .second, .val (.int p6), .val (.int (0 : Int32)), .val (.int (1 : Int32)), .val (.int f), .val (.int t), .val (.ref oc), .val (.ref cn), .val (.int y1), .val (.int y2), .val (.int y3), .val (.int y4), .val (.ref oh), .val (.ref hd), .val (.ref og), .val (.ref gr), .val (.ref ky), .unset] [(.ref ky)])) rfl rfl (hb hby at_287)
    refine own_st st5 ?_
    refine own_st (fun _ k => XS.aload X5.here hx rfl (hb hby at_290) rfl rfl k) ?_
    refine own_st (fun _ k => Jvm.RoadKit.acmp (g := (mkF m 292 #[.val (.int p1), .val (.int p2), .val (.int p3), .val (.int p4), .val (.long q5), .second, .val (.int p6), .val (.int (0 : Int32)), .val (.int (1 : Int32)), .val (.int f), .val (.int t), .val (.ref oc), .val (.ref cn), .val (.int y1), .val (.int y2), .val (.int y3), .val (.int y4), .val (.ref oh), .val (.ref hd), .val (.ref og), .val (.ref gr), .val (.ref ky), .unset] [(.ref cn), (.ref cn)])) X5 hx rfl rfl rfl (pc0 := 292) (pc' := 295) (same := true) rfl (hb hby at_292) rfl (decide_eq_true rfl) (by decide) (by decide) k) ?_
    refine own_st (fun _ k => XS.aload X5.here hx rfl (hb hby at_295) rfl rfl k) ?_
    refine own_st (fun _ k => XS.aload X5.here hx rfl (hb hby at_297) rfl rfl k) ?_
    show own_Go _ _ _ _ T5 (mkF m 299 #[.val (.int p1), .val (.int p2), .val (.int p3), .val (.int p4), .val (.long q5), .second, .val (.int p6), .val (.int (0 : Int32)), .val (.int (1 : Int32)), .val (.int f), .val (.int t), .val (.ref oc), .val (.ref cn), .val (.int y1), .val (.int y2), .val (.int y3), .val (.int y4), .val (.ref oh), .val (.ref hd), .val (.ref og), .val (.ref gr), .val (.ref ky), .unset] [(.ref oc), (.ref cn)])
    refine own_st (fun _ k => XS.iload X5.here hx rfl (hb hby at_299) rfl k) ?_
    refine own_st (fun _ k => XS.iload X5.here hx rfl (hb hby at_301) rfl k) ?_
    obtain ⟨v6, T6, L6, hQ6, X6, st6⟩ := own_callS X5 hx hZ (y := (⟨"com/example/sheaf/sheaf/CountedKeysMovePinLaw", "intsMoved", "([I[III)Z"⟩ : MethodName)) hown (own_w41 hw) (own_w42 hw) (own_w43 hw) (own_w44 hw) (by decide) M1 e5 (g := (mkF m 303 #[.val (.int p1), .val (.int p2), .val (.int p3), .val (.int p4), .val (.long q5), .second, .val (.int p6), .val (.int (0 : Int32)), .val (.int (1 : Int32)), .val (.int f), .val (.int t), .val (.ref oc), .val (.ref cn), .val (.int y1), .val (.int y2), .val (.int y3), .val (.int y4), .val (.ref oh), .val (.ref hd), .val (.ref og), .val (.ref gr), .val (.ref ky), .unset] [(.int t), (.int f), (.ref oc), (.ref cn)])) rfl (by rw [hml]; rfl) (argsL := [(.ref cn), (.ref oc), (.int f), (.int t)]) (rest := []) (lenOf own_pd3 rfl) rfl rfl (W := 0) (Nat.le_of_eq rfl) (hb hby at_303) (by decide) (by decide) (by decide) (by decide)
    obtain ⟨rfl, N6, e6⟩ := hQ6
    have N6' := Fr.app Nt N6
    refine own_st st6 ?_
    refine own_st (fun _ k => XS.ifNo X6.here hx rfl (hb hby at_306) rfl ((if0 _ _).trans (feq (by decide : ¬ ((1 : Int32) = (0 : Int32)))).1) k) ?_
    refine own_st (fun _ k => XS.iconst X6.here hx rfl (hb hby at_309) k) ?_
    refine own_st (fun _ k => XS.goto X6.here hx rfl (pc0 := 310) (pc' := 314) rfl (hb hby at_310) (by decide) (by decide) k) ?_
    show own_Go _ _ _ _ T6 (mkF m 314 #[.val (.int p1), .val (.int p2), .val (.int p3), .val (.int p4), .val (.long q5), .second, .val (.int p6), .val (.int (0 : Int32)), .val (.int (1 : Int32)), .val (.int f), .val (.int t), .val (.ref oc), .val (.ref cn), .val (.int y1), .val (.int y2), .val (.int y3), .val (.int y4), .val (.ref oh), .val (.ref hd), .val (.ref og), .val (.ref gr), .val (.ref ky), .unset] [(.int (1 : Int32))])
    refine own_st (fun _ k => XS.istore X6.here hx rfl (hb hby at_314) rfl (l' := #[.val (.int p1), .val (.int p2), .val (.int p3), .val (.int p4), .val (.long q5), .second, .val (.int p6), .val (.int (0 : Int32)), .val (.int (1 : Int32)), .val (.int f), .val (.int t), .val (.ref oc), .val (.ref cn), .val (.int y1), .val (.int y2), .val (.int y3), .val (.int y4), .val (.ref oh), .val (.ref hd), .val (.ref og), .val (.ref gr), .val (.ref ky), .val (.int (1 : Int32))]) rfl k) ?_
    refine own_st (fun _ k => XS.iload X6.here hx rfl (hb hby at_316) rfl k) ?_
    refine own_st (fun _ k => XS.ifYes X6.here hx rfl (pc0 := 318) (pc' := 360) rfl (hb hby at_318) rfl ((if0 _ _).trans (teq (by decide : (0 : Int32) = (0 : Int32))).1) (by decide) (by decide) k) ?_
    refine own_st (fun _ k => XS.iload X6.here hx rfl (hb hby at_360) rfl k) ?_
    refine own_st (fun _ k => XS.ifNo X6.here hx rfl (hb hby at_362) rfl ((if0 _ _).trans (feq (by decide : ¬ ((1 : Int32) = (0 : Int32)))).1) k) ?_
    refine own_st (fun _ k => XS.aload X6.here hx rfl (hb hby at_365) rfl rfl k) ?_
    show own_Go _ _ _ _ T6 (mkF m 367 #[.val (.int p1), .val (.int p2), .val (.int p3), .val (.int p4), .val (.long q5), .second, .val (.int p6), .val (.int (0 : Int32)), .val (.int (1 : Int32)), .val (.int f), .val (.int t), .val (.ref oc), .val (.ref cn), .val (.int y1), .val (.int y2), .val (.int y3), .val (.int y4), .val (.ref oh), .val (.ref hd), .val (.ref og), .val (.ref gr), .val (.ref ky), .val (.int (1 : Int32))] [(.ref ky)])
    obtain ⟨T7, X7, e7, st7⟩ := getF X6 hx hZ hown (host := "") (Or.inl (own_w48 hw)) Via.refl e6 Gg (g := (mkF m 367 #[.val (.int p1), .val (.int p2), .val (.int p3), .val (.int p4), .val (.long q5), .second, .val (.int p6), .val (.int (0 : Int32)), .val (.int (1 : Int32)), .val (.int f), .val (.int t), .val (.ref oc), .val (.ref cn), .val (.int y1), .val (.int y2), .val (.int y3), .val (.int y4), .val (.ref oh), .val (.ref hd), .val (.ref og), .val (.ref gr), .val (.ref ky), .val (.int (1 : Int32))] [(.ref ky)])) rfl rfl (hb hby at_367)
    refine own_st st7 ?_
    refine own_st (fun _ k => XS.ifnonnullNo X7.here hx rfl (hb hby at_370) rfl k) ?_
    refine own_st (fun _ k => XS.iconst X7.here hx rfl (hb hby at_373) k) ?_
    refine own_st (fun _ k => XS.goto X7.here hx rfl (pc0 := 374) (pc' := 378) rfl (hb hby at_374) (by decide) (by decide) k) ?_
    refine own_st (fun _ k => XS.istore X7.here hx rfl (hb hby at_378) rfl (l' := #[.val (.int p1), .val (.int p2), .val (.int p3), .val (.int p4), .val (.long q5), .second, .val (.int p6), .val (.int (0 : Int32)), .val (.int (1 : Int32)), .val (.int f), .val (.int t), .val (.ref oc), .val (.ref cn), .val (.int y1), .val (.int y2), .val (.int y3), .val (.int y4), .val (.ref oh), .val (.ref hd), .val (.ref og), .val (.ref gr), .val (.ref ky), .val (.int (1 : Int32))]) rfl k) ?_
    refine own_st (fun _ k => XS.iload X7.here hx rfl (hb hby at_380) rfl k) ?_
    show own_Go _ _ _ _ T7 (mkF m 382 #[.val (.int p1), .val (.int p2), .val (.int p3), .val (.int p4), .val (.long q5), .second, .val (.int p6), .val (.int (0 : Int32)), .val (.int (1 : Int32)), .val (.int f), .val (.int t), .val (.ref oc), .val (.ref cn), .val (.int y1), .val (.int y2), .val (.int y3), .val (.int y4), .val (.ref oh), .val (.ref hd), .val (.ref og), .val (.ref gr), .val (.ref ky), .val (.int (1 : Int32))] [(.int (1 : Int32))])
    refine own_st (fun _ k => XS.ifNo X7.here hx rfl (hb hby at_382) rfl ((if0 _ _).trans (feq (by decide : ¬ ((1 : Int32) = (0 : Int32)))).1) k) ?_
    refine own_st (fun _ k => XS.iload X7.here hx rfl (hb hby at_385) rfl k) ?_
    refine own_st (fun _ k => XS.ifNo X7.here hx rfl (hb hby at_387) rfl ((if0 _ _).trans (feq (by decide : ¬ ((1 : Int32) = (0 : Int32)))).1) k) ?_
    refine own_st (fun _ k => XS.aload X7.here hx rfl (hb hby at_390) rfl rfl k) ?_
    obtain ⟨T8, X8, e8, st8⟩ := getF X7 hx hZ hown (host := "") (Or.inl (own_w31 hw)) Via.refl e7 Gh (g := (mkF m 392 #[.val (.int p1), .val (.int p2), .val (.int p3), .val (.int p4), .val (.long q5), .second, .val (.int p6), .val (.int (0 : Int32)), .val (.int (1 : Int32)), .val (.int f), .val (.int t), .val (.ref oc), .val (.ref cn), .val (.int y1), .val (.int y2), .val (.int y3), .val (.int y4), .val (.ref oh), .val (.ref hd), .val (.ref og), .val (.ref gr), .val (.ref ky), .val (.int (1 : Int32))] [(.ref ky)])) rfl rfl (hb hby at_392)
    refine own_st st8 ?_
    refine own_st (fun _ k => XS.aload X8.here hx rfl (hb hby at_395) rfl rfl k) ?_
    show own_Go _ _ _ _ T8 (mkF m 397 #[.val (.int p1), .val (.int p2), .val (.int p3), .val (.int p4), .val (.long q5), .second, .val (.int p6), .val (.int (0 : Int32)), .val (.int (1 : Int32)), .val (.int f), .val (.int t), .val (.ref oc), .val (.ref cn), .val (.int y1), .val (.int y2), .val (.int y3), .val (.int y4), .val (.ref oh), .val (.ref hd), .val (.ref og), .val (.ref gr), .val (.ref ky), .val (.int (1 : Int32))] [(.ref hd), (.ref hd)])
    refine own_st (fun _ k => Jvm.RoadKit.acmp (g := (mkF m 397 #[.val (.int p1), .val (.int p2), .val (.int p3), .val (.int p4), .val (.long q5), .second, .val (.int p6), .val (.int (0 : Int32)), .val (.int (1 : Int32)), .val (.int f), .val (.int t), .val (.ref oc), .val (.ref cn), .val (.int y1), .val (.int y2), .val (.int y3), .val (.int y4), .val (.ref oh), .val (.ref hd), .val (.ref og), .val (.ref gr), .val (.ref ky), .val (.int (1 : Int32))] [(.ref hd), (.ref hd)])) X8 hx rfl rfl rfl (pc0 := 397) (pc' := 400) (same := true) rfl (hb hby at_397) rfl (decide_eq_true rfl) (by decide) (by decide) k) ?_
    refine own_st (fun _ k => XS.aload X8.here hx rfl (hb hby at_400) rfl rfl k) ?_
    refine own_st (fun _ k => XS.aload X8.here hx rfl (hb hby at_402) rfl rfl k) ?_
    refine own_st (fun _ k => XS.iload X8.here hx rfl (hb hby at_404) rfl k) ?_
    refine own_st (fun _ k => XS.iload X8.here hx rfl (hb hby at_406) rfl k) ?_
    obtain ⟨v9, T9, L9, hQ9, X9, st9⟩ := own_callS X8 hx hZ (y := (⟨"com/example/sheaf/sheaf/CountedKeysMovePinLaw", "intsMoved", "([I[III)Z"⟩ : MethodName)) hown (own_w41 hw) (own_w42 hw) (own_w43 hw) (own_w44 hw) (by decide) M3 e8 (g := (mkF m 408 #[.val (.int p1), .val (.int p2), .val (.int p3), .val (.int p4), .val (.long q5), .second, .val (.int p6), .val (.int (0 : Int32)), .val (.int (1 : Int32)), .val (.int f), .val (.int t), .val (.ref oc), .val (.ref cn), .val (.int y1), .val (.int y2), .val (.int y3), .val (.int y4), .val (.ref oh), .val (.ref hd), .val (.ref og), .val (.ref gr), .val (.ref ky), .val (.int (1 : Int32))] [(.int t), (.int f), (.ref oh), (.ref hd)])) rfl (by rw [hml]; rfl) (argsL := [(.ref hd), (.ref oh), (.int f), (.int t)]) (rest := []) (lenOf own_pd3 rfl) rfl rfl (W := 0) (Nat.le_of_eq rfl) (hb hby at_408) (by decide) (by decide) (by decide) (by decide)
    obtain ⟨rfl, N9, e9⟩ := hQ9
    have N9' := Fr.app N6' N9
    refine own_st st9 ?_
    show own_Go _ _ _ _ T9 (mkF m 411 #[.val (.int p1), .val (.int p2), .val (.int p3), .val (.int p4), .val (.long q5), .second, .val (.int p6), .val (.int (0 : Int32)), .val (.int (1 : Int32)), .val (.int f), .val (.int t), .val (.ref oc), .val (.ref cn), .val (.int y1), .val (.int y2), .val (.int y3), .val (.int y4), .val (.ref oh), .val (.ref hd), .val (.ref og), .val (.ref gr), .val (.ref ky), .val (.int (1 : Int32))] [(.int (1 : Int32))])
    refine own_st (fun _ k => XS.ifNo X9.here hx rfl (hb hby at_411) rfl ((if0 _ _).trans (feq (by decide : ¬ ((1 : Int32) = (0 : Int32)))).1) k) ?_
    refine own_st (fun _ k => XS.iconst X9.here hx rfl (hb hby at_414) k) ?_
    refine own_st (fun _ k => XS.goto X9.here hx rfl (pc0 := 415) (pc' := 419) rfl (hb hby at_415) (by decide) (by decide) k) ?_
    refine own_st (fun _ k => XS.istore X9.here hx rfl (hb hby at_419) rfl (l' := #[.val (.int p1), .val (.int p2), .val (.int p3), .val (.int p4), .val (.long q5), .second, .val (.int p6), .val (.int (0 : Int32)), .val (.int (1 : Int32)), .val (.int f), .val (.int t), .val (.ref oc), .val (.ref cn), .val (.int y1), .val (.int y2), .val (.int y3), .val (.int y4), .val (.ref oh), .val (.ref hd), .val (.ref og), .val (.ref gr), .val (.ref ky), .val (.int (1 : Int32))]) rfl k) ?_
    refine own_st (fun _ k => XS.goto X9.here hx rfl (pc0 := 421) (pc' := 444) rfl (hb hby at_421) (by decide) (by decide) k) ?_
    refine own_st (fun _ k => XS.iload X9.here hx rfl (hb hby at_444) rfl k) ?_
    show own_Go _ _ _ _ T9 (mkF m 446 #[.val (.int p1), .val (.int p2), .val (.int p3), .val (.int p4), .val (.long q5), .second, .val (.int p6), .val (.int (0 : Int32)), .val (.int (1 : Int32)), .val (.int f), .val (.int t), .val (.ref oc), .val (.ref cn), .val (.int y1), .val (.int y2), .val (.int y3), .val (.int y4), .val (.ref oh), .val (.ref hd), .val (.ref og), .val (.ref gr), .val (.ref ky), .val (.int (1 : Int32))] [(.int (1 : Int32))])
    exact own_retN X9 hx hret (by simp) hlk (hb hby at_446) ⟨rfl, N9'⟩ (by decide) (by decide)
  have tl10 : ∀ (Tt : State) (lt : List Loc) (ht : Heap) (Xt : Stand p l e room_1 s m #[(.int p1), (.int p2), (.int p3), (.int p4), (.long q5), (.int p6)] below meth c Tt lt 11 32) (Nt : Fr n0 lt) (et : Tt.heap = ht) (Ot : Ext h0 ht) (f t y1 y2 y3 y4 : Int32) (oc cn oh hd og gr ky : Addr) (Gc : Fld Z ht ky "com/example/sheaf/sheaf/CountedKeys" "counts" "[I" (.ref cn)) (Gg : Fld Z ht ky "com/example/sheaf/sheaf/CountedKeys" "groups" "[Ljava/lang/Object;" (.ref gr)) (Gh : Fld Z ht ky "com/example/sheaf/sheaf/CountedKeys" "heads" "[I" .null) (M1 : MetFree l (⟨"com/example/sheaf/sheaf/CountedKeysMovePinLaw", "intsMoved", "([I[III)Z"⟩ : MethodName) (head1 [Jvm.Cond.code (⟨"com/example/sheaf/sheaf/CountedKeysMovePinLaw", "intsMoved", "([I[III)Z"⟩ : MethodName) method_4_code 4 (some .boolean)] ({ frames := 1, cells := 0, slots := 0, locals := 16 } : Room)) (fun a U => a = #[.ref cn, .ref oc, .int f, .int t] ∧ Z.Warmed39 U.vm ∧ U.heap = ht) (fun _ _ _ _ _ => True) (fun _ U o U' => ∃ v L, o = .returned v ∧ own_one n0 ht v U'.heap L ∧ FrameEnd U o U' L ({ frames := 1, cells := 0, slots := 0, locals := 16 } : Room).cells ({ frames := 1, cells := 0, slots := 0, locals := 16 } : Room).slots)) (M2 : MetFree l (⟨"com/example/sheaf/sheaf/CountedKeysMovePinLaw", "refsMoved", "([Ljava/lang/Object;[Ljava/lang/Object;II)Z"⟩ : MethodName) (head1 [Jvm.Cond.code (⟨"com/example/sheaf/sheaf/CountedKeysMovePinLaw", "refsMoved", "([Ljava/lang/Object;[Ljava/lang/Object;II)Z"⟩ : MethodName) method_6_code 4 (some .boolean)] ({ frames := 1, cells := 0, slots := 0, locals := 16 } : Room)) (fun a U => a = #[.ref gr, .ref og, .int f, .int t] ∧ Z.Warmed39 U.vm ∧ U.heap = ht) (fun _ _ _ _ _ => True) (fun _ U o U' => ∃ v L, o = .returned v ∧ own_one n0 ht v U'.heap L ∧ FrameEnd U o U' L ({ frames := 1, cells := 0, slots := 0, locals := 16 } : Room).cells ({ frames := 1, cells := 0, slots := 0, locals := 16 } : Room).slots)), own_Go p.tables e below (own_F below s (own_law_Q Z p1 p2 p3 p4 q5 p6 wo wi h0 n0) 32 128) Tt (mkF m 285 #[.val (.int p1), .val (.int p2), .val (.int p3), .val (.int p4), .val (.long q5), .second, .val (.int p6), .val (.int (1 : Int32)), .val (.int (0 : Int32)), .val (.int f), .val (.int t), .val (.ref oc), .val (.ref cn), .val (.int y1), .val (.int y2), .val (.int y3), .val (.int y4), .val (.ref oh), .val (.ref hd), .val (.ref og), .val (.ref gr), .val (.ref ky), .unset] []) := by
    intro Tt lt ht Xt Nt et Ot f t y1 y2 y3 y4 oc cn oh hd og gr ky Gc Gg Gh M1 M2
    refine own_st (fun _ k => XS.aload Xt.here hx rfl (hb hby at_285) rfl rfl k) ?_
    obtain ⟨T10, X10, e10, st10⟩ := getF Xt hx hZ hown (host := "") (Or.inl (own_w30 hw)) Via.refl et Gc (g := (mkF m 287 #[.val (.int p1), .val (.int p2), .val (.int p3), .val (.int p4), .val (.long q5), .second, .val (.int p6), .val (.int (1 : Int32)), .val (.int (0 : Int32)), .val (.int f), .val (.int t), .val (.ref oc), .val (.ref cn), .val (.int y1), .val (.int y2), .val (.int y3), .val (.int y4), .val (.ref oh), .val (.ref hd), .val (.ref og), .val (.ref gr), .val (.ref ky), .unset] [(.ref ky)])) rfl rfl (hb hby at_287)
    refine own_st st10 ?_
    refine own_st (fun _ k => XS.aload X10.here hx rfl (hb hby at_290) rfl rfl k) ?_
    refine own_st (fun _ k => Jvm.RoadKit.acmp (g := (mkF m 292 #[.val (.int p1), .val (.int p2), .val (.int p3), .val (.int p4), .val (.long q5), .second, .val (.int p6), .val (.int (1 : Int32)), .val (.int (0 : Int32)), .val (.int f), .val (.int t), .val (.ref oc), .val (.ref cn), .val (.int y1), .val (.int y2), .val (.int y3), .val (.int y4), .val (.ref oh), .val (.ref hd), .val (.ref og), .val (.ref gr), .val (.ref ky), .unset] [(.ref cn), (.ref cn)])) X10 hx rfl rfl rfl (pc0 := 292) (pc' := 295) (same := true) rfl (hb hby at_292) rfl (decide_eq_true rfl) (by decide) (by decide) k) ?_
    refine own_st (fun _ k => XS.aload X10.here hx rfl (hb hby at_295) rfl rfl k) ?_
    refine own_st (fun _ k => XS.aload X10.here hx rfl (hb hby at_297) rfl rfl k) ?_
    show own_Go _ _ _ _ T10 (mkF m 299 #[.val (.int p1), .val (.int p2), .val (.int p3), .val (.int p4), .val (.long q5), .second, .val (.int p6), .val (.int (1 : Int32)), .val (.int (0 : Int32)), .val (.int f), .val (.int t), .val (.ref oc), .val (.ref cn), .val (.int y1), .val (.int y2), .val (.int y3), .val (.int y4), .val (.ref oh), .val (.ref hd), .val (.ref og), .val (.ref gr), .val (.ref ky), .unset] [(.ref oc), (.ref cn)])
    refine own_st (fun _ k => XS.iload X10.here hx rfl (hb hby at_299) rfl k) ?_
    refine own_st (fun _ k => XS.iload X10.here hx rfl (hb hby at_301) rfl k) ?_
    obtain ⟨v11, T11, L11, hQ11, X11, st11⟩ := own_callS X10 hx hZ (y := (⟨"com/example/sheaf/sheaf/CountedKeysMovePinLaw", "intsMoved", "([I[III)Z"⟩ : MethodName)) hown (own_w41 hw) (own_w42 hw) (own_w43 hw) (own_w44 hw) (by decide) M1 e10 (g := (mkF m 303 #[.val (.int p1), .val (.int p2), .val (.int p3), .val (.int p4), .val (.long q5), .second, .val (.int p6), .val (.int (1 : Int32)), .val (.int (0 : Int32)), .val (.int f), .val (.int t), .val (.ref oc), .val (.ref cn), .val (.int y1), .val (.int y2), .val (.int y3), .val (.int y4), .val (.ref oh), .val (.ref hd), .val (.ref og), .val (.ref gr), .val (.ref ky), .unset] [(.int t), (.int f), (.ref oc), (.ref cn)])) rfl (by rw [hml]; rfl) (argsL := [(.ref cn), (.ref oc), (.int f), (.int t)]) (rest := []) (lenOf own_pd3 rfl) rfl rfl (W := 0) (Nat.le_of_eq rfl) (hb hby at_303) (by decide) (by decide) (by decide) (by decide)
    obtain ⟨rfl, N11, e11⟩ := hQ11
    have N11' := Fr.app Nt N11
    refine own_st st11 ?_
    refine own_st (fun _ k => XS.ifNo X11.here hx rfl (hb hby at_306) rfl ((if0 _ _).trans (feq (by decide : ¬ ((1 : Int32) = (0 : Int32)))).1) k) ?_
    refine own_st (fun _ k => XS.iconst X11.here hx rfl (hb hby at_309) k) ?_
    refine own_st (fun _ k => XS.goto X11.here hx rfl (pc0 := 310) (pc' := 314) rfl (hb hby at_310) (by decide) (by decide) k) ?_
    show own_Go _ _ _ _ T11 (mkF m 314 #[.val (.int p1), .val (.int p2), .val (.int p3), .val (.int p4), .val (.long q5), .second, .val (.int p6), .val (.int (1 : Int32)), .val (.int (0 : Int32)), .val (.int f), .val (.int t), .val (.ref oc), .val (.ref cn), .val (.int y1), .val (.int y2), .val (.int y3), .val (.int y4), .val (.ref oh), .val (.ref hd), .val (.ref og), .val (.ref gr), .val (.ref ky), .unset] [(.int (1 : Int32))])
    refine own_st (fun _ k => XS.istore X11.here hx rfl (hb hby at_314) rfl (l' := #[.val (.int p1), .val (.int p2), .val (.int p3), .val (.int p4), .val (.long q5), .second, .val (.int p6), .val (.int (1 : Int32)), .val (.int (0 : Int32)), .val (.int f), .val (.int t), .val (.ref oc), .val (.ref cn), .val (.int y1), .val (.int y2), .val (.int y3), .val (.int y4), .val (.ref oh), .val (.ref hd), .val (.ref og), .val (.ref gr), .val (.ref ky), .val (.int (1 : Int32))]) rfl k) ?_
    refine own_st (fun _ k => XS.iload X11.here hx rfl (hb hby at_316) rfl k) ?_
    refine own_st (fun _ k => XS.ifNo X11.here hx rfl (hb hby at_318) rfl ((if0 _ _).trans (feq (by decide : ¬ ((1 : Int32) = (0 : Int32)))).1) k) ?_
    refine own_st (fun _ k => XS.iload X11.here hx rfl (hb hby at_321) rfl k) ?_
    refine own_st (fun _ k => XS.ifNo X11.here hx rfl (hb hby at_323) rfl ((if0 _ _).trans (feq (by decide : ¬ ((1 : Int32) = (0 : Int32)))).1) k) ?_
    refine own_st (fun _ k => XS.aload X11.here hx rfl (hb hby at_326) rfl rfl k) ?_
    show own_Go _ _ _ _ T11 (mkF m 328 #[.val (.int p1), .val (.int p2), .val (.int p3), .val (.int p4), .val (.long q5), .second, .val (.int p6), .val (.int (1 : Int32)), .val (.int (0 : Int32)), .val (.int f), .val (.int t), .val (.ref oc), .val (.ref cn), .val (.int y1), .val (.int y2), .val (.int y3), .val (.int y4), .val (.ref oh), .val (.ref hd), .val (.ref og), .val (.ref gr), .val (.ref ky), .val (.int (1 : Int32))] [(.ref ky)])
    obtain ⟨T12, X12, e12, st12⟩ := getF X11 hx hZ hown (host := "") (Or.inl (own_w48 hw)) Via.refl e11 Gg (g := (mkF m 328 #[.val (.int p1), .val (.int p2), .val (.int p3), .val (.int p4), .val (.long q5), .second, .val (.int p6), .val (.int (1 : Int32)), .val (.int (0 : Int32)), .val (.int f), .val (.int t), .val (.ref oc), .val (.ref cn), .val (.int y1), .val (.int y2), .val (.int y3), .val (.int y4), .val (.ref oh), .val (.ref hd), .val (.ref og), .val (.ref gr), .val (.ref ky), .val (.int (1 : Int32))] [(.ref ky)])) rfl rfl (hb hby at_328)
    refine own_st st12 ?_
    refine own_st (fun _ k => XS.aload X12.here hx rfl (hb hby at_331) rfl rfl k) ?_
    refine own_st (fun _ k => Jvm.RoadKit.acmp (g := (mkF m 333 #[.val (.int p1), .val (.int p2), .val (.int p3), .val (.int p4), .val (.long q5), .second, .val (.int p6), .val (.int (1 : Int32)), .val (.int (0 : Int32)), .val (.int f), .val (.int t), .val (.ref oc), .val (.ref cn), .val (.int y1), .val (.int y2), .val (.int y3), .val (.int y4), .val (.ref oh), .val (.ref hd), .val (.ref og), .val (.ref gr), .val (.ref ky), .val (.int (1 : Int32))] [(.ref gr), (.ref gr)])) X12 hx rfl rfl rfl (pc0 := 333) (pc' := 336) (same := true) rfl (hb hby at_333) rfl (decide_eq_true rfl) (by decide) (by decide) k) ?_
    refine own_st (fun _ k => XS.aload X12.here hx rfl (hb hby at_336) rfl rfl k) ?_
    refine own_st (fun _ k => XS.aload X12.here hx rfl (hb hby at_338) rfl rfl k) ?_
    refine own_st (fun _ k => XS.iload X12.here hx rfl (hb hby at_340) rfl k) ?_
    show own_Go _ _ _ _ T12 (mkF m 342 #[.val (.int p1), .val (.int p2), .val (.int p3), .val (.int p4), .val (.long q5), .second, .val (.int p6), .val (.int (1 : Int32)), .val (.int (0 : Int32)), .val (.int f), .val (.int t), .val (.ref oc), .val (.ref cn), .val (.int y1), .val (.int y2), .val (.int y3), .val (.int y4), .val (.ref oh), .val (.ref hd), .val (.ref og), .val (.ref gr), .val (.ref ky), .val (.int (1 : Int32))] [(.int f), (.ref og), (.ref gr)])
    refine own_st (fun _ k => XS.iload X12.here hx rfl (hb hby at_342) rfl k) ?_
    obtain ⟨v13, T13, L13, hQ13, X13, st13⟩ := own_callS X12 hx hZ (y := (⟨"com/example/sheaf/sheaf/CountedKeysMovePinLaw", "refsMoved", "([Ljava/lang/Object;[Ljava/lang/Object;II)Z"⟩ : MethodName)) hown (own_w49 hw) (own_w50 hw) (own_w43 hw) (own_w51 hw) (by decide) M2 e12 (g := (mkF m 344 #[.val (.int p1), .val (.int p2), .val (.int p3), .val (.int p4), .val (.long q5), .second, .val (.int p6), .val (.int (1 : Int32)), .val (.int (0 : Int32)), .val (.int f), .val (.int t), .val (.ref oc), .val (.ref cn), .val (.int y1), .val (.int y2), .val (.int y3), .val (.int y4), .val (.ref oh), .val (.ref hd), .val (.ref og), .val (.ref gr), .val (.ref ky), .val (.int (1 : Int32))] [(.int t), (.int f), (.ref og), (.ref gr)])) rfl (by rw [hml]; rfl) (argsL := [(.ref gr), (.ref og), (.int f), (.int t)]) (rest := []) (lenOf own_pd4 rfl) rfl rfl (W := 0) (Nat.le_of_eq rfl) (hb hby at_344) (by decide) (by decide) (by decide) (by decide)
    obtain ⟨rfl, N13, e13⟩ := hQ13
    have N13' := Fr.app N11' N13
    refine own_st st13 ?_
    refine own_st (fun _ k => XS.ifNo X13.here hx rfl (hb hby at_347) rfl ((if0 _ _).trans (feq (by decide : ¬ ((1 : Int32) = (0 : Int32)))).1) k) ?_
    refine own_st (fun _ k => XS.iconst X13.here hx rfl (hb hby at_350) k) ?_
    refine own_st (fun _ k => XS.goto X13.here hx rfl (pc0 := 351) (pc' := 355) rfl (hb hby at_351) (by decide) (by decide) k) ?_
    refine own_st (fun _ k => XS.istore X13.here hx rfl (hb hby at_355) rfl (l' := #[.val (.int p1), .val (.int p2), .val (.int p3), .val (.int p4), .val (.long q5), .second, .val (.int p6), .val (.int (1 : Int32)), .val (.int (0 : Int32)), .val (.int f), .val (.int t), .val (.ref oc), .val (.ref cn), .val (.int y1), .val (.int y2), .val (.int y3), .val (.int y4), .val (.ref oh), .val (.ref hd), .val (.ref og), .val (.ref gr), .val (.ref ky), .val (.int (1 : Int32))]) rfl k) ?_
    show own_Go _ _ _ _ T13 (mkF m 357 #[.val (.int p1), .val (.int p2), .val (.int p3), .val (.int p4), .val (.long q5), .second, .val (.int p6), .val (.int (1 : Int32)), .val (.int (0 : Int32)), .val (.int f), .val (.int t), .val (.ref oc), .val (.ref cn), .val (.int y1), .val (.int y2), .val (.int y3), .val (.int y4), .val (.ref oh), .val (.ref hd), .val (.ref og), .val (.ref gr), .val (.ref ky), .val (.int (1 : Int32))] [])
    refine own_st (fun _ k => XS.goto X13.here hx rfl (pc0 := 357) (pc' := 380) rfl (hb hby at_357) (by decide) (by decide) k) ?_
    refine own_st (fun _ k => XS.iload X13.here hx rfl (hb hby at_380) rfl k) ?_
    refine own_st (fun _ k => XS.ifYes X13.here hx rfl (pc0 := 382) (pc' := 424) rfl (hb hby at_382) rfl ((if0 _ _).trans (teq (by decide : (0 : Int32) = (0 : Int32))).1) (by decide) (by decide) k) ?_
    refine own_st (fun _ k => XS.iload X13.here hx rfl (hb hby at_424) rfl k) ?_
    refine own_st (fun _ k => XS.ifNo X13.here hx rfl (hb hby at_426) rfl ((if0 _ _).trans (feq (by decide : ¬ ((1 : Int32) = (0 : Int32)))).1) k) ?_
    refine own_st (fun _ k => XS.aload X13.here hx rfl (hb hby at_429) rfl rfl k) ?_
    show own_Go _ _ _ _ T13 (mkF m 431 #[.val (.int p1), .val (.int p2), .val (.int p3), .val (.int p4), .val (.long q5), .second, .val (.int p6), .val (.int (1 : Int32)), .val (.int (0 : Int32)), .val (.int f), .val (.int t), .val (.ref oc), .val (.ref cn), .val (.int y1), .val (.int y2), .val (.int y3), .val (.int y4), .val (.ref oh), .val (.ref hd), .val (.ref og), .val (.ref gr), .val (.ref ky), .val (.int (1 : Int32))] [(.ref ky)])
    obtain ⟨T14, X14, e14, st14⟩ := getF X13 hx hZ hown (host := "") (Or.inl (own_w31 hw)) Via.refl e13 Gh (g := (mkF m 431 #[.val (.int p1), .val (.int p2), .val (.int p3), .val (.int p4), .val (.long q5), .second, .val (.int p6), .val (.int (1 : Int32)), .val (.int (0 : Int32)), .val (.int f), .val (.int t), .val (.ref oc), .val (.ref cn), .val (.int y1), .val (.int y2), .val (.int y3), .val (.int y4), .val (.ref oh), .val (.ref hd), .val (.ref og), .val (.ref gr), .val (.ref ky), .val (.int (1 : Int32))] [(.ref ky)])) rfl rfl (hb hby at_431)
    refine own_st st14 ?_
    refine own_st (fun _ k => XS.ifnonnullNo X14.here hx rfl (hb hby at_434) rfl k) ?_
    refine own_st (fun _ k => XS.iconst X14.here hx rfl (hb hby at_437) k) ?_
    refine own_st (fun _ k => XS.goto X14.here hx rfl (pc0 := 438) (pc' := 442) rfl (hb hby at_438) (by decide) (by decide) k) ?_
    refine own_st (fun _ k => XS.istore X14.here hx rfl (hb hby at_442) rfl (l' := #[.val (.int p1), .val (.int p2), .val (.int p3), .val (.int p4), .val (.long q5), .second, .val (.int p6), .val (.int (1 : Int32)), .val (.int (0 : Int32)), .val (.int f), .val (.int t), .val (.ref oc), .val (.ref cn), .val (.int y1), .val (.int y2), .val (.int y3), .val (.int y4), .val (.ref oh), .val (.ref hd), .val (.ref og), .val (.ref gr), .val (.ref ky), .val (.int (1 : Int32))]) rfl k) ?_
    refine own_st (fun _ k => XS.iload X14.here hx rfl (hb hby at_444) rfl k) ?_
    show own_Go _ _ _ _ T14 (mkF m 446 #[.val (.int p1), .val (.int p2), .val (.int p3), .val (.int p4), .val (.long q5), .second, .val (.int p6), .val (.int (1 : Int32)), .val (.int (0 : Int32)), .val (.int f), .val (.int t), .val (.ref oc), .val (.ref cn), .val (.int y1), .val (.int y2), .val (.int y3), .val (.int y4), .val (.ref oh), .val (.ref hd), .val (.ref og), .val (.ref gr), .val (.ref ky), .val (.int (1 : Int32))] [(.int (1 : Int32))])
    exact own_retN X14 hx hret (by simp) hlk (hb hby at_446) ⟨rfl, N13'⟩ (by decide) (by decide)
  have tl11 : ∀ (Tt : State) (lt : List Loc) (ht : Heap) (Xt : Stand p l e room_1 s m #[(.int p1), (.int p2), (.int p3), (.int p4), (.long q5), (.int p6)] below meth c Tt lt 11 32) (Nt : Fr n0 lt) (et : Tt.heap = ht) (Ot : Ext h0 ht) (f t y1 y2 y3 y4 : Int32) (oc cn oh hd og gr ky : Addr) (Gc : Fld Z ht ky "com/example/sheaf/sheaf/CountedKeys" "counts" "[I" (.ref cn)) (Gg : Fld Z ht ky "com/example/sheaf/sheaf/CountedKeys" "groups" "[Ljava/lang/Object;" (.ref gr)) (Gh : Fld Z ht ky "com/example/sheaf/sheaf/CountedKeys" "heads" "[I" (.ref hd)) (M1 : MetFree l (⟨"com/example/sheaf/sheaf/CountedKeysMovePinLaw", "intsMoved", "([I[III)Z"⟩ : MethodName) (head1 [Jvm.Cond.code (⟨"com/example/sheaf/sheaf/CountedKeysMovePinLaw", "intsMoved", "([I[III)Z"⟩ : MethodName) method_4_code 4 (some .boolean)] ({ frames := 1, cells := 0, slots := 0, locals := 16 } : Room)) (fun a U => a = #[.ref cn, .ref oc, .int f, .int t] ∧ Z.Warmed39 U.vm ∧ U.heap = ht) (fun _ _ _ _ _ => True) (fun _ U o U' => ∃ v L, o = .returned v ∧ own_one n0 ht v U'.heap L ∧ FrameEnd U o U' L ({ frames := 1, cells := 0, slots := 0, locals := 16 } : Room).cells ({ frames := 1, cells := 0, slots := 0, locals := 16 } : Room).slots)) (M2 : MetFree l (⟨"com/example/sheaf/sheaf/CountedKeysMovePinLaw", "refsMoved", "([Ljava/lang/Object;[Ljava/lang/Object;II)Z"⟩ : MethodName) (head1 [Jvm.Cond.code (⟨"com/example/sheaf/sheaf/CountedKeysMovePinLaw", "refsMoved", "([Ljava/lang/Object;[Ljava/lang/Object;II)Z"⟩ : MethodName) method_6_code 4 (some .boolean)] ({ frames := 1, cells := 0, slots := 0, locals := 16 } : Room)) (fun a U => a = #[.ref gr, .ref og, .int f, .int t] ∧ Z.Warmed39 U.vm ∧ U.heap = ht) (fun _ _ _ _ _ => True) (fun _ U o U' => ∃ v L, o = .returned v ∧ own_one n0 ht v U'.heap L ∧ FrameEnd U o U' L ({ frames := 1, cells := 0, slots := 0, locals := 16 } : Room).cells ({ frames := 1, cells := 0, slots := 0, locals := 16 } : Room).slots)) (M3 : MetFree l (⟨"com/example/sheaf/sheaf/CountedKeysMovePinLaw", "intsMoved", "([I[III)Z"⟩ : MethodName) (head1 [Jvm.Cond.code (⟨"com/example/sheaf/sheaf/CountedKeysMovePinLaw", "intsMoved", "([I[III)Z"⟩ : MethodName) method_4_code 4 (some .boolean)] ({ frames := 1, cells := 0, slots := 0, locals := 16 } : Room)) (fun a U => a = #[.ref hd, .ref oh, .int f, .int t] ∧ Z.Warmed39 U.vm ∧ U.heap = ht) (fun _ _ _ _ _ => True) (fun _ U o U' => ∃ v L, o = .returned v ∧ own_one n0 ht v U'.heap L ∧ FrameEnd U o U' L ({ frames := 1, cells := 0, slots := 0, locals := 16 } : Room).cells ({ frames := 1, cells := 0, slots := 0, locals := 16 } : Room).slots)), own_Go p.tables e below (own_F below s (own_law_Q Z p1 p2 p3 p4 q5 p6 wo wi h0 n0) 32 128) Tt (mkF m 285 #[.val (.int p1), .val (.int p2), .val (.int p3), .val (.int p4), .val (.long q5), .second, .val (.int p6), .val (.int (1 : Int32)), .val (.int (1 : Int32)), .val (.int f), .val (.int t), .val (.ref oc), .val (.ref cn), .val (.int y1), .val (.int y2), .val (.int y3), .val (.int y4), .val (.ref oh), .val (.ref hd), .val (.ref og), .val (.ref gr), .val (.ref ky), .unset] []) := by
    intro Tt lt ht Xt Nt et Ot f t y1 y2 y3 y4 oc cn oh hd og gr ky Gc Gg Gh M1 M2 M3
    refine own_st (fun _ k => XS.aload Xt.here hx rfl (hb hby at_285) rfl rfl k) ?_
    obtain ⟨T15, X15, e15, st15⟩ := getF Xt hx hZ hown (host := "") (Or.inl (own_w30 hw)) Via.refl et Gc (g := (mkF m 287 #[.val (.int p1), .val (.int p2), .val (.int p3), .val (.int p4), .val (.long q5), .second, .val (.int p6), .val (.int (1 : Int32)), .val (.int (1 : Int32)), .val (.int f), .val (.int t), .val (.ref oc), .val (.ref cn), .val (.int y1), .val (.int y2), .val (.int y3), .val (.int y4), .val (.ref oh), .val (.ref hd), .val (.ref og), .val (.ref gr), .val (.ref ky), .unset] [(.ref ky)])) rfl rfl (hb hby at_287)
    refine own_st st15 ?_
    refine own_st (fun _ k => XS.aload X15.here hx rfl (hb hby at_290) rfl rfl k) ?_
    refine own_st (fun _ k => Jvm.RoadKit.acmp (g := (mkF m 292 #[.val (.int p1), .val (.int p2), .val (.int p3), .val (.int p4), .val (.long q5), .second, .val (.int p6), .val (.int (1 : Int32)), .val (.int (1 : Int32)), .val (.int f), .val (.int t), .val (.ref oc), .val (.ref cn), .val (.int y1), .val (.int y2), .val (.int y3), .val (.int y4), .val (.ref oh), .val (.ref hd), .val (.ref og), .val (.ref gr), .val (.ref ky), .unset] [(.ref cn), (.ref cn)])) X15 hx rfl rfl rfl (pc0 := 292) (pc' := 295) (same := true) rfl (hb hby at_292) rfl (decide_eq_true rfl) (by decide) (by decide) k) ?_
    refine own_st (fun _ k => XS.aload X15.here hx rfl (hb hby at_295) rfl rfl k) ?_
    refine own_st (fun _ k => XS.aload X15.here hx rfl (hb hby at_297) rfl rfl k) ?_
    show own_Go _ _ _ _ T15 (mkF m 299 #[.val (.int p1), .val (.int p2), .val (.int p3), .val (.int p4), .val (.long q5), .second, .val (.int p6), .val (.int (1 : Int32)), .val (.int (1 : Int32)), .val (.int f), .val (.int t), .val (.ref oc), .val (.ref cn), .val (.int y1), .val (.int y2), .val (.int y3), .val (.int y4), .val (.ref oh), .val (.ref hd), .val (.ref og), .val (.ref gr), .val (.ref ky), .unset] [(.ref oc), (.ref cn)])
    refine own_st (fun _ k => XS.iload X15.here hx rfl (hb hby at_299) rfl k) ?_
    refine own_st (fun _ k => XS.iload X15.here hx rfl (hb hby at_301) rfl k) ?_
    obtain ⟨v16, T16, L16, hQ16, X16, st16⟩ := own_callS X15 hx hZ (y := (⟨"com/example/sheaf/sheaf/CountedKeysMovePinLaw", "intsMoved", "([I[III)Z"⟩ : MethodName)) hown (own_w41 hw) (own_w42 hw) (own_w43 hw) (own_w44 hw) (by decide) M1 e15 (g := (mkF m 303 #[.val (.int p1), .val (.int p2), .val (.int p3), .val (.int p4), .val (.long q5), .second, .val (.int p6), .val (.int (1 : Int32)), .val (.int (1 : Int32)), .val (.int f), .val (.int t), .val (.ref oc), .val (.ref cn), .val (.int y1), .val (.int y2), .val (.int y3), .val (.int y4), .val (.ref oh), .val (.ref hd), .val (.ref og), .val (.ref gr), .val (.ref ky), .unset] [(.int t), (.int f), (.ref oc), (.ref cn)])) rfl (by rw [hml]; rfl) (argsL := [(.ref cn), (.ref oc), (.int f), (.int t)]) (rest := []) (lenOf own_pd3 rfl) rfl rfl (W := 0) (Nat.le_of_eq rfl) (hb hby at_303) (by decide) (by decide) (by decide) (by decide)
    obtain ⟨rfl, N16, e16⟩ := hQ16
    have N16' := Fr.app Nt N16
    refine own_st st16 ?_
    refine own_st (fun _ k => XS.ifNo X16.here hx rfl (hb hby at_306) rfl ((if0 _ _).trans (feq (by decide : ¬ ((1 : Int32) = (0 : Int32)))).1) k) ?_
    refine own_st (fun _ k => XS.iconst X16.here hx rfl (hb hby at_309) k) ?_
    refine own_st (fun _ k => XS.goto X16.here hx rfl (pc0 := 310) (pc' := 314) rfl (hb hby at_310) (by decide) (by decide) k) ?_
    show own_Go _ _ _ _ T16 (mkF m 314 #[.val (.int p1), .val (.int p2), .val (.int p3), .val (.int p4), .val (.long q5), .second, .val (.int p6), .val (.int (1 : Int32)), .val (.int (1 : Int32)), .val (.int f), .val (.int t), .val (.ref oc), .val (.ref cn), .val (.int y1), .val (.int y2), .val (.int y3), .val (.int y4), .val (.ref oh), .val (.ref hd), .val (.ref og), .val (.ref gr), .val (.ref ky), .unset] [(.int (1 : Int32))])
    refine own_st (fun _ k => XS.istore X16.here hx rfl (hb hby at_314) rfl (l' := #[.val (.int p1), .val (.int p2), .val (.int p3), .val (.int p4), .val (.long q5), .second, .val (.int p6), .val (.int (1 : Int32)), .val (.int (1 : Int32)), .val (.int f), .val (.int t), .val (.ref oc), .val (.ref cn), .val (.int y1), .val (.int y2), .val (.int y3), .val (.int y4), .val (.ref oh), .val (.ref hd), .val (.ref og), .val (.ref gr), .val (.ref ky), .val (.int (1 : Int32))]) rfl k) ?_
    refine own_st (fun _ k => XS.iload X16.here hx rfl (hb hby at_316) rfl k) ?_
    refine own_st (fun _ k => XS.ifNo X16.here hx rfl (hb hby at_318) rfl ((if0 _ _).trans (feq (by decide : ¬ ((1 : Int32) = (0 : Int32)))).1) k) ?_
    refine own_st (fun _ k => XS.iload X16.here hx rfl (hb hby at_321) rfl k) ?_
    refine own_st (fun _ k => XS.ifNo X16.here hx rfl (hb hby at_323) rfl ((if0 _ _).trans (feq (by decide : ¬ ((1 : Int32) = (0 : Int32)))).1) k) ?_
    refine own_st (fun _ k => XS.aload X16.here hx rfl (hb hby at_326) rfl rfl k) ?_
    show own_Go _ _ _ _ T16 (mkF m 328 #[.val (.int p1), .val (.int p2), .val (.int p3), .val (.int p4), .val (.long q5), .second, .val (.int p6), .val (.int (1 : Int32)), .val (.int (1 : Int32)), .val (.int f), .val (.int t), .val (.ref oc), .val (.ref cn), .val (.int y1), .val (.int y2), .val (.int y3), .val (.int y4), .val (.ref oh), .val (.ref hd), .val (.ref og), .val (.ref gr), .val (.ref ky), .val (.int (1 : Int32))] [(.ref ky)])
    obtain ⟨T17, X17, e17, st17⟩ := getF X16 hx hZ hown (host := "") (Or.inl (own_w48 hw)) Via.refl e16 Gg (g := (mkF m 328 #[.val (.int p1), .val (.int p2), .val (.int p3), .val (.int p4), .val (.long q5), .second, .val (.int p6), .val (.int (1 : Int32)), .val (.int (1 : Int32)), .val (.int f), .val (.int t), .val (.ref oc), .val (.ref cn), .val (.int y1), .val (.int y2), .val (.int y3), .val (.int y4), .val (.ref oh), .val (.ref hd), .val (.ref og), .val (.ref gr), .val (.ref ky), .val (.int (1 : Int32))] [(.ref ky)])) rfl rfl (hb hby at_328)
    refine own_st st17 ?_
    refine own_st (fun _ k => XS.aload X17.here hx rfl (hb hby at_331) rfl rfl k) ?_
    refine own_st (fun _ k => Jvm.RoadKit.acmp (g := (mkF m 333 #[.val (.int p1), .val (.int p2), .val (.int p3), .val (.int p4), .val (.long q5), .second, .val (.int p6), .val (.int (1 : Int32)), .val (.int (1 : Int32)), .val (.int f), .val (.int t), .val (.ref oc), .val (.ref cn), .val (.int y1), .val (.int y2), .val (.int y3), .val (.int y4), .val (.ref oh), .val (.ref hd), .val (.ref og), .val (.ref gr), .val (.ref ky), .val (.int (1 : Int32))] [(.ref gr), (.ref gr)])) X17 hx rfl rfl rfl (pc0 := 333) (pc' := 336) (same := true) rfl (hb hby at_333) rfl (decide_eq_true rfl) (by decide) (by decide) k) ?_
    refine own_st (fun _ k => XS.aload X17.here hx rfl (hb hby at_336) rfl rfl k) ?_
    refine own_st (fun _ k => XS.aload X17.here hx rfl (hb hby at_338) rfl rfl k) ?_
    refine own_st (fun _ k => XS.iload X17.here hx rfl (hb hby at_340) rfl k) ?_
    show own_Go _ _ _ _ T17 (mkF m 342 #[.val (.int p1), .val (.int p2), .val (.int p3), .val (.int p4), .val (.long q5), .second, .val (.int p6), .val (.int (1 : Int32)), .val (.int (1 : Int32)), .val (.int f), .val (.int t), .val (.ref oc), .val (.ref cn), .val (.int y1), .val (.int y2), .val (.int y3), .val (.int y4), .val (.ref oh), .val (.ref hd), .val (.ref og), .val (.ref gr), .val (.ref ky), .val (.int (1 : Int32))] [(.int f), (.ref og), (.ref gr)])
    refine own_st (fun _ k => XS.iload X17.here hx rfl (hb hby at_342) rfl k) ?_
    obtain ⟨v18, T18, L18, hQ18, X18, st18⟩ := own_callS X17 hx hZ (y := (⟨"com/example/sheaf/sheaf/CountedKeysMovePinLaw", "refsMoved", "([Ljava/lang/Object;[Ljava/lang/Object;II)Z"⟩ : MethodName)) hown (own_w49 hw) (own_w50 hw) (own_w43 hw) (own_w51 hw) (by decide) M2 e17 (g := (mkF m 344 #[.val (.int p1), .val (.int p2), .val (.int p3), .val (.int p4), .val (.long q5), .second, .val (.int p6), .val (.int (1 : Int32)), .val (.int (1 : Int32)), .val (.int f), .val (.int t), .val (.ref oc), .val (.ref cn), .val (.int y1), .val (.int y2), .val (.int y3), .val (.int y4), .val (.ref oh), .val (.ref hd), .val (.ref og), .val (.ref gr), .val (.ref ky), .val (.int (1 : Int32))] [(.int t), (.int f), (.ref og), (.ref gr)])) rfl (by rw [hml]; rfl) (argsL := [(.ref gr), (.ref og), (.int f), (.int t)]) (rest := []) (lenOf own_pd4 rfl) rfl rfl (W := 0) (Nat.le_of_eq rfl) (hb hby at_344) (by decide) (by decide) (by decide) (by decide)
    obtain ⟨rfl, N18, e18⟩ := hQ18
    have N18' := Fr.app N16' N18
    refine own_st st18 ?_
    refine own_st (fun _ k => XS.ifNo X18.here hx rfl (hb hby at_347) rfl ((if0 _ _).trans (feq (by decide : ¬ ((1 : Int32) = (0 : Int32)))).1) k) ?_
    refine own_st (fun _ k => XS.iconst X18.here hx rfl (hb hby at_350) k) ?_
    refine own_st (fun _ k => XS.goto X18.here hx rfl (pc0 := 351) (pc' := 355) rfl (hb hby at_351) (by decide) (by decide) k) ?_
    refine own_st (fun _ k => XS.istore X18.here hx rfl (hb hby at_355) rfl (l' := #[.val (.int p1), .val (.int p2), .val (.int p3), .val (.int p4), .val (.long q5), .second, .val (.int p6), .val (.int (1 : Int32)), .val (.int (1 : Int32)), .val (.int f), .val (.int t), .val (.ref oc), .val (.ref cn), .val (.int y1), .val (.int y2), .val (.int y3), .val (.int y4), .val (.ref oh), .val (.ref hd), .val (.ref og), .val (.ref gr), .val (.ref ky), .val (.int (1 : Int32))]) rfl k) ?_
    show own_Go _ _ _ _ T18 (mkF m 357 #[.val (.int p1), .val (.int p2), .val (.int p3), .val (.int p4), .val (.long q5), .second, .val (.int p6), .val (.int (1 : Int32)), .val (.int (1 : Int32)), .val (.int f), .val (.int t), .val (.ref oc), .val (.ref cn), .val (.int y1), .val (.int y2), .val (.int y3), .val (.int y4), .val (.ref oh), .val (.ref hd), .val (.ref og), .val (.ref gr), .val (.ref ky), .val (.int (1 : Int32))] [])
    refine own_st (fun _ k => XS.goto X18.here hx rfl (pc0 := 357) (pc' := 380) rfl (hb hby at_357) (by decide) (by decide) k) ?_
    refine own_st (fun _ k => XS.iload X18.here hx rfl (hb hby at_380) rfl k) ?_
    refine own_st (fun _ k => XS.ifNo X18.here hx rfl (hb hby at_382) rfl ((if0 _ _).trans (feq (by decide : ¬ ((1 : Int32) = (0 : Int32)))).1) k) ?_
    refine own_st (fun _ k => XS.iload X18.here hx rfl (hb hby at_385) rfl k) ?_
    refine own_st (fun _ k => XS.ifNo X18.here hx rfl (hb hby at_387) rfl ((if0 _ _).trans (feq (by decide : ¬ ((1 : Int32) = (0 : Int32)))).1) k) ?_
    refine own_st (fun _ k => XS.aload X18.here hx rfl (hb hby at_390) rfl rfl k) ?_
    show own_Go _ _ _ _ T18 (mkF m 392 #[.val (.int p1), .val (.int p2), .val (.int p3), .val (.int p4), .val (.long q5), .second, .val (.int p6), .val (.int (1 : Int32)), .val (.int (1 : Int32)), .val (.int f), .val (.int t), .val (.ref oc), .val (.ref cn), .val (.int y1), .val (.int y2), .val (.int y3), .val (.int y4), .val (.ref oh), .val (.ref hd), .val (.ref og), .val (.ref gr), .val (.ref ky), .val (.int (1 : Int32))] [(.ref ky)])
    obtain ⟨T19, X19, e19, st19⟩ := getF X18 hx hZ hown (host := "") (Or.inl (own_w31 hw)) Via.refl e18 Gh (g := (mkF m 392 #[.val (.int p1), .val (.int p2), .val (.int p3), .val (.int p4), .val (.long q5), .second, .val (.int p6), .val (.int (1 : Int32)), .val (.int (1 : Int32)), .val (.int f), .val (.int t), .val (.ref oc), .val (.ref cn), .val (.int y1), .val (.int y2), .val (.int y3), .val (.int y4), .val (.ref oh), .val (.ref hd), .val (.ref og), .val (.ref gr), .val (.ref ky), .val (.int (1 : Int32))] [(.ref ky)])) rfl rfl (hb hby at_392)
    refine own_st st19 ?_
    refine own_st (fun _ k => XS.aload X19.here hx rfl (hb hby at_395) rfl rfl k) ?_
    refine own_st (fun _ k => Jvm.RoadKit.acmp (g := (mkF m 397 #[.val (.int p1), .val (.int p2), .val (.int p3), .val (.int p4), .val (.long q5), .second, .val (.int p6), .val (.int (1 : Int32)), .val (.int (1 : Int32)), .val (.int f), .val (.int t), .val (.ref oc), .val (.ref cn), .val (.int y1), .val (.int y2), .val (.int y3), .val (.int y4), .val (.ref oh), .val (.ref hd), .val (.ref og), .val (.ref gr), .val (.ref ky), .val (.int (1 : Int32))] [(.ref hd), (.ref hd)])) X19 hx rfl rfl rfl (pc0 := 397) (pc' := 400) (same := true) rfl (hb hby at_397) rfl (decide_eq_true rfl) (by decide) (by decide) k) ?_
    refine own_st (fun _ k => XS.aload X19.here hx rfl (hb hby at_400) rfl rfl k) ?_
    refine own_st (fun _ k => XS.aload X19.here hx rfl (hb hby at_402) rfl rfl k) ?_
    refine own_st (fun _ k => XS.iload X19.here hx rfl (hb hby at_404) rfl k) ?_
    show own_Go _ _ _ _ T19 (mkF m 406 #[.val (.int p1), .val (.int p2), .val (.int p3), .val (.int p4), .val (.long q5), .second, .val (.int p6), .val (.int (1 : Int32)), .val (.int (1 : Int32)), .val (.int f), .val (.int t), .val (.ref oc), .val (.ref cn), .val (.int y1), .val (.int y2), .val (.int y3), .val (.int y4), .val (.ref oh), .val (.ref hd), .val (.ref og), .val (.ref gr), .val (.ref ky), .val (.int (1 : Int32))] [(.int f), (.ref oh), (.ref hd)])
    refine own_st (fun _ k => XS.iload X19.here hx rfl (hb hby at_406) rfl k) ?_
    obtain ⟨v20, T20, L20, hQ20, X20, st20⟩ := own_callS X19 hx hZ (y := (⟨"com/example/sheaf/sheaf/CountedKeysMovePinLaw", "intsMoved", "([I[III)Z"⟩ : MethodName)) hown (own_w41 hw) (own_w42 hw) (own_w43 hw) (own_w44 hw) (by decide) M3 e19 (g := (mkF m 408 #[.val (.int p1), .val (.int p2), .val (.int p3), .val (.int p4), .val (.long q5), .second, .val (.int p6), .val (.int (1 : Int32)), .val (.int (1 : Int32)), .val (.int f), .val (.int t), .val (.ref oc), .val (.ref cn), .val (.int y1), .val (.int y2), .val (.int y3), .val (.int y4), .val (.ref oh), .val (.ref hd), .val (.ref og), .val (.ref gr), .val (.ref ky), .val (.int (1 : Int32))] [(.int t), (.int f), (.ref oh), (.ref hd)])) rfl (by rw [hml]; rfl) (argsL := [(.ref hd), (.ref oh), (.int f), (.int t)]) (rest := []) (lenOf own_pd3 rfl) rfl rfl (W := 0) (Nat.le_of_eq rfl) (hb hby at_408) (by decide) (by decide) (by decide) (by decide)
    obtain ⟨rfl, N20, e20⟩ := hQ20
    have N20' := Fr.app N18' N20
    refine own_st st20 ?_
    refine own_st (fun _ k => XS.ifNo X20.here hx rfl (hb hby at_411) rfl ((if0 _ _).trans (feq (by decide : ¬ ((1 : Int32) = (0 : Int32)))).1) k) ?_
    refine own_st (fun _ k => XS.iconst X20.here hx rfl (hb hby at_414) k) ?_
    refine own_st (fun _ k => XS.goto X20.here hx rfl (pc0 := 415) (pc' := 419) rfl (hb hby at_415) (by decide) (by decide) k) ?_
    refine own_st (fun _ k => XS.istore X20.here hx rfl (hb hby at_419) rfl (l' := #[.val (.int p1), .val (.int p2), .val (.int p3), .val (.int p4), .val (.long q5), .second, .val (.int p6), .val (.int (1 : Int32)), .val (.int (1 : Int32)), .val (.int f), .val (.int t), .val (.ref oc), .val (.ref cn), .val (.int y1), .val (.int y2), .val (.int y3), .val (.int y4), .val (.ref oh), .val (.ref hd), .val (.ref og), .val (.ref gr), .val (.ref ky), .val (.int (1 : Int32))]) rfl k) ?_
    show own_Go _ _ _ _ T20 (mkF m 421 #[.val (.int p1), .val (.int p2), .val (.int p3), .val (.int p4), .val (.long q5), .second, .val (.int p6), .val (.int (1 : Int32)), .val (.int (1 : Int32)), .val (.int f), .val (.int t), .val (.ref oc), .val (.ref cn), .val (.int y1), .val (.int y2), .val (.int y3), .val (.int y4), .val (.ref oh), .val (.ref hd), .val (.ref og), .val (.ref gr), .val (.ref ky), .val (.int (1 : Int32))] [])
    refine own_st (fun _ k => XS.goto X20.here hx rfl (pc0 := 421) (pc' := 444) rfl (hb hby at_421) (by decide) (by decide) k) ?_
    refine own_st (fun _ k => XS.iload X20.here hx rfl (hb hby at_444) rfl k) ?_
    exact own_retN X20 hx hret (by simp) hlk (hb hby at_446) ⟨rfl, N20'⟩ (by decide) (by decide)
  have tl : ∀ (Tt : State) (lt : List Loc) (ht : Heap) (Xt : Stand p l e room_1 s m #[(.int p1), (.int p2), (.int p3), (.int p4), (.long q5), (.int p6)] below meth c Tt lt 0 0) (Nt : Fr n0 lt) (et : Tt.heap = ht) (Ot : Ext h0 ht) (fg fh f t : Int32) (hfg : fg = 0 ∨ fg = 1) (hfh : fh = 0 ∨ fh = 1) (hft : (f = 1 ∧ t = 0) ∨ (f = 2 ∧ t = 0) ∨ (f = 2 ∧ t = 1) ∨ (f = 3 ∧ t = 0) ∨ (f = 3 ∧ t = 1) ∨ (f = 3 ∧ t = 2)), own_Go p.tables e below (own_F below s (own_law_Q Z p1 p2 p3 p4 q5 p6 wo wi h0 n0) 32 128) Tt (mkF m 51 #[.val (.int p1), .val (.int p2), .val (.int p3), .val (.int p4), .val (.long q5), .second, .val (.int p6), .val (.int fg), .val (.int fh), .val (.int f), .val (.int t), .unset, .unset, .unset, .unset, .unset, .unset, .unset, .unset, .unset, .unset, .unset, .unset] []) := by
    intro Tt lt ht Xt Nt et Ot fg fh f t hfg hfh hft
    refine own_st (fun _ k => XS.iconst Xt.here hx rfl (hb hby at_51) k) ?_
    obtain ⟨T21, hp21, kk21, X21, e21, Et21, A21, Ax21, st21⟩ := newPE Xt hx hZ (aty := .int) (own_w0 hw) et (g := (mkF m 52 #[.val (.int p1), .val (.int p2), .val (.int p3), .val (.int p4), .val (.long q5), .second, .val (.int p6), .val (.int fg), .val (.int fh), .val (.int f), .val (.int t), .unset, .unset, .unset, .unset, .unset, .unset, .unset, .unset, .unset, .unset, .unset, .unset] [(.int (4 : Int32))])) rfl (hb hby at_52) rfl (by decide) (cap := 4) (by decide) (by decide) (by decide) (by decide) (ad := "[I") rfl
    obtain ⟨b21, g21⟩ : ∃ z, z = ht.size := ⟨_, rfl⟩
    rw [← g21] at A21 Ax21 st21
    have s_b21 : h0.size ≤ b21 := Nat.le_trans Ot.1 (Nat.le_of_eq g21.symm)
    have g_b21 : n0 ≤ b21 := Nat.le_trans Z0 s_b21
    have O21 := own_extt Ot Et21
    have Va21 : Arv Z hp21 b21 kk21 .int (4 : Int32) [(.int (0 : Int32)), (.int (0 : Int32)), (.int (0 : Int32)), (.int (0 : Int32))] (.int (0 : Int32)) := (Arv.new A21 (by decide)).pad (pad_rep [] (.int (0 : Int32)) 4)
    refine own_st st21 ?_
    refine own_st (fun _ k => XS.dup X21.here hx rfl (hb hby at_54) rfl rfl k) ?_
    refine own_st (fun _ k => XS.iconst X21.here hx rfl (hb hby at_55) k) ?_
    refine own_st (fun _ k => XS.iloadN X21.here hx rfl (hb hby at_56) rfl k) ?_
    obtain ⟨T22, hp22, X22, e22, W22, Va22, st22⟩ := own_stI X21 hx hZ e21 Va21 (by decide) 0 (by decide) (Nat.le_of_ble_eq_true rfl) (g := (mkF m 57 #[.val (.int p1), .val (.int p2), .val (.int p3), .val (.int p4), .val (.long q5), .second, .val (.int p6), .val (.int fg), .val (.int fh), .val (.int f), .val (.int t), .unset, .unset, .unset, .unset, .unset, .unset, .unset, .unset, .unset, .unset, .unset, .unset] [(.int p1), (.int (0 : Int32)), (.ref b21), (.ref b21)])) rfl rfl (hb hby at_57)
    have O22 := own_extw O21 W22 s_b21
    have Ex_b21_22 := Ax21.wr W22
    have Va22 : Arv Z hp22 b21 kk21 .int (4 : Int32) [(.int p1), (.int (0 : Int32)), (.int (0 : Int32)), (.int (0 : Int32))] (.int (0 : Int32)) := Va22
    have N22 := Fr.snoc X22 Nt g_b21
    refine own_st st22 ?_
    show own_Go _ _ _ _ T22 (mkF m 58 #[.val (.int p1), .val (.int p2), .val (.int p3), .val (.int p4), .val (.long q5), .second, .val (.int p6), .val (.int fg), .val (.int fh), .val (.int f), .val (.int t), .unset, .unset, .unset, .unset, .unset, .unset, .unset, .unset, .unset, .unset, .unset, .unset] [(.ref b21)])
    refine own_st (fun _ k => XS.dup X22.here hx rfl (hb hby at_58) rfl rfl k) ?_
    refine own_st (fun _ k => XS.iconst X22.here hx rfl (hb hby at_59) k) ?_
    refine own_st (fun _ k => XS.iloadN X22.here hx rfl (hb hby at_60) rfl k) ?_
    obtain ⟨T23, hp23, X23, e23, W23, Va23, st23⟩ := own_stI X22 hx hZ e22 Va22 (by decide) 1 (by decide) (Nat.le_of_ble_eq_true rfl) (g := (mkF m 61 #[.val (.int p1), .val (.int p2), .val (.int p3), .val (.int p4), .val (.long q5), .second, .val (.int p6), .val (.int fg), .val (.int fh), .val (.int f), .val (.int t), .unset, .unset, .unset, .unset, .unset, .unset, .unset, .unset, .unset, .unset, .unset, .unset] [(.int p2), (.int (1 : Int32)), (.ref b21), (.ref b21)])) rfl rfl (hb hby at_61)
    have O23 := own_extw O22 W23 s_b21
    have Ex_b21_23 := Ex_b21_22.wr W23
    have Va23 : Arv Z hp23 b21 kk21 .int (4 : Int32) [(.int p1), (.int p2), (.int (0 : Int32)), (.int (0 : Int32))] (.int (0 : Int32)) := Va23
    have N23 := Fr.snoc X23 N22 g_b21
    refine own_st st23 ?_
    refine own_st (fun _ k => XS.dup X23.here hx rfl (hb hby at_62) rfl rfl k) ?_
    refine own_st (fun _ k => XS.iconst X23.here hx rfl (hb hby at_63) k) ?_
    show own_Go _ _ _ _ T23 (mkF m 64 #[.val (.int p1), .val (.int p2), .val (.int p3), .val (.int p4), .val (.long q5), .second, .val (.int p6), .val (.int fg), .val (.int fh), .val (.int f), .val (.int t), .unset, .unset, .unset, .unset, .unset, .unset, .unset, .unset, .unset, .unset, .unset, .unset] [(.int (2 : Int32)), (.ref b21), (.ref b21)])
    refine own_st (fun _ k => XS.iloadN X23.here hx rfl (hb hby at_64) rfl k) ?_
    obtain ⟨T24, hp24, X24, e24, W24, Va24, st24⟩ := own_stI X23 hx hZ e23 Va23 (by decide) 2 (by decide) (Nat.le_of_ble_eq_true rfl) (g := (mkF m 65 #[.val (.int p1), .val (.int p2), .val (.int p3), .val (.int p4), .val (.long q5), .second, .val (.int p6), .val (.int fg), .val (.int fh), .val (.int f), .val (.int t), .unset, .unset, .unset, .unset, .unset, .unset, .unset, .unset, .unset, .unset, .unset, .unset] [(.int p3), (.int (2 : Int32)), (.ref b21), (.ref b21)])) rfl rfl (hb hby at_65)
    have O24 := own_extw O23 W24 s_b21
    have Ex_b21_24 := Ex_b21_23.wr W24
    have Va24 : Arv Z hp24 b21 kk21 .int (4 : Int32) [(.int p1), (.int p2), (.int p3), (.int (0 : Int32))] (.int (0 : Int32)) := Va24
    have N24 := Fr.snoc X24 N23 g_b21
    refine own_st st24 ?_
    refine own_st (fun _ k => XS.dup X24.here hx rfl (hb hby at_66) rfl rfl k) ?_
    refine own_st (fun _ k => XS.iconst X24.here hx rfl (hb hby at_67) k) ?_
    refine own_st (fun _ k => XS.iloadN X24.here hx rfl (hb hby at_68) rfl k) ?_
    obtain ⟨T25, hp25, X25, e25, W25, Va25, st25⟩ := own_stI X24 hx hZ e24 Va24 (by decide) 3 (by decide) (Nat.le_of_ble_eq_true rfl) (g := (mkF m 69 #[.val (.int p1), .val (.int p2), .val (.int p3), .val (.int p4), .val (.long q5), .second, .val (.int p6), .val (.int fg), .val (.int fh), .val (.int f), .val (.int t), .unset, .unset, .unset, .unset, .unset, .unset, .unset, .unset, .unset, .unset, .unset, .unset] [(.int p4), (.int (3 : Int32)), (.ref b21), (.ref b21)])) rfl rfl (hb hby at_69)
    have O25 := own_extw O24 W25 s_b21
    have Ex_b21_25 := Ex_b21_24.wr W25
    have Va25 : Arv Z hp25 b21 kk21 .int (4 : Int32) [(.int p1), (.int p2), (.int p3), (.int p4)] (.int (0 : Int32)) := Va25
    have N25 := Fr.snoc X25 N24 g_b21
    refine own_st st25 ?_
    show own_Go _ _ _ _ T25 (mkF m 70 #[.val (.int p1), .val (.int p2), .val (.int p3), .val (.int p4), .val (.long q5), .second, .val (.int p6), .val (.int fg), .val (.int fh), .val (.int f), .val (.int t), .unset, .unset, .unset, .unset, .unset, .unset, .unset, .unset, .unset, .unset, .unset, .unset] [(.ref b21)])
    refine own_st (fun _ k => XS.astore X25.here hx rfl (hb hby at_70) rfl rfl (l' := #[.val (.int p1), .val (.int p2), .val (.int p3), .val (.int p4), .val (.long q5), .second, .val (.int p6), .val (.int fg), .val (.int fh), .val (.int f), .val (.int t), .val (.ref b21), .unset, .unset, .unset, .unset, .unset, .unset, .unset, .unset, .unset, .unset, .unset]) rfl k) ?_
    refine own_st (fun _ k => XS.iconst X25.here hx rfl (hb hby at_72) k) ?_
    obtain ⟨T26, hp26, kk26, X26, e26, Et26, A26, Ax26, st26⟩ := newPE X25 hx hZ (aty := .int) (own_w0 hw) e25 (g := (mkF m 73 #[.val (.int p1), .val (.int p2), .val (.int p3), .val (.int p4), .val (.long q5), .second, .val (.int p6), .val (.int fg), .val (.int fh), .val (.int f), .val (.int t), .val (.ref b21), .unset, .unset, .unset, .unset, .unset, .unset, .unset, .unset, .unset, .unset, .unset] [(.int (4 : Int32))])) rfl (hb hby at_73) rfl (by decide) (cap := 4) (by decide) (by decide) (by decide) (by decide) (ad := "[I") rfl
    obtain ⟨b26, g26⟩ : ∃ z, z = hp25.size := ⟨_, rfl⟩
    rw [← g26] at A26 Ax26 st26
    have s_b26 : h0.size ≤ b26 := Nat.le_trans O25.1 (Nat.le_of_eq g26.symm)
    have g_b26 : n0 ≤ b26 := Nat.le_trans Z0 s_b26
    have lt_b21_b26 : b21 < b26 := Nat.lt_of_lt_of_le Va25.lt (Nat.le_of_eq g26.symm)
    have O26 := own_extt O25 Et26
    have V_b21_26 := Va25.ext Et26
    have Ex_b21_26 := Ex_b21_25.ext Et26
    have Va26 : Arv Z hp26 b26 kk26 .int (4 : Int32) [(.int (0 : Int32)), (.int (0 : Int32)), (.int (0 : Int32)), (.int (0 : Int32))] (.int (0 : Int32)) := (Arv.new A26 (by decide)).pad (pad_rep [] (.int (0 : Int32)) 4)
    refine own_st st26 ?_
    refine own_st (fun _ k => XS.dup X26.here hx rfl (hb hby at_75) rfl rfl k) ?_
    refine own_st (fun _ k => XS.iconst X26.here hx rfl (hb hby at_76) k) ?_
    refine own_st (fun _ k => XS.iloadN X26.here hx rfl (hb hby at_77) rfl k) ?_
    show own_Go _ _ _ _ T26 (mkF m 78 #[.val (.int p1), .val (.int p2), .val (.int p3), .val (.int p4), .val (.long q5), .second, .val (.int p6), .val (.int fg), .val (.int fh), .val (.int f), .val (.int t), .val (.ref b21), .unset, .unset, .unset, .unset, .unset, .unset, .unset, .unset, .unset, .unset, .unset] [(.int p1), (.int (0 : Int32)), (.ref b26), (.ref b26)])
    obtain ⟨T27, hp27, X27, e27, W27, Va27, st27⟩ := own_stI X26 hx hZ e26 Va26 (by decide) 0 (by decide) (Nat.le_of_ble_eq_true rfl) (g := (mkF m 78 #[.val (.int p1), .val (.int p2), .val (.int p3), .val (.int p4), .val (.long q5), .second, .val (.int p6), .val (.int fg), .val (.int fh), .val (.int f), .val (.int t), .val (.ref b21), .unset, .unset, .unset, .unset, .unset, .unset, .unset, .unset, .unset, .unset, .unset] [(.int p1), (.int (0 : Int32)), (.ref b26), (.ref b26)])) rfl rfl (hb hby at_78)
    have O27 := own_extw O26 W27 s_b26
    have V_b21_27 := V_b21_26.other W27 (Nat.ne_of_lt lt_b21_b26)
    have Ex_b21_27 := Ex_b21_26.wr W27
    have Ex_b26_27 := Ax26.wr W27
    have Va27 : Arv Z hp27 b26 kk26 .int (4 : Int32) [(.int p1), (.int (0 : Int32)), (.int (0 : Int32)), (.int (0 : Int32))] (.int (0 : Int32)) := Va27
    have N27 := Fr.snoc X27 N25 g_b26
    refine own_st st27 ?_
    refine own_st (fun _ k => XS.dup X27.here hx rfl (hb hby at_79) rfl rfl k) ?_
    refine own_st (fun _ k => XS.iconst X27.here hx rfl (hb hby at_80) k) ?_
    refine own_st (fun _ k => XS.iloadN X27.here hx rfl (hb hby at_81) rfl k) ?_
    obtain ⟨T28, hp28, X28, e28, W28, Va28, st28⟩ := own_stI X27 hx hZ e27 Va27 (by decide) 1 (by decide) (Nat.le_of_ble_eq_true rfl) (g := (mkF m 82 #[.val (.int p1), .val (.int p2), .val (.int p3), .val (.int p4), .val (.long q5), .second, .val (.int p6), .val (.int fg), .val (.int fh), .val (.int f), .val (.int t), .val (.ref b21), .unset, .unset, .unset, .unset, .unset, .unset, .unset, .unset, .unset, .unset, .unset] [(.int p2), (.int (1 : Int32)), (.ref b26), (.ref b26)])) rfl rfl (hb hby at_82)
    have O28 := own_extw O27 W28 s_b26
    have V_b21_28 := V_b21_27.other W28 (Nat.ne_of_lt lt_b21_b26)
    have Ex_b21_28 := Ex_b21_27.wr W28
    have Ex_b26_28 := Ex_b26_27.wr W28
    have Va28 : Arv Z hp28 b26 kk26 .int (4 : Int32) [(.int p1), (.int p2), (.int (0 : Int32)), (.int (0 : Int32))] (.int (0 : Int32)) := Va28
    have N28 := Fr.snoc X28 N27 g_b26
    refine own_st st28 ?_
    refine own_st (fun _ k => XS.dup X28.here hx rfl (hb hby at_83) rfl rfl k) ?_
    show own_Go _ _ _ _ T28 (mkF m 84 #[.val (.int p1), .val (.int p2), .val (.int p3), .val (.int p4), .val (.long q5), .second, .val (.int p6), .val (.int fg), .val (.int fh), .val (.int f), .val (.int t), .val (.ref b21), .unset, .unset, .unset, .unset, .unset, .unset, .unset, .unset, .unset, .unset, .unset] [(.ref b26), (.ref b26)])
    refine own_st (fun _ k => XS.iconst X28.here hx rfl (hb hby at_84) k) ?_
    refine own_st (fun _ k => XS.iloadN X28.here hx rfl (hb hby at_85) rfl k) ?_
    obtain ⟨T29, hp29, X29, e29, W29, Va29, st29⟩ := own_stI X28 hx hZ e28 Va28 (by decide) 2 (by decide) (Nat.le_of_ble_eq_true rfl) (g := (mkF m 86 #[.val (.int p1), .val (.int p2), .val (.int p3), .val (.int p4), .val (.long q5), .second, .val (.int p6), .val (.int fg), .val (.int fh), .val (.int f), .val (.int t), .val (.ref b21), .unset, .unset, .unset, .unset, .unset, .unset, .unset, .unset, .unset, .unset, .unset] [(.int p3), (.int (2 : Int32)), (.ref b26), (.ref b26)])) rfl rfl (hb hby at_86)
    have O29 := own_extw O28 W29 s_b26
    have V_b21_29 := V_b21_28.other W29 (Nat.ne_of_lt lt_b21_b26)
    have Ex_b21_29 := Ex_b21_28.wr W29
    have Ex_b26_29 := Ex_b26_28.wr W29
    have Va29 : Arv Z hp29 b26 kk26 .int (4 : Int32) [(.int p1), (.int p2), (.int p3), (.int (0 : Int32))] (.int (0 : Int32)) := Va29
    have N29 := Fr.snoc X29 N28 g_b26
    refine own_st st29 ?_
    refine own_st (fun _ k => XS.dup X29.here hx rfl (hb hby at_87) rfl rfl k) ?_
    refine own_st (fun _ k => XS.iconst X29.here hx rfl (hb hby at_88) k) ?_
    refine own_st (fun _ k => XS.iloadN X29.here hx rfl (hb hby at_89) rfl k) ?_
    show own_Go _ _ _ _ T29 (mkF m 90 #[.val (.int p1), .val (.int p2), .val (.int p3), .val (.int p4), .val (.long q5), .second, .val (.int p6), .val (.int fg), .val (.int fh), .val (.int f), .val (.int t), .val (.ref b21), .unset, .unset, .unset, .unset, .unset, .unset, .unset, .unset, .unset, .unset, .unset] [(.int p4), (.int (3 : Int32)), (.ref b26), (.ref b26)])
    obtain ⟨T30, hp30, X30, e30, W30, Va30, st30⟩ := own_stI X29 hx hZ e29 Va29 (by decide) 3 (by decide) (Nat.le_of_ble_eq_true rfl) (g := (mkF m 90 #[.val (.int p1), .val (.int p2), .val (.int p3), .val (.int p4), .val (.long q5), .second, .val (.int p6), .val (.int fg), .val (.int fh), .val (.int f), .val (.int t), .val (.ref b21), .unset, .unset, .unset, .unset, .unset, .unset, .unset, .unset, .unset, .unset, .unset] [(.int p4), (.int (3 : Int32)), (.ref b26), (.ref b26)])) rfl rfl (hb hby at_90)
    have O30 := own_extw O29 W30 s_b26
    have V_b21_30 := V_b21_29.other W30 (Nat.ne_of_lt lt_b21_b26)
    have Ex_b21_30 := Ex_b21_29.wr W30
    have Ex_b26_30 := Ex_b26_29.wr W30
    have Va30 : Arv Z hp30 b26 kk26 .int (4 : Int32) [(.int p1), (.int p2), (.int p3), (.int p4)] (.int (0 : Int32)) := Va30
    have N30 := Fr.snoc X30 N29 g_b26
    refine own_st st30 ?_
    refine own_st (fun _ k => XS.astore X30.here hx rfl (hb hby at_91) rfl rfl (l' := #[.val (.int p1), .val (.int p2), .val (.int p3), .val (.int p4), .val (.long q5), .second, .val (.int p6), .val (.int fg), .val (.int fh), .val (.int f), .val (.int t), .val (.ref b21), .val (.ref b26), .unset, .unset, .unset, .unset, .unset, .unset, .unset, .unset, .unset, .unset]) rfl k) ?_
    refine own_st (fun _ k => XS.lload X30.here hx rfl (hb hby at_93) rfl k) ?_
    refine own_st (fun _ k => XS.l2i X30.here hx rfl (hb hby at_95) rfl k) ?_
    refine own_st (fun _ k => XS.istore X30.here hx rfl (hb hby at_96) rfl (l' := #[.val (.int p1), .val (.int p2), .val (.int p3), .val (.int p4), .val (.long q5), .second, .val (.int p6), .val (.int fg), .val (.int fh), .val (.int f), .val (.int t), .val (.ref b21), .val (.ref b26), .val (.int (q5.toInt32)), .unset, .unset, .unset, .unset, .unset, .unset, .unset, .unset, .unset]) rfl k) ?_
    refine own_st (fun _ k => XS.lload X30.here hx rfl (hb hby at_98) rfl k) ?_
    show own_Go _ _ _ _ T30 (mkF m 100 #[.val (.int p1), .val (.int p2), .val (.int p3), .val (.int p4), .val (.long q5), .second, .val (.int p6), .val (.int fg), .val (.int fh), .val (.int f), .val (.int t), .val (.ref b21), .val (.ref b26), .val (.int (q5.toInt32)), .unset, .unset, .unset, .unset, .unset, .unset, .unset, .unset, .unset] [(.long q5)])
    refine own_st (fun _ k => XS.bipush X30.here hx rfl (hb hby at_100) k) ?_
    refine own_st (fun _ k => XS.lushr X30.here hx rfl (hb hby at_102) rfl k) ?_
    refine own_st (fun _ k => XS.l2i X30.here hx rfl (hb hby at_103) rfl k) ?_
    refine own_st (fun _ k => XS.istore X30.here hx rfl (hb hby at_104) rfl (l' := #[.val (.int p1), .val (.int p2), .val (.int p3), .val (.int p4), .val (.long q5), .second, .val (.int p6), .val (.int fg), .val (.int fh), .val (.int f), .val (.int t), .val (.ref b21), .val (.ref b26), .val (.int (q5.toInt32)), .val (.int (((q5.toUInt64 >>> ((32 : Int32) &&& 0x3f).toInt64.toUInt64).toInt64).toInt32)), .unset, .unset, .unset, .unset, .unset, .unset, .unset, .unset]) rfl k) ?_
    refine own_st (fun _ k => XS.iloadN X30.here hx rfl (hb hby at_106) rfl k) ?_
    refine own_st (fun _ k => XS.iloadN X30.here hx rfl (hb hby at_107) rfl k) ?_
    show own_Go _ _ _ _ T30 (mkF m 108 #[.val (.int p1), .val (.int p2), .val (.int p3), .val (.int p4), .val (.long q5), .second, .val (.int p6), .val (.int fg), .val (.int fh), .val (.int f), .val (.int t), .val (.ref b21), .val (.ref b26), .val (.int (q5.toInt32)), .val (.int (((q5.toUInt64 >>> ((32 : Int32) &&& 0x3f).toInt64.toUInt64).toInt64).toInt32)), .unset, .unset, .unset, .unset, .unset, .unset, .unset, .unset] [(.int p4), (.int p1)])
    refine own_st (fun _ k => XS.ixor X30.here hx rfl (hb hby at_108) rfl k) ?_
    refine own_st (fun _ k => XS.istore X30.here hx rfl (hb hby at_109) rfl (l' := #[.val (.int p1), .val (.int p2), .val (.int p3), .val (.int p4), .val (.long q5), .second, .val (.int p6), .val (.int fg), .val (.int fh), .val (.int f), .val (.int t), .val (.ref b21), .val (.ref b26), .val (.int (q5.toInt32)), .val (.int (((q5.toUInt64 >>> ((32 : Int32) &&& 0x3f).toInt64.toUInt64).toInt64).toInt32)), .val (.int (p1 ^^^ p4)), .unset, .unset, .unset, .unset, .unset, .unset, .unset]) rfl k) ?_
    refine own_st (fun _ k => XS.iloadN X30.here hx rfl (hb hby at_111) rfl k) ?_
    refine own_st (fun _ k => XS.iconst X30.here hx rfl (hb hby at_112) k) ?_
    refine own_st (fun _ k => XS.ixor X30.here hx rfl (hb hby at_113) rfl k) ?_
    refine own_st (fun _ k => XS.istore X30.here hx rfl (hb hby at_114) rfl (l' := #[.val (.int p1), .val (.int p2), .val (.int p3), .val (.int p4), .val (.long q5), .second, .val (.int p6), .val (.int fg), .val (.int fh), .val (.int f), .val (.int t), .val (.ref b21), .val (.ref b26), .val (.int (q5.toInt32)), .val (.int (((q5.toUInt64 >>> ((32 : Int32) &&& 0x3f).toInt64.toUInt64).toInt64).toInt32)), .val (.int (p1 ^^^ p4)), .val (.int (p2 ^^^ (-1 : Int32))), .unset, .unset, .unset, .unset, .unset, .unset]) rfl k) ?_
    show own_Go _ _ _ _ T30 (mkF m 116 #[.val (.int p1), .val (.int p2), .val (.int p3), .val (.int p4), .val (.long q5), .second, .val (.int p6), .val (.int fg), .val (.int fh), .val (.int f), .val (.int t), .val (.ref b21), .val (.ref b26), .val (.int (q5.toInt32)), .val (.int (((q5.toUInt64 >>> ((32 : Int32) &&& 0x3f).toInt64.toUInt64).toInt64).toInt32)), .val (.int (p1 ^^^ p4)), .val (.int (p2 ^^^ (-1 : Int32))), .unset, .unset, .unset, .unset, .unset, .unset] [])
    refine own_st (fun _ k => XS.iconst X30.here hx rfl (hb hby at_116) k) ?_
    obtain ⟨T31, hp31, kk31, X31, e31, Et31, A31, Ax31, st31⟩ := newPE X30 hx hZ (aty := .int) (own_w0 hw) e30 (g := (mkF m 117 #[.val (.int p1), .val (.int p2), .val (.int p3), .val (.int p4), .val (.long q5), .second, .val (.int p6), .val (.int fg), .val (.int fh), .val (.int f), .val (.int t), .val (.ref b21), .val (.ref b26), .val (.int (q5.toInt32)), .val (.int (((q5.toUInt64 >>> ((32 : Int32) &&& 0x3f).toInt64.toUInt64).toInt64).toInt32)), .val (.int (p1 ^^^ p4)), .val (.int (p2 ^^^ (-1 : Int32))), .unset, .unset, .unset, .unset, .unset, .unset] [(.int (4 : Int32))])) rfl (hb hby at_117) rfl (by decide) (cap := 4) (by decide) (by decide) (by decide) (by decide) (ad := "[I") rfl
    obtain ⟨b31, g31⟩ : ∃ z, z = hp30.size := ⟨_, rfl⟩
    rw [← g31] at A31 Ax31 st31
    have s_b31 : h0.size ≤ b31 := Nat.le_trans O30.1 (Nat.le_of_eq g31.symm)
    have g_b31 : n0 ≤ b31 := Nat.le_trans Z0 s_b31
    have lt_b21_b31 : b21 < b31 := Nat.lt_of_lt_of_le V_b21_30.lt (Nat.le_of_eq g31.symm)
    have lt_b26_b31 : b26 < b31 := Nat.lt_of_lt_of_le Va30.lt (Nat.le_of_eq g31.symm)
    have O31 := own_extt O30 Et31
    have V_b21_31 := V_b21_30.ext Et31
    have V_b26_31 := Va30.ext Et31
    have Ex_b21_31 := Ex_b21_30.ext Et31
    have Ex_b26_31 := Ex_b26_30.ext Et31
    have Va31 : Arv Z hp31 b31 kk31 .int (4 : Int32) [(.int (0 : Int32)), (.int (0 : Int32)), (.int (0 : Int32)), (.int (0 : Int32))] (.int (0 : Int32)) := (Arv.new A31 (by decide)).pad (pad_rep [] (.int (0 : Int32)) 4)
    refine own_st st31 ?_
    refine own_st (fun _ k => XS.dup X31.here hx rfl (hb hby at_119) rfl rfl k) ?_
    refine own_st (fun _ k => XS.iconst X31.here hx rfl (hb hby at_120) k) ?_
    refine own_st (fun _ k => XS.iload X31.here hx rfl (hb hby at_121) rfl k) ?_
    obtain ⟨T32, hp32, X32, e32, W32, Va32, st32⟩ := own_stI X31 hx hZ e31 Va31 (by decide) 0 (by decide) (Nat.le_of_ble_eq_true rfl) (g := (mkF m 123 #[.val (.int p1), .val (.int p2), .val (.int p3), .val (.int p4), .val (.long q5), .second, .val (.int p6), .val (.int fg), .val (.int fh), .val (.int f), .val (.int t), .val (.ref b21), .val (.ref b26), .val (.int (q5.toInt32)), .val (.int (((q5.toUInt64 >>> ((32 : Int32) &&& 0x3f).toInt64.toUInt64).toInt64).toInt32)), .val (.int (p1 ^^^ p4)), .val (.int (p2 ^^^ (-1 : Int32))), .unset, .unset, .unset, .unset, .unset, .unset] [(.int (q5.toInt32)), (.int (0 : Int32)), (.ref b31), (.ref b31)])) rfl rfl (hb hby at_123)
    have O32 := own_extw O31 W32 s_b31
    have V_b21_32 := V_b21_31.other W32 (Nat.ne_of_lt lt_b21_b31)
    have V_b26_32 := V_b26_31.other W32 (Nat.ne_of_lt lt_b26_b31)
    have Ex_b21_32 := Ex_b21_31.wr W32
    have Ex_b26_32 := Ex_b26_31.wr W32
    have Ex_b31_32 := Ax31.wr W32
    have Va32 : Arv Z hp32 b31 kk31 .int (4 : Int32) [(.int (q5.toInt32)), (.int (0 : Int32)), (.int (0 : Int32)), (.int (0 : Int32))] (.int (0 : Int32)) := Va32
    have N32 := Fr.snoc X32 N30 g_b31
    refine own_st st32 ?_
    show own_Go _ _ _ _ T32 (mkF m 124 #[.val (.int p1), .val (.int p2), .val (.int p3), .val (.int p4), .val (.long q5), .second, .val (.int p6), .val (.int fg), .val (.int fh), .val (.int f), .val (.int t), .val (.ref b21), .val (.ref b26), .val (.int (q5.toInt32)), .val (.int (((q5.toUInt64 >>> ((32 : Int32) &&& 0x3f).toInt64.toUInt64).toInt64).toInt32)), .val (.int (p1 ^^^ p4)), .val (.int (p2 ^^^ (-1 : Int32))), .unset, .unset, .unset, .unset, .unset, .unset] [(.ref b31)])
    refine own_st (fun _ k => XS.dup X32.here hx rfl (hb hby at_124) rfl rfl k) ?_
    refine own_st (fun _ k => XS.iconst X32.here hx rfl (hb hby at_125) k) ?_
    refine own_st (fun _ k => XS.iload X32.here hx rfl (hb hby at_126) rfl k) ?_
    obtain ⟨T33, hp33, X33, e33, W33, Va33, st33⟩ := own_stI X32 hx hZ e32 Va32 (by decide) 1 (by decide) (Nat.le_of_ble_eq_true rfl) (g := (mkF m 128 #[.val (.int p1), .val (.int p2), .val (.int p3), .val (.int p4), .val (.long q5), .second, .val (.int p6), .val (.int fg), .val (.int fh), .val (.int f), .val (.int t), .val (.ref b21), .val (.ref b26), .val (.int (q5.toInt32)), .val (.int (((q5.toUInt64 >>> ((32 : Int32) &&& 0x3f).toInt64.toUInt64).toInt64).toInt32)), .val (.int (p1 ^^^ p4)), .val (.int (p2 ^^^ (-1 : Int32))), .unset, .unset, .unset, .unset, .unset, .unset] [(.int (((q5.toUInt64 >>> ((32 : Int32) &&& 0x3f).toInt64.toUInt64).toInt64).toInt32)), (.int (1 : Int32)), (.ref b31), (.ref b31)])) rfl rfl (hb hby at_128)
    have O33 := own_extw O32 W33 s_b31
    have V_b21_33 := V_b21_32.other W33 (Nat.ne_of_lt lt_b21_b31)
    have V_b26_33 := V_b26_32.other W33 (Nat.ne_of_lt lt_b26_b31)
    have Ex_b21_33 := Ex_b21_32.wr W33
    have Ex_b26_33 := Ex_b26_32.wr W33
    have Ex_b31_33 := Ex_b31_32.wr W33
    have Va33 : Arv Z hp33 b31 kk31 .int (4 : Int32) [(.int (q5.toInt32)), (.int (((q5.toUInt64 >>> ((32 : Int32) &&& 0x3f).toInt64.toUInt64).toInt64).toInt32)), (.int (0 : Int32)), (.int (0 : Int32))] (.int (0 : Int32)) := Va33
    have N33 := Fr.snoc X33 N32 g_b31
    refine own_st st33 ?_
    refine own_st (fun _ k => XS.dup X33.here hx rfl (hb hby at_129) rfl rfl k) ?_
    refine own_st (fun _ k => XS.iconst X33.here hx rfl (hb hby at_130) k) ?_
    show own_Go _ _ _ _ T33 (mkF m 131 #[.val (.int p1), .val (.int p2), .val (.int p3), .val (.int p4), .val (.long q5), .second, .val (.int p6), .val (.int fg), .val (.int fh), .val (.int f), .val (.int t), .val (.ref b21), .val (.ref b26), .val (.int (q5.toInt32)), .val (.int (((q5.toUInt64 >>> ((32 : Int32) &&& 0x3f).toInt64.toUInt64).toInt64).toInt32)), .val (.int (p1 ^^^ p4)), .val (.int (p2 ^^^ (-1 : Int32))), .unset, .unset, .unset, .unset, .unset, .unset] [(.int (2 : Int32)), (.ref b31), (.ref b31)])
    refine own_st (fun _ k => XS.iload X33.here hx rfl (hb hby at_131) rfl k) ?_
    obtain ⟨T34, hp34, X34, e34, W34, Va34, st34⟩ := own_stI X33 hx hZ e33 Va33 (by decide) 2 (by decide) (Nat.le_of_ble_eq_true rfl) (g := (mkF m 133 #[.val (.int p1), .val (.int p2), .val (.int p3), .val (.int p4), .val (.long q5), .second, .val (.int p6), .val (.int fg), .val (.int fh), .val (.int f), .val (.int t), .val (.ref b21), .val (.ref b26), .val (.int (q5.toInt32)), .val (.int (((q5.toUInt64 >>> ((32 : Int32) &&& 0x3f).toInt64.toUInt64).toInt64).toInt32)), .val (.int (p1 ^^^ p4)), .val (.int (p2 ^^^ (-1 : Int32))), .unset, .unset, .unset, .unset, .unset, .unset] [(.int (p1 ^^^ p4)), (.int (2 : Int32)), (.ref b31), (.ref b31)])) rfl rfl (hb hby at_133)
    have O34 := own_extw O33 W34 s_b31
    have V_b21_34 := V_b21_33.other W34 (Nat.ne_of_lt lt_b21_b31)
    have V_b26_34 := V_b26_33.other W34 (Nat.ne_of_lt lt_b26_b31)
    have Ex_b21_34 := Ex_b21_33.wr W34
    have Ex_b26_34 := Ex_b26_33.wr W34
    have Ex_b31_34 := Ex_b31_33.wr W34
    have Va34 : Arv Z hp34 b31 kk31 .int (4 : Int32) [(.int (q5.toInt32)), (.int (((q5.toUInt64 >>> ((32 : Int32) &&& 0x3f).toInt64.toUInt64).toInt64).toInt32)), (.int (p1 ^^^ p4)), (.int (0 : Int32))] (.int (0 : Int32)) := Va34
    have N34 := Fr.snoc X34 N33 g_b31
    refine own_st st34 ?_
    refine own_st (fun _ k => XS.dup X34.here hx rfl (hb hby at_134) rfl rfl k) ?_
    refine own_st (fun _ k => XS.iconst X34.here hx rfl (hb hby at_135) k) ?_
    refine own_st (fun _ k => XS.iload X34.here hx rfl (hb hby at_136) rfl k) ?_
    obtain ⟨T35, hp35, X35, e35, W35, Va35, st35⟩ := own_stI X34 hx hZ e34 Va34 (by decide) 3 (by decide) (Nat.le_of_ble_eq_true rfl) (g := (mkF m 138 #[.val (.int p1), .val (.int p2), .val (.int p3), .val (.int p4), .val (.long q5), .second, .val (.int p6), .val (.int fg), .val (.int fh), .val (.int f), .val (.int t), .val (.ref b21), .val (.ref b26), .val (.int (q5.toInt32)), .val (.int (((q5.toUInt64 >>> ((32 : Int32) &&& 0x3f).toInt64.toUInt64).toInt64).toInt32)), .val (.int (p1 ^^^ p4)), .val (.int (p2 ^^^ (-1 : Int32))), .unset, .unset, .unset, .unset, .unset, .unset] [(.int (p2 ^^^ (-1 : Int32))), (.int (3 : Int32)), (.ref b31), (.ref b31)])) rfl rfl (hb hby at_138)
    have O35 := own_extw O34 W35 s_b31
    have V_b21_35 := V_b21_34.other W35 (Nat.ne_of_lt lt_b21_b31)
    have V_b26_35 := V_b26_34.other W35 (Nat.ne_of_lt lt_b26_b31)
    have Ex_b21_35 := Ex_b21_34.wr W35
    have Ex_b26_35 := Ex_b26_34.wr W35
    have Ex_b31_35 := Ex_b31_34.wr W35
    have Va35 : Arv Z hp35 b31 kk31 .int (4 : Int32) [(.int (q5.toInt32)), (.int (((q5.toUInt64 >>> ((32 : Int32) &&& 0x3f).toInt64.toUInt64).toInt64).toInt32)), (.int (p1 ^^^ p4)), (.int (p2 ^^^ (-1 : Int32)))] (.int (0 : Int32)) := Va35
    have N35 := Fr.snoc X35 N34 g_b31
    refine own_st st35 ?_
    show own_Go _ _ _ _ T35 (mkF m 139 #[.val (.int p1), .val (.int p2), .val (.int p3), .val (.int p4), .val (.long q5), .second, .val (.int p6), .val (.int fg), .val (.int fh), .val (.int f), .val (.int t), .val (.ref b21), .val (.ref b26), .val (.int (q5.toInt32)), .val (.int (((q5.toUInt64 >>> ((32 : Int32) &&& 0x3f).toInt64.toUInt64).toInt64).toInt32)), .val (.int (p1 ^^^ p4)), .val (.int (p2 ^^^ (-1 : Int32))), .unset, .unset, .unset, .unset, .unset, .unset] [(.ref b31)])
    refine own_st (fun _ k => XS.astore X35.here hx rfl (hb hby at_139) rfl rfl (l' := #[.val (.int p1), .val (.int p2), .val (.int p3), .val (.int p4), .val (.long q5), .second, .val (.int p6), .val (.int fg), .val (.int fh), .val (.int f), .val (.int t), .val (.ref b21), .val (.ref b26), .val (.int (q5.toInt32)), .val (.int (((q5.toUInt64 >>> ((32 : Int32) &&& 0x3f).toInt64.toUInt64).toInt64).toInt32)), .val (.int (p1 ^^^ p4)), .val (.int (p2 ^^^ (-1 : Int32))), .val (.ref b31), .unset, .unset, .unset, .unset, .unset]) rfl k) ?_
    refine own_st (fun _ k => XS.iconst X35.here hx rfl (hb hby at_141) k) ?_
    obtain ⟨T36, hp36, kk36, X36, e36, Et36, A36, Ax36, st36⟩ := newPE X35 hx hZ (aty := .int) (own_w0 hw) e35 (g := (mkF m 142 #[.val (.int p1), .val (.int p2), .val (.int p3), .val (.int p4), .val (.long q5), .second, .val (.int p6), .val (.int fg), .val (.int fh), .val (.int f), .val (.int t), .val (.ref b21), .val (.ref b26), .val (.int (q5.toInt32)), .val (.int (((q5.toUInt64 >>> ((32 : Int32) &&& 0x3f).toInt64.toUInt64).toInt64).toInt32)), .val (.int (p1 ^^^ p4)), .val (.int (p2 ^^^ (-1 : Int32))), .val (.ref b31), .unset, .unset, .unset, .unset, .unset] [(.int (4 : Int32))])) rfl (hb hby at_142) rfl (by decide) (cap := 4) (by decide) (by decide) (by decide) (by decide) (ad := "[I") rfl
    obtain ⟨b36, g36⟩ : ∃ z, z = hp35.size := ⟨_, rfl⟩
    rw [← g36] at A36 Ax36 st36
    have s_b36 : h0.size ≤ b36 := Nat.le_trans O35.1 (Nat.le_of_eq g36.symm)
    have g_b36 : n0 ≤ b36 := Nat.le_trans Z0 s_b36
    have lt_b21_b36 : b21 < b36 := Nat.lt_of_lt_of_le V_b21_35.lt (Nat.le_of_eq g36.symm)
    have lt_b26_b36 : b26 < b36 := Nat.lt_of_lt_of_le V_b26_35.lt (Nat.le_of_eq g36.symm)
    have lt_b31_b36 : b31 < b36 := Nat.lt_of_lt_of_le Va35.lt (Nat.le_of_eq g36.symm)
    have O36 := own_extt O35 Et36
    have V_b21_36 := V_b21_35.ext Et36
    have V_b26_36 := V_b26_35.ext Et36
    have V_b31_36 := Va35.ext Et36
    have Ex_b21_36 := Ex_b21_35.ext Et36
    have Ex_b26_36 := Ex_b26_35.ext Et36
    have Ex_b31_36 := Ex_b31_35.ext Et36
    have Va36 : Arv Z hp36 b36 kk36 .int (4 : Int32) [(.int (0 : Int32)), (.int (0 : Int32)), (.int (0 : Int32)), (.int (0 : Int32))] (.int (0 : Int32)) := (Arv.new A36 (by decide)).pad (pad_rep [] (.int (0 : Int32)) 4)
    refine own_st st36 ?_
    refine own_st (fun _ k => XS.dup X36.here hx rfl (hb hby at_144) rfl rfl k) ?_
    refine own_st (fun _ k => XS.iconst X36.here hx rfl (hb hby at_145) k) ?_
    refine own_st (fun _ k => XS.iload X36.here hx rfl (hb hby at_146) rfl k) ?_
    show own_Go _ _ _ _ T36 (mkF m 148 #[.val (.int p1), .val (.int p2), .val (.int p3), .val (.int p4), .val (.long q5), .second, .val (.int p6), .val (.int fg), .val (.int fh), .val (.int f), .val (.int t), .val (.ref b21), .val (.ref b26), .val (.int (q5.toInt32)), .val (.int (((q5.toUInt64 >>> ((32 : Int32) &&& 0x3f).toInt64.toUInt64).toInt64).toInt32)), .val (.int (p1 ^^^ p4)), .val (.int (p2 ^^^ (-1 : Int32))), .val (.ref b31), .unset, .unset, .unset, .unset, .unset] [(.int (q5.toInt32)), (.int (0 : Int32)), (.ref b36), (.ref b36)])
    obtain ⟨T37, hp37, X37, e37, W37, Va37, st37⟩ := own_stI X36 hx hZ e36 Va36 (by decide) 0 (by decide) (Nat.le_of_ble_eq_true rfl) (g := (mkF m 148 #[.val (.int p1), .val (.int p2), .val (.int p3), .val (.int p4), .val (.long q5), .second, .val (.int p6), .val (.int fg), .val (.int fh), .val (.int f), .val (.int t), .val (.ref b21), .val (.ref b26), .val (.int (q5.toInt32)), .val (.int (((q5.toUInt64 >>> ((32 : Int32) &&& 0x3f).toInt64.toUInt64).toInt64).toInt32)), .val (.int (p1 ^^^ p4)), .val (.int (p2 ^^^ (-1 : Int32))), .val (.ref b31), .unset, .unset, .unset, .unset, .unset] [(.int (q5.toInt32)), (.int (0 : Int32)), (.ref b36), (.ref b36)])) rfl rfl (hb hby at_148)
    have O37 := own_extw O36 W37 s_b36
    have V_b21_37 := V_b21_36.other W37 (Nat.ne_of_lt lt_b21_b36)
    have V_b26_37 := V_b26_36.other W37 (Nat.ne_of_lt lt_b26_b36)
    have V_b31_37 := V_b31_36.other W37 (Nat.ne_of_lt lt_b31_b36)
    have Ex_b21_37 := Ex_b21_36.wr W37
    have Ex_b26_37 := Ex_b26_36.wr W37
    have Ex_b31_37 := Ex_b31_36.wr W37
    have Ex_b36_37 := Ax36.wr W37
    have Va37 : Arv Z hp37 b36 kk36 .int (4 : Int32) [(.int (q5.toInt32)), (.int (0 : Int32)), (.int (0 : Int32)), (.int (0 : Int32))] (.int (0 : Int32)) := Va37
    have N37 := Fr.snoc X37 N35 g_b36
    refine own_st st37 ?_
    refine own_st (fun _ k => XS.dup X37.here hx rfl (hb hby at_149) rfl rfl k) ?_
    refine own_st (fun _ k => XS.iconst X37.here hx rfl (hb hby at_150) k) ?_
    refine own_st (fun _ k => XS.iload X37.here hx rfl (hb hby at_151) rfl k) ?_
    obtain ⟨T38, hp38, X38, e38, W38, Va38, st38⟩ := own_stI X37 hx hZ e37 Va37 (by decide) 1 (by decide) (Nat.le_of_ble_eq_true rfl) (g := (mkF m 153 #[.val (.int p1), .val (.int p2), .val (.int p3), .val (.int p4), .val (.long q5), .second, .val (.int p6), .val (.int fg), .val (.int fh), .val (.int f), .val (.int t), .val (.ref b21), .val (.ref b26), .val (.int (q5.toInt32)), .val (.int (((q5.toUInt64 >>> ((32 : Int32) &&& 0x3f).toInt64.toUInt64).toInt64).toInt32)), .val (.int (p1 ^^^ p4)), .val (.int (p2 ^^^ (-1 : Int32))), .val (.ref b31), .unset, .unset, .unset, .unset, .unset] [(.int (((q5.toUInt64 >>> ((32 : Int32) &&& 0x3f).toInt64.toUInt64).toInt64).toInt32)), (.int (1 : Int32)), (.ref b36), (.ref b36)])) rfl rfl (hb hby at_153)
    have O38 := own_extw O37 W38 s_b36
    have V_b21_38 := V_b21_37.other W38 (Nat.ne_of_lt lt_b21_b36)
    have V_b26_38 := V_b26_37.other W38 (Nat.ne_of_lt lt_b26_b36)
    have V_b31_38 := V_b31_37.other W38 (Nat.ne_of_lt lt_b31_b36)
    have Ex_b21_38 := Ex_b21_37.wr W38
    have Ex_b26_38 := Ex_b26_37.wr W38
    have Ex_b31_38 := Ex_b31_37.wr W38
    have Ex_b36_38 := Ex_b36_37.wr W38
    have Va38 : Arv Z hp38 b36 kk36 .int (4 : Int32) [(.int (q5.toInt32)), (.int (((q5.toUInt64 >>> ((32 : Int32) &&& 0x3f).toInt64.toUInt64).toInt64).toInt32)), (.int (0 : Int32)), (.int (0 : Int32))] (.int (0 : Int32)) := Va38
    have N38 := Fr.snoc X38 N37 g_b36
    refine own_st st38 ?_
    refine own_st (fun _ k => XS.dup X38.here hx rfl (hb hby at_154) rfl rfl k) ?_
    show own_Go _ _ _ _ T38 (mkF m 155 #[.val (.int p1), .val (.int p2), .val (.int p3), .val (.int p4), .val (.long q5), .second, .val (.int p6), .val (.int fg), .val (.int fh), .val (.int f), .val (.int t), .val (.ref b21), .val (.ref b26), .val (.int (q5.toInt32)), .val (.int (((q5.toUInt64 >>> ((32 : Int32) &&& 0x3f).toInt64.toUInt64).toInt64).toInt32)), .val (.int (p1 ^^^ p4)), .val (.int (p2 ^^^ (-1 : Int32))), .val (.ref b31), .unset, .unset, .unset, .unset, .unset] [(.ref b36), (.ref b36)])
    refine own_st (fun _ k => XS.iconst X38.here hx rfl (hb hby at_155) k) ?_
    refine own_st (fun _ k => XS.iload X38.here hx rfl (hb hby at_156) rfl k) ?_
    obtain ⟨T39, hp39, X39, e39, W39, Va39, st39⟩ := own_stI X38 hx hZ e38 Va38 (by decide) 2 (by decide) (Nat.le_of_ble_eq_true rfl) (g := (mkF m 158 #[.val (.int p1), .val (.int p2), .val (.int p3), .val (.int p4), .val (.long q5), .second, .val (.int p6), .val (.int fg), .val (.int fh), .val (.int f), .val (.int t), .val (.ref b21), .val (.ref b26), .val (.int (q5.toInt32)), .val (.int (((q5.toUInt64 >>> ((32 : Int32) &&& 0x3f).toInt64.toUInt64).toInt64).toInt32)), .val (.int (p1 ^^^ p4)), .val (.int (p2 ^^^ (-1 : Int32))), .val (.ref b31), .unset, .unset, .unset, .unset, .unset] [(.int (p1 ^^^ p4)), (.int (2 : Int32)), (.ref b36), (.ref b36)])) rfl rfl (hb hby at_158)
    have O39 := own_extw O38 W39 s_b36
    have V_b21_39 := V_b21_38.other W39 (Nat.ne_of_lt lt_b21_b36)
    have V_b26_39 := V_b26_38.other W39 (Nat.ne_of_lt lt_b26_b36)
    have V_b31_39 := V_b31_38.other W39 (Nat.ne_of_lt lt_b31_b36)
    have Ex_b21_39 := Ex_b21_38.wr W39
    have Ex_b26_39 := Ex_b26_38.wr W39
    have Ex_b31_39 := Ex_b31_38.wr W39
    have Ex_b36_39 := Ex_b36_38.wr W39
    have Va39 : Arv Z hp39 b36 kk36 .int (4 : Int32) [(.int (q5.toInt32)), (.int (((q5.toUInt64 >>> ((32 : Int32) &&& 0x3f).toInt64.toUInt64).toInt64).toInt32)), (.int (p1 ^^^ p4)), (.int (0 : Int32))] (.int (0 : Int32)) := Va39
    have N39 := Fr.snoc X39 N38 g_b36
    refine own_st st39 ?_
    refine own_st (fun _ k => XS.dup X39.here hx rfl (hb hby at_159) rfl rfl k) ?_
    refine own_st (fun _ k => XS.iconst X39.here hx rfl (hb hby at_160) k) ?_
    refine own_st (fun _ k => XS.iload X39.here hx rfl (hb hby at_161) rfl k) ?_
    show own_Go _ _ _ _ T39 (mkF m 163 #[.val (.int p1), .val (.int p2), .val (.int p3), .val (.int p4), .val (.long q5), .second, .val (.int p6), .val (.int fg), .val (.int fh), .val (.int f), .val (.int t), .val (.ref b21), .val (.ref b26), .val (.int (q5.toInt32)), .val (.int (((q5.toUInt64 >>> ((32 : Int32) &&& 0x3f).toInt64.toUInt64).toInt64).toInt32)), .val (.int (p1 ^^^ p4)), .val (.int (p2 ^^^ (-1 : Int32))), .val (.ref b31), .unset, .unset, .unset, .unset, .unset] [(.int (p2 ^^^ (-1 : Int32))), (.int (3 : Int32)), (.ref b36), (.ref b36)])
    obtain ⟨T40, hp40, X40, e40, W40, Va40, st40⟩ := own_stI X39 hx hZ e39 Va39 (by decide) 3 (by decide) (Nat.le_of_ble_eq_true rfl) (g := (mkF m 163 #[.val (.int p1), .val (.int p2), .val (.int p3), .val (.int p4), .val (.long q5), .second, .val (.int p6), .val (.int fg), .val (.int fh), .val (.int f), .val (.int t), .val (.ref b21), .val (.ref b26), .val (.int (q5.toInt32)), .val (.int (((q5.toUInt64 >>> ((32 : Int32) &&& 0x3f).toInt64.toUInt64).toInt64).toInt32)), .val (.int (p1 ^^^ p4)), .val (.int (p2 ^^^ (-1 : Int32))), .val (.ref b31), .unset, .unset, .unset, .unset, .unset] [(.int (p2 ^^^ (-1 : Int32))), (.int (3 : Int32)), (.ref b36), (.ref b36)])) rfl rfl (hb hby at_163)
    have O40 := own_extw O39 W40 s_b36
    have V_b21_40 := V_b21_39.other W40 (Nat.ne_of_lt lt_b21_b36)
    have V_b26_40 := V_b26_39.other W40 (Nat.ne_of_lt lt_b26_b36)
    have V_b31_40 := V_b31_39.other W40 (Nat.ne_of_lt lt_b31_b36)
    have Ex_b21_40 := Ex_b21_39.wr W40
    have Ex_b26_40 := Ex_b26_39.wr W40
    have Ex_b31_40 := Ex_b31_39.wr W40
    have Ex_b36_40 := Ex_b36_39.wr W40
    have Va40 : Arv Z hp40 b36 kk36 .int (4 : Int32) [(.int (q5.toInt32)), (.int (((q5.toUInt64 >>> ((32 : Int32) &&& 0x3f).toInt64.toUInt64).toInt64).toInt32)), (.int (p1 ^^^ p4)), (.int (p2 ^^^ (-1 : Int32)))] (.int (0 : Int32)) := Va40
    have N40 := Fr.snoc X40 N39 g_b36
    refine own_st st40 ?_
    refine own_st (fun _ k => XS.astore X40.here hx rfl (hb hby at_164) rfl rfl (l' := #[.val (.int p1), .val (.int p2), .val (.int p3), .val (.int p4), .val (.long q5), .second, .val (.int p6), .val (.int fg), .val (.int fh), .val (.int f), .val (.int t), .val (.ref b21), .val (.ref b26), .val (.int (q5.toInt32)), .val (.int (((q5.toUInt64 >>> ((32 : Int32) &&& 0x3f).toInt64.toUInt64).toInt64).toInt32)), .val (.int (p1 ^^^ p4)), .val (.int (p2 ^^^ (-1 : Int32))), .val (.ref b31), .val (.ref b36), .unset, .unset, .unset, .unset]) rfl k) ?_
    refine own_st (fun _ k => XS.iconst X40.here hx rfl (hb hby at_166) k) ?_
    obtain ⟨T41, hp41, kk41, X41, e41, Et41, A41, Ov41, st41⟩ := newR X40 hx hZ hown (own_w1 hw) (own_w2 hw) e40 (g := (mkF m 167 #[.val (.int p1), .val (.int p2), .val (.int p3), .val (.int p4), .val (.long q5), .second, .val (.int p6), .val (.int fg), .val (.int fh), .val (.int f), .val (.int t), .val (.ref b21), .val (.ref b26), .val (.int (q5.toInt32)), .val (.int (((q5.toUInt64 >>> ((32 : Int32) &&& 0x3f).toInt64.toUInt64).toInt64).toInt32)), .val (.int (p1 ^^^ p4)), .val (.int (p2 ^^^ (-1 : Int32))), .val (.ref b31), .val (.ref b36), .unset, .unset, .unset, .unset] [(.int (4 : Int32))])) rfl (hb hby at_167) rfl (by decide) (cap := 4) (by decide) (by decide) (by decide) (by decide)
    obtain ⟨b41, g41⟩ : ∃ z, z = hp40.size := ⟨_, rfl⟩
    rw [← g41] at A41 st41
    have s_b41 : h0.size ≤ b41 := Nat.le_trans O40.1 (Nat.le_of_eq g41.symm)
    have g_b41 : n0 ≤ b41 := Nat.le_trans Z0 s_b41
    have lt_b21_b41 : b21 < b41 := Nat.lt_of_lt_of_le V_b21_40.lt (Nat.le_of_eq g41.symm)
    have lt_b26_b41 : b26 < b41 := Nat.lt_of_lt_of_le V_b26_40.lt (Nat.le_of_eq g41.symm)
    have lt_b31_b41 : b31 < b41 := Nat.lt_of_lt_of_le V_b31_40.lt (Nat.le_of_eq g41.symm)
    have lt_b36_b41 : b36 < b41 := Nat.lt_of_lt_of_le Va40.lt (Nat.le_of_eq g41.symm)
    have O41 := own_extt O40 Et41
    have V_b21_41 := V_b21_40.ext Et41
    have V_b26_41 := V_b26_40.ext Et41
    have V_b31_41 := V_b31_40.ext Et41
    have V_b36_41 := Va40.ext Et41
    have Ex_b21_41 := Ex_b21_40.ext Et41
    have Ex_b26_41 := Ex_b26_40.ext Et41
    have Ex_b31_41 := Ex_b31_40.ext Et41
    have Ex_b36_41 := Ex_b36_40.ext Et41
    have Va41 : Arv Z hp41 b41 kk41 (.object "java/lang/Object") (4 : Int32) [.null, .null, .null, .null] .null := (Arv.new A41 (by decide)).pad (pad_rep [] .null 4)
    refine own_st st41 ?_
    refine own_st (fun _ k => XS.dup X41.here hx rfl (hb hby at_170) rfl rfl k) ?_
    refine own_st (fun _ k => XS.iconst X41.here hx rfl (hb hby at_171) k) ?_
    show own_Go _ _ _ _ T41 (mkF m 172 #[.val (.int p1), .val (.int p2), .val (.int p3), .val (.int p4), .val (.long q5), .second, .val (.int p6), .val (.int fg), .val (.int fh), .val (.int f), .val (.int t), .val (.ref b21), .val (.ref b26), .val (.int (q5.toInt32)), .val (.int (((q5.toUInt64 >>> ((32 : Int32) &&& 0x3f).toInt64.toUInt64).toInt64).toInt32)), .val (.int (p1 ^^^ p4)), .val (.int (p2 ^^^ (-1 : Int32))), .val (.ref b31), .val (.ref b36), .unset, .unset, .unset, .unset] [(.int (0 : Int32)), (.ref b41), (.ref b41)])
    refine own_st (fun _ k => XS.iconst X41.here hx rfl (hb hby at_172) k) ?_
    obtain ⟨T42, hp42, kk42, X42, e42, Et42, A42, Ax42, st42⟩ := newPE X41 hx hZ (aty := .int) (own_w0 hw) e41 (g := (mkF m 173 #[.val (.int p1), .val (.int p2), .val (.int p3), .val (.int p4), .val (.long q5), .second, .val (.int p6), .val (.int fg), .val (.int fh), .val (.int f), .val (.int t), .val (.ref b21), .val (.ref b26), .val (.int (q5.toInt32)), .val (.int (((q5.toUInt64 >>> ((32 : Int32) &&& 0x3f).toInt64.toUInt64).toInt64).toInt32)), .val (.int (p1 ^^^ p4)), .val (.int (p2 ^^^ (-1 : Int32))), .val (.ref b31), .val (.ref b36), .unset, .unset, .unset, .unset] [(.int (0 : Int32)), (.int (0 : Int32)), (.ref b41), (.ref b41)])) rfl (hb hby at_173) rfl (by decide) (cap := 0) (by decide) (by decide) (by decide) (by decide) (ad := "[I") rfl
    obtain ⟨b42, g42⟩ : ∃ z, z = hp41.size := ⟨_, rfl⟩
    rw [← g42] at A42 Ax42 st42
    have s_b42 : h0.size ≤ b42 := Nat.le_trans O41.1 (Nat.le_of_eq g42.symm)
    have g_b42 : n0 ≤ b42 := Nat.le_trans Z0 s_b42
    have lt_b21_b42 : b21 < b42 := Nat.lt_of_lt_of_le V_b21_41.lt (Nat.le_of_eq g42.symm)
    have lt_b26_b42 : b26 < b42 := Nat.lt_of_lt_of_le V_b26_41.lt (Nat.le_of_eq g42.symm)
    have lt_b31_b42 : b31 < b42 := Nat.lt_of_lt_of_le V_b31_41.lt (Nat.le_of_eq g42.symm)
    have lt_b36_b42 : b36 < b42 := Nat.lt_of_lt_of_le V_b36_41.lt (Nat.le_of_eq g42.symm)
    have lt_b41_b42 : b41 < b42 := Nat.lt_of_lt_of_le Va41.lt (Nat.le_of_eq g42.symm)
    have O42 := own_extt O41 Et42
    have V_b21_42 := V_b21_41.ext Et42
    have V_b26_42 := V_b26_41.ext Et42
    have V_b31_42 := V_b31_41.ext Et42
    have V_b36_42 := V_b36_41.ext Et42
    have V_b41_42 := Va41.ext Et42
    have Ex_b21_42 := Ex_b21_41.ext Et42
    have Ex_b26_42 := Ex_b26_41.ext Et42
    have Ex_b31_42 := Ex_b31_41.ext Et42
    have Ex_b36_42 := Ex_b36_41.ext Et42
    have Va42 : Arv Z hp42 b42 kk42 .int (0 : Int32) [] (.int (0 : Int32)) := (Arv.new A42 (by decide)).pad (pad_rep [] (.int (0 : Int32)) 0)
    refine own_st st42 ?_
    obtain ⟨T43, hp43, X43, e43, W43, Va43, st43⟩ := own_stR X42 hx hZ e42 V_b41_42 rfl rfl (by decide) 0 (by decide) (Nat.le_of_ble_eq_true rfl) (fun cl Ar q => Sto.ofV Ar q Ov41 (Ins.of_exa Ax42 (own_w3 hw))) (g := (mkF m 175 #[.val (.int p1), .val (.int p2), .val (.int p3), .val (.int p4), .val (.long q5), .second, .val (.int p6), .val (.int fg), .val (.int fh), .val (.int f), .val (.int t), .val (.ref b21), .val (.ref b26), .val (.int (q5.toInt32)), .val (.int (((q5.toUInt64 >>> ((32 : Int32) &&& 0x3f).toInt64.toUInt64).toInt64).toInt32)), .val (.int (p1 ^^^ p4)), .val (.int (p2 ^^^ (-1 : Int32))), .val (.ref b31), .val (.ref b36), .unset, .unset, .unset, .unset] [(.ref b42), (.int (0 : Int32)), (.ref b41), (.ref b41)])) rfl rfl (hb hby at_175)
    have O43 := own_extw O42 W43 s_b41
    have V_b21_43 := V_b21_42.other W43 (Nat.ne_of_lt lt_b21_b41)
    have V_b26_43 := V_b26_42.other W43 (Nat.ne_of_lt lt_b26_b41)
    have V_b31_43 := V_b31_42.other W43 (Nat.ne_of_lt lt_b31_b41)
    have V_b36_43 := V_b36_42.other W43 (Nat.ne_of_lt lt_b36_b41)
    have V_b42_43 := Va42.other W43 (Nat.ne_of_gt lt_b41_b42)
    have Ex_b21_43 := Ex_b21_42.wr W43
    have Ex_b26_43 := Ex_b26_42.wr W43
    have Ex_b31_43 := Ex_b31_42.wr W43
    have Ex_b36_43 := Ex_b36_42.wr W43
    have Ex_b42_43 := Ax42.wr W43
    have Va43 : Arv Z hp43 b41 kk41 (.object "java/lang/Object") (4 : Int32) [(.ref b42), .null, .null, .null] .null := Va43
    have N43 := Fr.snoc X43 N40 g_b41
    refine own_st st43 ?_
    refine own_st (fun _ k => XS.dup X43.here hx rfl (hb hby at_176) rfl rfl k) ?_
    refine own_st (fun _ k => XS.iconst X43.here hx rfl (hb hby at_177) k) ?_
    refine own_st (fun _ k => XS.iconst X43.here hx rfl (hb hby at_178) k) ?_
    show own_Go _ _ _ _ T43 (mkF m 179 #[.val (.int p1), .val (.int p2), .val (.int p3), .val (.int p4), .val (.long q5), .second, .val (.int p6), .val (.int fg), .val (.int fh), .val (.int f), .val (.int t), .val (.ref b21), .val (.ref b26), .val (.int (q5.toInt32)), .val (.int (((q5.toUInt64 >>> ((32 : Int32) &&& 0x3f).toInt64.toUInt64).toInt64).toInt32)), .val (.int (p1 ^^^ p4)), .val (.int (p2 ^^^ (-1 : Int32))), .val (.ref b31), .val (.ref b36), .unset, .unset, .unset, .unset] [(.int (0 : Int32)), (.int (1 : Int32)), (.ref b41), (.ref b41)])
    obtain ⟨T44, hp44, kk44, X44, e44, Et44, A44, Ax44, st44⟩ := newPE X43 hx hZ (aty := .int) (own_w0 hw) e43 (g := (mkF m 179 #[.val (.int p1), .val (.int p2), .val (.int p3), .val (.int p4), .val (.long q5), .second, .val (.int p6), .val (.int fg), .val (.int fh), .val (.int f), .val (.int t), .val (.ref b21), .val (.ref b26), .val (.int (q5.toInt32)), .val (.int (((q5.toUInt64 >>> ((32 : Int32) &&& 0x3f).toInt64.toUInt64).toInt64).toInt32)), .val (.int (p1 ^^^ p4)), .val (.int (p2 ^^^ (-1 : Int32))), .val (.ref b31), .val (.ref b36), .unset, .unset, .unset, .unset] [(.int (0 : Int32)), (.int (1 : Int32)), (.ref b41), (.ref b41)])) rfl (hb hby at_179) rfl (by decide) (cap := 0) (by decide) (by decide) (by decide) (by decide) (ad := "[I") rfl
    obtain ⟨b44, g44⟩ : ∃ z, z = hp43.size := ⟨_, rfl⟩
    rw [← g44] at A44 Ax44 st44
    have s_b44 : h0.size ≤ b44 := Nat.le_trans O43.1 (Nat.le_of_eq g44.symm)
    have g_b44 : n0 ≤ b44 := Nat.le_trans Z0 s_b44
    have lt_b21_b44 : b21 < b44 := Nat.lt_of_lt_of_le V_b21_43.lt (Nat.le_of_eq g44.symm)
    have lt_b26_b44 : b26 < b44 := Nat.lt_of_lt_of_le V_b26_43.lt (Nat.le_of_eq g44.symm)
    have lt_b31_b44 : b31 < b44 := Nat.lt_of_lt_of_le V_b31_43.lt (Nat.le_of_eq g44.symm)
    have lt_b36_b44 : b36 < b44 := Nat.lt_of_lt_of_le V_b36_43.lt (Nat.le_of_eq g44.symm)
    have lt_b41_b44 : b41 < b44 := Nat.lt_of_lt_of_le Va43.lt (Nat.le_of_eq g44.symm)
    have lt_b42_b44 : b42 < b44 := Nat.lt_of_lt_of_le V_b42_43.lt (Nat.le_of_eq g44.symm)
    have O44 := own_extt O43 Et44
    have V_b21_44 := V_b21_43.ext Et44
    have V_b26_44 := V_b26_43.ext Et44
    have V_b31_44 := V_b31_43.ext Et44
    have V_b36_44 := V_b36_43.ext Et44
    have V_b41_44 := Va43.ext Et44
    have V_b42_44 := V_b42_43.ext Et44
    have Ex_b21_44 := Ex_b21_43.ext Et44
    have Ex_b26_44 := Ex_b26_43.ext Et44
    have Ex_b31_44 := Ex_b31_43.ext Et44
    have Ex_b36_44 := Ex_b36_43.ext Et44
    have Ex_b42_44 := Ex_b42_43.ext Et44
    have Va44 : Arv Z hp44 b44 kk44 .int (0 : Int32) [] (.int (0 : Int32)) := (Arv.new A44 (by decide)).pad (pad_rep [] (.int (0 : Int32)) 0)
    refine own_st st44 ?_
    obtain ⟨T45, hp45, X45, e45, W45, Va45, st45⟩ := own_stR X44 hx hZ e44 V_b41_44 rfl rfl (by decide) 1 (by decide) (Nat.le_of_ble_eq_true rfl) (fun cl Ar q => Sto.ofV Ar q Ov41 (Ins.of_exa Ax44 (own_w3 hw))) (g := (mkF m 181 #[.val (.int p1), .val (.int p2), .val (.int p3), .val (.int p4), .val (.long q5), .second, .val (.int p6), .val (.int fg), .val (.int fh), .val (.int f), .val (.int t), .val (.ref b21), .val (.ref b26), .val (.int (q5.toInt32)), .val (.int (((q5.toUInt64 >>> ((32 : Int32) &&& 0x3f).toInt64.toUInt64).toInt64).toInt32)), .val (.int (p1 ^^^ p4)), .val (.int (p2 ^^^ (-1 : Int32))), .val (.ref b31), .val (.ref b36), .unset, .unset, .unset, .unset] [(.ref b44), (.int (1 : Int32)), (.ref b41), (.ref b41)])) rfl rfl (hb hby at_181)
    have O45 := own_extw O44 W45 s_b41
    have V_b21_45 := V_b21_44.other W45 (Nat.ne_of_lt lt_b21_b41)
    have V_b26_45 := V_b26_44.other W45 (Nat.ne_of_lt lt_b26_b41)
    have V_b31_45 := V_b31_44.other W45 (Nat.ne_of_lt lt_b31_b41)
    have V_b36_45 := V_b36_44.other W45 (Nat.ne_of_lt lt_b36_b41)
    have V_b42_45 := V_b42_44.other W45 (Nat.ne_of_gt lt_b41_b42)
    have V_b44_45 := Va44.other W45 (Nat.ne_of_gt lt_b41_b44)
    have Ex_b21_45 := Ex_b21_44.wr W45
    have Ex_b26_45 := Ex_b26_44.wr W45
    have Ex_b31_45 := Ex_b31_44.wr W45
    have Ex_b36_45 := Ex_b36_44.wr W45
    have Ex_b42_45 := Ex_b42_44.wr W45
    have Ex_b44_45 := Ax44.wr W45
    have Va45 : Arv Z hp45 b41 kk41 (.object "java/lang/Object") (4 : Int32) [(.ref b42), (.ref b44), .null, .null] .null := Va45
    have N45 := Fr.snoc X45 N43 g_b41
    refine own_st st45 ?_
    refine own_st (fun _ k => XS.dup X45.here hx rfl (hb hby at_182) rfl rfl k) ?_
    refine own_st (fun _ k => XS.iconst X45.here hx rfl (hb hby at_183) k) ?_
    refine own_st (fun _ k => XS.iconst X45.here hx rfl (hb hby at_184) k) ?_
    obtain ⟨T46, hp46, kk46, X46, e46, Et46, A46, Ax46, st46⟩ := newPE X45 hx hZ (aty := .int) (own_w0 hw) e45 (g := (mkF m 185 #[.val (.int p1), .val (.int p2), .val (.int p3), .val (.int p4), .val (.long q5), .second, .val (.int p6), .val (.int fg), .val (.int fh), .val (.int f), .val (.int t), .val (.ref b21), .val (.ref b26), .val (.int (q5.toInt32)), .val (.int (((q5.toUInt64 >>> ((32 : Int32) &&& 0x3f).toInt64.toUInt64).toInt64).toInt32)), .val (.int (p1 ^^^ p4)), .val (.int (p2 ^^^ (-1 : Int32))), .val (.ref b31), .val (.ref b36), .unset, .unset, .unset, .unset] [(.int (0 : Int32)), (.int (2 : Int32)), (.ref b41), (.ref b41)])) rfl (hb hby at_185) rfl (by decide) (cap := 0) (by decide) (by decide) (by decide) (by decide) (ad := "[I") rfl
    obtain ⟨b46, g46⟩ : ∃ z, z = hp45.size := ⟨_, rfl⟩
    rw [← g46] at A46 Ax46 st46
    have s_b46 : h0.size ≤ b46 := Nat.le_trans O45.1 (Nat.le_of_eq g46.symm)
    have g_b46 : n0 ≤ b46 := Nat.le_trans Z0 s_b46
    have lt_b21_b46 : b21 < b46 := Nat.lt_of_lt_of_le V_b21_45.lt (Nat.le_of_eq g46.symm)
    have lt_b26_b46 : b26 < b46 := Nat.lt_of_lt_of_le V_b26_45.lt (Nat.le_of_eq g46.symm)
    have lt_b31_b46 : b31 < b46 := Nat.lt_of_lt_of_le V_b31_45.lt (Nat.le_of_eq g46.symm)
    have lt_b36_b46 : b36 < b46 := Nat.lt_of_lt_of_le V_b36_45.lt (Nat.le_of_eq g46.symm)
    have lt_b41_b46 : b41 < b46 := Nat.lt_of_lt_of_le Va45.lt (Nat.le_of_eq g46.symm)
    have lt_b42_b46 : b42 < b46 := Nat.lt_of_lt_of_le V_b42_45.lt (Nat.le_of_eq g46.symm)
    have lt_b44_b46 : b44 < b46 := Nat.lt_of_lt_of_le V_b44_45.lt (Nat.le_of_eq g46.symm)
    have O46 := own_extt O45 Et46
    have V_b21_46 := V_b21_45.ext Et46
    have V_b26_46 := V_b26_45.ext Et46
    have V_b31_46 := V_b31_45.ext Et46
    have V_b36_46 := V_b36_45.ext Et46
    have V_b41_46 := Va45.ext Et46
    have V_b42_46 := V_b42_45.ext Et46
    have V_b44_46 := V_b44_45.ext Et46
    have Ex_b21_46 := Ex_b21_45.ext Et46
    have Ex_b26_46 := Ex_b26_45.ext Et46
    have Ex_b31_46 := Ex_b31_45.ext Et46
    have Ex_b36_46 := Ex_b36_45.ext Et46
    have Ex_b42_46 := Ex_b42_45.ext Et46
    have Ex_b44_46 := Ex_b44_45.ext Et46
    have Va46 : Arv Z hp46 b46 kk46 .int (0 : Int32) [] (.int (0 : Int32)) := (Arv.new A46 (by decide)).pad (pad_rep [] (.int (0 : Int32)) 0)
    refine own_st st46 ?_
    show own_Go _ _ _ _ T46 (mkF m 187 #[.val (.int p1), .val (.int p2), .val (.int p3), .val (.int p4), .val (.long q5), .second, .val (.int p6), .val (.int fg), .val (.int fh), .val (.int f), .val (.int t), .val (.ref b21), .val (.ref b26), .val (.int (q5.toInt32)), .val (.int (((q5.toUInt64 >>> ((32 : Int32) &&& 0x3f).toInt64.toUInt64).toInt64).toInt32)), .val (.int (p1 ^^^ p4)), .val (.int (p2 ^^^ (-1 : Int32))), .val (.ref b31), .val (.ref b36), .unset, .unset, .unset, .unset] [(.ref b46), (.int (2 : Int32)), (.ref b41), (.ref b41)])
    obtain ⟨T47, hp47, X47, e47, W47, Va47, st47⟩ := own_stR X46 hx hZ e46 V_b41_46 rfl rfl (by decide) 2 (by decide) (Nat.le_of_ble_eq_true rfl) (fun cl Ar q => Sto.ofV Ar q Ov41 (Ins.of_exa Ax46 (own_w3 hw))) (g := (mkF m 187 #[.val (.int p1), .val (.int p2), .val (.int p3), .val (.int p4), .val (.long q5), .second, .val (.int p6), .val (.int fg), .val (.int fh), .val (.int f), .val (.int t), .val (.ref b21), .val (.ref b26), .val (.int (q5.toInt32)), .val (.int (((q5.toUInt64 >>> ((32 : Int32) &&& 0x3f).toInt64.toUInt64).toInt64).toInt32)), .val (.int (p1 ^^^ p4)), .val (.int (p2 ^^^ (-1 : Int32))), .val (.ref b31), .val (.ref b36), .unset, .unset, .unset, .unset] [(.ref b46), (.int (2 : Int32)), (.ref b41), (.ref b41)])) rfl rfl (hb hby at_187)
    have O47 := own_extw O46 W47 s_b41
    have V_b21_47 := V_b21_46.other W47 (Nat.ne_of_lt lt_b21_b41)
    have V_b26_47 := V_b26_46.other W47 (Nat.ne_of_lt lt_b26_b41)
    have V_b31_47 := V_b31_46.other W47 (Nat.ne_of_lt lt_b31_b41)
    have V_b36_47 := V_b36_46.other W47 (Nat.ne_of_lt lt_b36_b41)
    have V_b42_47 := V_b42_46.other W47 (Nat.ne_of_gt lt_b41_b42)
    have V_b44_47 := V_b44_46.other W47 (Nat.ne_of_gt lt_b41_b44)
    have V_b46_47 := Va46.other W47 (Nat.ne_of_gt lt_b41_b46)
    have Ex_b21_47 := Ex_b21_46.wr W47
    have Ex_b26_47 := Ex_b26_46.wr W47
    have Ex_b31_47 := Ex_b31_46.wr W47
    have Ex_b36_47 := Ex_b36_46.wr W47
    have Ex_b42_47 := Ex_b42_46.wr W47
    have Ex_b44_47 := Ex_b44_46.wr W47
    have Ex_b46_47 := Ax46.wr W47
    have Va47 : Arv Z hp47 b41 kk41 (.object "java/lang/Object") (4 : Int32) [(.ref b42), (.ref b44), (.ref b46), .null] .null := Va47
    have N47 := Fr.snoc X47 N45 g_b41
    refine own_st st47 ?_
    refine own_st (fun _ k => XS.dup X47.here hx rfl (hb hby at_188) rfl rfl k) ?_
    refine own_st (fun _ k => XS.iconst X47.here hx rfl (hb hby at_189) k) ?_
    refine own_st (fun _ k => XS.iconst X47.here hx rfl (hb hby at_190) k) ?_
    obtain ⟨T48, hp48, kk48, X48, e48, Et48, A48, Ax48, st48⟩ := newPE X47 hx hZ (aty := .int) (own_w0 hw) e47 (g := (mkF m 191 #[.val (.int p1), .val (.int p2), .val (.int p3), .val (.int p4), .val (.long q5), .second, .val (.int p6), .val (.int fg), .val (.int fh), .val (.int f), .val (.int t), .val (.ref b21), .val (.ref b26), .val (.int (q5.toInt32)), .val (.int (((q5.toUInt64 >>> ((32 : Int32) &&& 0x3f).toInt64.toUInt64).toInt64).toInt32)), .val (.int (p1 ^^^ p4)), .val (.int (p2 ^^^ (-1 : Int32))), .val (.ref b31), .val (.ref b36), .unset, .unset, .unset, .unset] [(.int (0 : Int32)), (.int (3 : Int32)), (.ref b41), (.ref b41)])) rfl (hb hby at_191) rfl (by decide) (cap := 0) (by decide) (by decide) (by decide) (by decide) (ad := "[I") rfl
    obtain ⟨b48, g48⟩ : ∃ z, z = hp47.size := ⟨_, rfl⟩
    rw [← g48] at A48 Ax48 st48
    have s_b48 : h0.size ≤ b48 := Nat.le_trans O47.1 (Nat.le_of_eq g48.symm)
    have g_b48 : n0 ≤ b48 := Nat.le_trans Z0 s_b48
    have lt_b21_b48 : b21 < b48 := Nat.lt_of_lt_of_le V_b21_47.lt (Nat.le_of_eq g48.symm)
    have lt_b26_b48 : b26 < b48 := Nat.lt_of_lt_of_le V_b26_47.lt (Nat.le_of_eq g48.symm)
    have lt_b31_b48 : b31 < b48 := Nat.lt_of_lt_of_le V_b31_47.lt (Nat.le_of_eq g48.symm)
    have lt_b36_b48 : b36 < b48 := Nat.lt_of_lt_of_le V_b36_47.lt (Nat.le_of_eq g48.symm)
    have lt_b41_b48 : b41 < b48 := Nat.lt_of_lt_of_le Va47.lt (Nat.le_of_eq g48.symm)
    have lt_b42_b48 : b42 < b48 := Nat.lt_of_lt_of_le V_b42_47.lt (Nat.le_of_eq g48.symm)
    have lt_b44_b48 : b44 < b48 := Nat.lt_of_lt_of_le V_b44_47.lt (Nat.le_of_eq g48.symm)
    have lt_b46_b48 : b46 < b48 := Nat.lt_of_lt_of_le V_b46_47.lt (Nat.le_of_eq g48.symm)
    have O48 := own_extt O47 Et48
    have V_b21_48 := V_b21_47.ext Et48
    have V_b26_48 := V_b26_47.ext Et48
    have V_b31_48 := V_b31_47.ext Et48
    have V_b36_48 := V_b36_47.ext Et48
    have V_b41_48 := Va47.ext Et48
    have V_b42_48 := V_b42_47.ext Et48
    have V_b44_48 := V_b44_47.ext Et48
    have V_b46_48 := V_b46_47.ext Et48
    have Ex_b21_48 := Ex_b21_47.ext Et48
    have Ex_b26_48 := Ex_b26_47.ext Et48
    have Ex_b31_48 := Ex_b31_47.ext Et48
    have Ex_b36_48 := Ex_b36_47.ext Et48
    have Ex_b42_48 := Ex_b42_47.ext Et48
    have Ex_b44_48 := Ex_b44_47.ext Et48
    have Ex_b46_48 := Ex_b46_47.ext Et48
    have Va48 : Arv Z hp48 b48 kk48 .int (0 : Int32) [] (.int (0 : Int32)) := (Arv.new A48 (by decide)).pad (pad_rep [] (.int (0 : Int32)) 0)
    refine own_st st48 ?_
    obtain ⟨T49, hp49, X49, e49, W49, Va49, st49⟩ := own_stR X48 hx hZ e48 V_b41_48 rfl rfl (by decide) 3 (by decide) (Nat.le_of_ble_eq_true rfl) (fun cl Ar q => Sto.ofV Ar q Ov41 (Ins.of_exa Ax48 (own_w3 hw))) (g := (mkF m 193 #[.val (.int p1), .val (.int p2), .val (.int p3), .val (.int p4), .val (.long q5), .second, .val (.int p6), .val (.int fg), .val (.int fh), .val (.int f), .val (.int t), .val (.ref b21), .val (.ref b26), .val (.int (q5.toInt32)), .val (.int (((q5.toUInt64 >>> ((32 : Int32) &&& 0x3f).toInt64.toUInt64).toInt64).toInt32)), .val (.int (p1 ^^^ p4)), .val (.int (p2 ^^^ (-1 : Int32))), .val (.ref b31), .val (.ref b36), .unset, .unset, .unset, .unset] [(.ref b48), (.int (3 : Int32)), (.ref b41), (.ref b41)])) rfl rfl (hb hby at_193)
    have O49 := own_extw O48 W49 s_b41
    have V_b21_49 := V_b21_48.other W49 (Nat.ne_of_lt lt_b21_b41)
    have V_b26_49 := V_b26_48.other W49 (Nat.ne_of_lt lt_b26_b41)
    have V_b31_49 := V_b31_48.other W49 (Nat.ne_of_lt lt_b31_b41)
    have V_b36_49 := V_b36_48.other W49 (Nat.ne_of_lt lt_b36_b41)
    have V_b42_49 := V_b42_48.other W49 (Nat.ne_of_gt lt_b41_b42)
    have V_b44_49 := V_b44_48.other W49 (Nat.ne_of_gt lt_b41_b44)
    have V_b46_49 := V_b46_48.other W49 (Nat.ne_of_gt lt_b41_b46)
    have V_b48_49 := Va48.other W49 (Nat.ne_of_gt lt_b41_b48)
    have Ex_b21_49 := Ex_b21_48.wr W49
    have Ex_b26_49 := Ex_b26_48.wr W49
    have Ex_b31_49 := Ex_b31_48.wr W49
    have Ex_b36_49 := Ex_b36_48.wr W49
    have Ex_b42_49 := Ex_b42_48.wr W49
    have Ex_b44_49 := Ex_b44_48.wr W49
    have Ex_b46_49 := Ex_b46_48.wr W49
    have Ex_b48_49 := Ax48.wr W49
    have Va49 : Arv Z hp49 b41 kk41 (.object "java/lang/Object") (4 : Int32) [(.ref b42), (.ref b44), (.ref b46), (.ref b48)] .null := Va49
    have N49 := Fr.snoc X49 N47 g_b41
    refine own_st st49 ?_
    show own_Go _ _ _ _ T49 (mkF m 194 #[.val (.int p1), .val (.int p2), .val (.int p3), .val (.int p4), .val (.long q5), .second, .val (.int p6), .val (.int fg), .val (.int fh), .val (.int f), .val (.int t), .val (.ref b21), .val (.ref b26), .val (.int (q5.toInt32)), .val (.int (((q5.toUInt64 >>> ((32 : Int32) &&& 0x3f).toInt64.toUInt64).toInt64).toInt32)), .val (.int (p1 ^^^ p4)), .val (.int (p2 ^^^ (-1 : Int32))), .val (.ref b31), .val (.ref b36), .unset, .unset, .unset, .unset] [(.ref b41)])
    refine own_st (fun _ k => XS.astore X49.here hx rfl (hb hby at_194) rfl rfl (l' := #[.val (.int p1), .val (.int p2), .val (.int p3), .val (.int p4), .val (.long q5), .second, .val (.int p6), .val (.int fg), .val (.int fh), .val (.int f), .val (.int t), .val (.ref b21), .val (.ref b26), .val (.int (q5.toInt32)), .val (.int (((q5.toUInt64 >>> ((32 : Int32) &&& 0x3f).toInt64.toUInt64).toInt64).toInt32)), .val (.int (p1 ^^^ p4)), .val (.int (p2 ^^^ (-1 : Int32))), .val (.ref b31), .val (.ref b36), .val (.ref b41), .unset, .unset, .unset]) rfl k) ?_
    rcases hft with ⟨rfl, rfl⟩ | ⟨rfl, rfl⟩ | ⟨rfl, rfl⟩ | ⟨rfl, rfl⟩ | ⟨rfl, rfl⟩ | ⟨rfl, rfl⟩
    · show own_Go _ _ _ _ T49 (mkF m 196 #[.val (.int p1), .val (.int p2), .val (.int p3), .val (.int p4), .val (.long q5), .second, .val (.int p6), .val (.int fg), .val (.int fh), .val (.int (1 : Int32)), .val (.int (0 : Int32)), .val (.ref b21), .val (.ref b26), .val (.int (q5.toInt32)), .val (.int (((q5.toUInt64 >>> ((32 : Int32) &&& 0x3f).toInt64.toUInt64).toInt64).toInt32)), .val (.int (p1 ^^^ p4)), .val (.int (p2 ^^^ (-1 : Int32))), .val (.ref b31), .val (.ref b36), .val (.ref b41), .unset, .unset, .unset] [])
      refine own_st (fun _ k => XS.aload X49.here hx rfl (hb hby at_196) rfl rfl k) ?_
      refine own_st (fun _ k => XS.iload X49.here hx rfl (hb hby at_198) rfl k) ?_
      refine own_st (fun _ k => XS.aconstNull X49.here hx rfl (hb hby at_200) k) ?_
      obtain ⟨T50, hp50, X50, e50, W50, Va50, st50⟩ := own_stR X49 hx hZ e49 Va49 rfl rfl (by decide) 0 (by decide) (Nat.le_of_ble_eq_true rfl) (fun _ _ _ => Or.inl rfl) (g := (mkF m 201 #[.val (.int p1), .val (.int p2), .val (.int p3), .val (.int p4), .val (.long q5), .second, .val (.int p6), .val (.int fg), .val (.int fh), .val (.int (1 : Int32)), .val (.int (0 : Int32)), .val (.ref b21), .val (.ref b26), .val (.int (q5.toInt32)), .val (.int (((q5.toUInt64 >>> ((32 : Int32) &&& 0x3f).toInt64.toUInt64).toInt64).toInt32)), .val (.int (p1 ^^^ p4)), .val (.int (p2 ^^^ (-1 : Int32))), .val (.ref b31), .val (.ref b36), .val (.ref b41), .unset, .unset, .unset] [.null, (.int (0 : Int32)), (.ref b41)])) rfl rfl (hb hby at_201)
      have O50 := own_extw O49 W50 s_b41
      have V_b21_50 := V_b21_49.other W50 (Nat.ne_of_lt lt_b21_b41)
      have V_b26_50 := V_b26_49.other W50 (Nat.ne_of_lt lt_b26_b41)
      have V_b31_50 := V_b31_49.other W50 (Nat.ne_of_lt lt_b31_b41)
      have V_b36_50 := V_b36_49.other W50 (Nat.ne_of_lt lt_b36_b41)
      have V_b42_50 := V_b42_49.other W50 (Nat.ne_of_gt lt_b41_b42)
      have V_b44_50 := V_b44_49.other W50 (Nat.ne_of_gt lt_b41_b44)
      have V_b46_50 := V_b46_49.other W50 (Nat.ne_of_gt lt_b41_b46)
      have V_b48_50 := V_b48_49.other W50 (Nat.ne_of_gt lt_b41_b48)
      have Ex_b21_50 := Ex_b21_49.wr W50
      have Ex_b26_50 := Ex_b26_49.wr W50
      have Ex_b31_50 := Ex_b31_49.wr W50
      have Ex_b36_50 := Ex_b36_49.wr W50
      have Ex_b42_50 := Ex_b42_49.wr W50
      have Ex_b44_50 := Ex_b44_49.wr W50
      have Ex_b46_50 := Ex_b46_49.wr W50
      have Ex_b48_50 := Ex_b48_49.wr W50
      have Va50 : Arv Z hp50 b41 kk41 (.object "java/lang/Object") (4 : Int32) [.null, (.ref b44), (.ref b46), (.ref b48)] .null := Va50
      have N50 := Fr.snoc X50 N49 g_b41
      refine own_st st50 ?_
      refine own_st (fun _ k => XS.iconst X50.here hx rfl (hb hby at_202) k) ?_
      obtain ⟨T51, hp51, kk51, X51, e51, Et51, A51, Ov51, st51⟩ := newR X50 hx hZ hown (own_w1 hw) (own_w2 hw) e50 (g := (mkF m 203 #[.val (.int p1), .val (.int p2), .val (.int p3), .val (.int p4), .val (.long q5), .second, .val (.int p6), .val (.int fg), .val (.int fh), .val (.int (1 : Int32)), .val (.int (0 : Int32)), .val (.ref b21), .val (.ref b26), .val (.int (q5.toInt32)), .val (.int (((q5.toUInt64 >>> ((32 : Int32) &&& 0x3f).toInt64.toUInt64).toInt64).toInt32)), .val (.int (p1 ^^^ p4)), .val (.int (p2 ^^^ (-1 : Int32))), .val (.ref b31), .val (.ref b36), .val (.ref b41), .unset, .unset, .unset] [(.int (4 : Int32))])) rfl (hb hby at_203) rfl (by decide) (cap := 4) (by decide) (by decide) (by decide) (by decide)
      obtain ⟨b51, g51⟩ : ∃ z, z = hp50.size := ⟨_, rfl⟩
      rw [← g51] at A51 st51
      have s_b51 : h0.size ≤ b51 := Nat.le_trans O50.1 (Nat.le_of_eq g51.symm)
      have g_b51 : n0 ≤ b51 := Nat.le_trans Z0 s_b51
      have lt_b21_b51 : b21 < b51 := Nat.lt_of_lt_of_le V_b21_50.lt (Nat.le_of_eq g51.symm)
      have lt_b26_b51 : b26 < b51 := Nat.lt_of_lt_of_le V_b26_50.lt (Nat.le_of_eq g51.symm)
      have lt_b31_b51 : b31 < b51 := Nat.lt_of_lt_of_le V_b31_50.lt (Nat.le_of_eq g51.symm)
      have lt_b36_b51 : b36 < b51 := Nat.lt_of_lt_of_le V_b36_50.lt (Nat.le_of_eq g51.symm)
      have lt_b41_b51 : b41 < b51 := Nat.lt_of_lt_of_le Va50.lt (Nat.le_of_eq g51.symm)
      have lt_b42_b51 : b42 < b51 := Nat.lt_of_lt_of_le V_b42_50.lt (Nat.le_of_eq g51.symm)
      have lt_b44_b51 : b44 < b51 := Nat.lt_of_lt_of_le V_b44_50.lt (Nat.le_of_eq g51.symm)
      have lt_b46_b51 : b46 < b51 := Nat.lt_of_lt_of_le V_b46_50.lt (Nat.le_of_eq g51.symm)
      have lt_b48_b51 : b48 < b51 := Nat.lt_of_lt_of_le V_b48_50.lt (Nat.le_of_eq g51.symm)
      have O51 := own_extt O50 Et51
      have V_b21_51 := V_b21_50.ext Et51
      have V_b26_51 := V_b26_50.ext Et51
      have V_b31_51 := V_b31_50.ext Et51
      have V_b36_51 := V_b36_50.ext Et51
      have V_b41_51 := Va50.ext Et51
      have V_b42_51 := V_b42_50.ext Et51
      have V_b44_51 := V_b44_50.ext Et51
      have V_b46_51 := V_b46_50.ext Et51
      have V_b48_51 := V_b48_50.ext Et51
      have Ex_b21_51 := Ex_b21_50.ext Et51
      have Ex_b26_51 := Ex_b26_50.ext Et51
      have Ex_b31_51 := Ex_b31_50.ext Et51
      have Ex_b36_51 := Ex_b36_50.ext Et51
      have Ex_b42_51 := Ex_b42_50.ext Et51
      have Ex_b44_51 := Ex_b44_50.ext Et51
      have Ex_b46_51 := Ex_b46_50.ext Et51
      have Ex_b48_51 := Ex_b48_50.ext Et51
      have Va51 : Arv Z hp51 b51 kk51 (.object "java/lang/Object") (4 : Int32) [.null, .null, .null, .null] .null := (Arv.new A51 (by decide)).pad (pad_rep [] .null 4)
      refine own_st st51 ?_
      show own_Go _ _ _ _ T51 (mkF m 206 #[.val (.int p1), .val (.int p2), .val (.int p3), .val (.int p4), .val (.long q5), .second, .val (.int p6), .val (.int fg), .val (.int fh), .val (.int (1 : Int32)), .val (.int (0 : Int32)), .val (.ref b21), .val (.ref b26), .val (.int (q5.toInt32)), .val (.int (((q5.toUInt64 >>> ((32 : Int32) &&& 0x3f).toInt64.toUInt64).toInt64).toInt32)), .val (.int (p1 ^^^ p4)), .val (.int (p2 ^^^ (-1 : Int32))), .val (.ref b31), .val (.ref b36), .val (.ref b41), .unset, .unset, .unset] [(.ref b51)])
      refine own_st (fun _ k => XS.dup X51.here hx rfl (hb hby at_206) rfl rfl k) ?_
      refine own_st (fun _ k => XS.iconst X51.here hx rfl (hb hby at_207) k) ?_
      refine own_st (fun _ k => XS.aload X51.here hx rfl (hb hby at_208) rfl rfl k) ?_
      refine own_st (fun _ k => XS.iconst X51.here hx rfl (hb hby at_210) k) ?_
      refine own_st (own_ldR X51 hx hZ e51 V_b41_51 rfl (j := (0 : Int32)) (by decide) (v := .null) rfl (g := (mkF m 211 #[.val (.int p1), .val (.int p2), .val (.int p3), .val (.int p4), .val (.long q5), .second, .val (.int p6), .val (.int fg), .val (.int fh), .val (.int (1 : Int32)), .val (.int (0 : Int32)), .val (.ref b21), .val (.ref b26), .val (.int (q5.toInt32)), .val (.int (((q5.toUInt64 >>> ((32 : Int32) &&& 0x3f).toInt64.toUInt64).toInt64).toInt32)), .val (.int (p1 ^^^ p4)), .val (.int (p2 ^^^ (-1 : Int32))), .val (.ref b31), .val (.ref b36), .val (.ref b41), .unset, .unset, .unset] [(.int (0 : Int32)), (.ref b41), (.int (0 : Int32)), (.ref b51), (.ref b51)])) rfl rfl (hb hby at_211)) ?_
      obtain ⟨T52, hp52, X52, e52, W52, Va52, st52⟩ := own_stR X51 hx hZ e51 Va51 rfl rfl (by decide) 0 (by decide) (Nat.le_of_ble_eq_true rfl) (fun _ _ _ => Or.inl rfl) (g := (mkF m 212 #[.val (.int p1), .val (.int p2), .val (.int p3), .val (.int p4), .val (.long q5), .second, .val (.int p6), .val (.int fg), .val (.int fh), .val (.int (1 : Int32)), .val (.int (0 : Int32)), .val (.ref b21), .val (.ref b26), .val (.int (q5.toInt32)), .val (.int (((q5.toUInt64 >>> ((32 : Int32) &&& 0x3f).toInt64.toUInt64).toInt64).toInt32)), .val (.int (p1 ^^^ p4)), .val (.int (p2 ^^^ (-1 : Int32))), .val (.ref b31), .val (.ref b36), .val (.ref b41), .unset, .unset, .unset] [.null, (.int (0 : Int32)), (.ref b51), (.ref b51)])) rfl rfl (hb hby at_212)
      have O52 := own_extw O51 W52 s_b51
      have V_b21_52 := V_b21_51.other W52 (Nat.ne_of_lt lt_b21_b51)
      have V_b26_52 := V_b26_51.other W52 (Nat.ne_of_lt lt_b26_b51)
      have V_b31_52 := V_b31_51.other W52 (Nat.ne_of_lt lt_b31_b51)
      have V_b36_52 := V_b36_51.other W52 (Nat.ne_of_lt lt_b36_b51)
      have V_b41_52 := V_b41_51.other W52 (Nat.ne_of_lt lt_b41_b51)
      have V_b42_52 := V_b42_51.other W52 (Nat.ne_of_lt lt_b42_b51)
      have V_b44_52 := V_b44_51.other W52 (Nat.ne_of_lt lt_b44_b51)
      have V_b46_52 := V_b46_51.other W52 (Nat.ne_of_lt lt_b46_b51)
      have V_b48_52 := V_b48_51.other W52 (Nat.ne_of_lt lt_b48_b51)
      have Ex_b21_52 := Ex_b21_51.wr W52
      have Ex_b26_52 := Ex_b26_51.wr W52
      have Ex_b31_52 := Ex_b31_51.wr W52
      have Ex_b36_52 := Ex_b36_51.wr W52
      have Ex_b42_52 := Ex_b42_51.wr W52
      have Ex_b44_52 := Ex_b44_51.wr W52
      have Ex_b46_52 := Ex_b46_51.wr W52
      have Ex_b48_52 := Ex_b48_51.wr W52
      have Va52 : Arv Z hp52 b51 kk51 (.object "java/lang/Object") (4 : Int32) [.null, .null, .null, .null] .null := Va52
      have N52 := Fr.snoc X52 N50 g_b51
      refine own_st st52 ?_
      show own_Go _ _ _ _ T52 (mkF m 213 #[.val (.int p1), .val (.int p2), .val (.int p3), .val (.int p4), .val (.long q5), .second, .val (.int p6), .val (.int fg), .val (.int fh), .val (.int (1 : Int32)), .val (.int (0 : Int32)), .val (.ref b21), .val (.ref b26), .val (.int (q5.toInt32)), .val (.int (((q5.toUInt64 >>> ((32 : Int32) &&& 0x3f).toInt64.toUInt64).toInt64).toInt32)), .val (.int (p1 ^^^ p4)), .val (.int (p2 ^^^ (-1 : Int32))), .val (.ref b31), .val (.ref b36), .val (.ref b41), .unset, .unset, .unset] [(.ref b51)])
      refine own_st (fun _ k => XS.dup X52.here hx rfl (hb hby at_213) rfl rfl k) ?_
      refine own_st (fun _ k => XS.iconst X52.here hx rfl (hb hby at_214) k) ?_
      refine own_st (fun _ k => XS.aload X52.here hx rfl (hb hby at_215) rfl rfl k) ?_
      refine own_st (fun _ k => XS.iconst X52.here hx rfl (hb hby at_217) k) ?_
      refine own_st (own_ldR X52 hx hZ e52 V_b41_52 rfl (j := (1 : Int32)) (by decide) (v := (.ref b44)) rfl (g := (mkF m 218 #[.val (.int p1), .val (.int p2), .val (.int p3), .val (.int p4), .val (.long q5), .second, .val (.int p6), .val (.int fg), .val (.int fh), .val (.int (1 : Int32)), .val (.int (0 : Int32)), .val (.ref b21), .val (.ref b26), .val (.int (q5.toInt32)), .val (.int (((q5.toUInt64 >>> ((32 : Int32) &&& 0x3f).toInt64.toUInt64).toInt64).toInt32)), .val (.int (p1 ^^^ p4)), .val (.int (p2 ^^^ (-1 : Int32))), .val (.ref b31), .val (.ref b36), .val (.ref b41), .unset, .unset, .unset] [(.int (1 : Int32)), (.ref b41), (.int (1 : Int32)), (.ref b51), (.ref b51)])) rfl rfl (hb hby at_218)) ?_
      obtain ⟨T53, hp53, X53, e53, W53, Va53, st53⟩ := own_stR X52 hx hZ e52 Va52 rfl rfl (by decide) 1 (by decide) (Nat.le_of_ble_eq_true rfl) (fun cl Ar q => Sto.ofV Ar q Ov51 (Ins.of_exa Ex_b44_52 (own_w3 hw))) (g := (mkF m 219 #[.val (.int p1), .val (.int p2), .val (.int p3), .val (.int p4), .val (.long q5), .second, .val (.int p6), .val (.int fg), .val (.int fh), .val (.int (1 : Int32)), .val (.int (0 : Int32)), .val (.ref b21), .val (.ref b26), .val (.int (q5.toInt32)), .val (.int (((q5.toUInt64 >>> ((32 : Int32) &&& 0x3f).toInt64.toUInt64).toInt64).toInt32)), .val (.int (p1 ^^^ p4)), .val (.int (p2 ^^^ (-1 : Int32))), .val (.ref b31), .val (.ref b36), .val (.ref b41), .unset, .unset, .unset] [(.ref b44), (.int (1 : Int32)), (.ref b51), (.ref b51)])) rfl rfl (hb hby at_219)
      have O53 := own_extw O52 W53 s_b51
      have V_b21_53 := V_b21_52.other W53 (Nat.ne_of_lt lt_b21_b51)
      have V_b26_53 := V_b26_52.other W53 (Nat.ne_of_lt lt_b26_b51)
      have V_b31_53 := V_b31_52.other W53 (Nat.ne_of_lt lt_b31_b51)
      have V_b36_53 := V_b36_52.other W53 (Nat.ne_of_lt lt_b36_b51)
      have V_b41_53 := V_b41_52.other W53 (Nat.ne_of_lt lt_b41_b51)
      have V_b42_53 := V_b42_52.other W53 (Nat.ne_of_lt lt_b42_b51)
      have V_b44_53 := V_b44_52.other W53 (Nat.ne_of_lt lt_b44_b51)
      have V_b46_53 := V_b46_52.other W53 (Nat.ne_of_lt lt_b46_b51)
      have V_b48_53 := V_b48_52.other W53 (Nat.ne_of_lt lt_b48_b51)
      have Ex_b21_53 := Ex_b21_52.wr W53
      have Ex_b26_53 := Ex_b26_52.wr W53
      have Ex_b31_53 := Ex_b31_52.wr W53
      have Ex_b36_53 := Ex_b36_52.wr W53
      have Ex_b42_53 := Ex_b42_52.wr W53
      have Ex_b44_53 := Ex_b44_52.wr W53
      have Ex_b46_53 := Ex_b46_52.wr W53
      have Ex_b48_53 := Ex_b48_52.wr W53
      have Va53 : Arv Z hp53 b51 kk51 (.object "java/lang/Object") (4 : Int32) [.null, (.ref b44), .null, .null] .null := Va53
      have N53 := Fr.snoc X53 N52 g_b51
      refine own_st st53 ?_
      show own_Go _ _ _ _ T53 (mkF m 220 #[.val (.int p1), .val (.int p2), .val (.int p3), .val (.int p4), .val (.long q5), .second, .val (.int p6), .val (.int fg), .val (.int fh), .val (.int (1 : Int32)), .val (.int (0 : Int32)), .val (.ref b21), .val (.ref b26), .val (.int (q5.toInt32)), .val (.int (((q5.toUInt64 >>> ((32 : Int32) &&& 0x3f).toInt64.toUInt64).toInt64).toInt32)), .val (.int (p1 ^^^ p4)), .val (.int (p2 ^^^ (-1 : Int32))), .val (.ref b31), .val (.ref b36), .val (.ref b41), .unset, .unset, .unset] [(.ref b51)])
      refine own_st (fun _ k => XS.dup X53.here hx rfl (hb hby at_220) rfl rfl k) ?_
      refine own_st (fun _ k => XS.iconst X53.here hx rfl (hb hby at_221) k) ?_
      refine own_st (fun _ k => XS.aload X53.here hx rfl (hb hby at_222) rfl rfl k) ?_
      refine own_st (fun _ k => XS.iconst X53.here hx rfl (hb hby at_224) k) ?_
      refine own_st (own_ldR X53 hx hZ e53 V_b41_53 rfl (j := (2 : Int32)) (by decide) (v := (.ref b46)) rfl (g := (mkF m 225 #[.val (.int p1), .val (.int p2), .val (.int p3), .val (.int p4), .val (.long q5), .second, .val (.int p6), .val (.int fg), .val (.int fh), .val (.int (1 : Int32)), .val (.int (0 : Int32)), .val (.ref b21), .val (.ref b26), .val (.int (q5.toInt32)), .val (.int (((q5.toUInt64 >>> ((32 : Int32) &&& 0x3f).toInt64.toUInt64).toInt64).toInt32)), .val (.int (p1 ^^^ p4)), .val (.int (p2 ^^^ (-1 : Int32))), .val (.ref b31), .val (.ref b36), .val (.ref b41), .unset, .unset, .unset] [(.int (2 : Int32)), (.ref b41), (.int (2 : Int32)), (.ref b51), (.ref b51)])) rfl rfl (hb hby at_225)) ?_
      obtain ⟨T54, hp54, X54, e54, W54, Va54, st54⟩ := own_stR X53 hx hZ e53 Va53 rfl rfl (by decide) 2 (by decide) (Nat.le_of_ble_eq_true rfl) (fun cl Ar q => Sto.ofV Ar q Ov51 (Ins.of_exa Ex_b46_53 (own_w3 hw))) (g := (mkF m 226 #[.val (.int p1), .val (.int p2), .val (.int p3), .val (.int p4), .val (.long q5), .second, .val (.int p6), .val (.int fg), .val (.int fh), .val (.int (1 : Int32)), .val (.int (0 : Int32)), .val (.ref b21), .val (.ref b26), .val (.int (q5.toInt32)), .val (.int (((q5.toUInt64 >>> ((32 : Int32) &&& 0x3f).toInt64.toUInt64).toInt64).toInt32)), .val (.int (p1 ^^^ p4)), .val (.int (p2 ^^^ (-1 : Int32))), .val (.ref b31), .val (.ref b36), .val (.ref b41), .unset, .unset, .unset] [(.ref b46), (.int (2 : Int32)), (.ref b51), (.ref b51)])) rfl rfl (hb hby at_226)
      have O54 := own_extw O53 W54 s_b51
      have V_b21_54 := V_b21_53.other W54 (Nat.ne_of_lt lt_b21_b51)
      have V_b26_54 := V_b26_53.other W54 (Nat.ne_of_lt lt_b26_b51)
      have V_b31_54 := V_b31_53.other W54 (Nat.ne_of_lt lt_b31_b51)
      have V_b36_54 := V_b36_53.other W54 (Nat.ne_of_lt lt_b36_b51)
      have V_b41_54 := V_b41_53.other W54 (Nat.ne_of_lt lt_b41_b51)
      have V_b42_54 := V_b42_53.other W54 (Nat.ne_of_lt lt_b42_b51)
      have V_b44_54 := V_b44_53.other W54 (Nat.ne_of_lt lt_b44_b51)
      have V_b46_54 := V_b46_53.other W54 (Nat.ne_of_lt lt_b46_b51)
      have V_b48_54 := V_b48_53.other W54 (Nat.ne_of_lt lt_b48_b51)
      have Ex_b21_54 := Ex_b21_53.wr W54
      have Ex_b26_54 := Ex_b26_53.wr W54
      have Ex_b31_54 := Ex_b31_53.wr W54
      have Ex_b36_54 := Ex_b36_53.wr W54
      have Ex_b42_54 := Ex_b42_53.wr W54
      have Ex_b44_54 := Ex_b44_53.wr W54
      have Ex_b46_54 := Ex_b46_53.wr W54
      have Ex_b48_54 := Ex_b48_53.wr W54
      have Va54 : Arv Z hp54 b51 kk51 (.object "java/lang/Object") (4 : Int32) [.null, (.ref b44), (.ref b46), .null] .null := Va54
      have N54 := Fr.snoc X54 N53 g_b51
      refine own_st st54 ?_
      show own_Go _ _ _ _ T54 (mkF m 227 #[.val (.int p1), .val (.int p2), .val (.int p3), .val (.int p4), .val (.long q5), .second, .val (.int p6), .val (.int fg), .val (.int fh), .val (.int (1 : Int32)), .val (.int (0 : Int32)), .val (.ref b21), .val (.ref b26), .val (.int (q5.toInt32)), .val (.int (((q5.toUInt64 >>> ((32 : Int32) &&& 0x3f).toInt64.toUInt64).toInt64).toInt32)), .val (.int (p1 ^^^ p4)), .val (.int (p2 ^^^ (-1 : Int32))), .val (.ref b31), .val (.ref b36), .val (.ref b41), .unset, .unset, .unset] [(.ref b51)])
      refine own_st (fun _ k => XS.dup X54.here hx rfl (hb hby at_227) rfl rfl k) ?_
      refine own_st (fun _ k => XS.iconst X54.here hx rfl (hb hby at_228) k) ?_
      refine own_st (fun _ k => XS.aload X54.here hx rfl (hb hby at_229) rfl rfl k) ?_
      refine own_st (fun _ k => XS.iconst X54.here hx rfl (hb hby at_231) k) ?_
      refine own_st (own_ldR X54 hx hZ e54 V_b41_54 rfl (j := (3 : Int32)) (by decide) (v := (.ref b48)) rfl (g := (mkF m 232 #[.val (.int p1), .val (.int p2), .val (.int p3), .val (.int p4), .val (.long q5), .second, .val (.int p6), .val (.int fg), .val (.int fh), .val (.int (1 : Int32)), .val (.int (0 : Int32)), .val (.ref b21), .val (.ref b26), .val (.int (q5.toInt32)), .val (.int (((q5.toUInt64 >>> ((32 : Int32) &&& 0x3f).toInt64.toUInt64).toInt64).toInt32)), .val (.int (p1 ^^^ p4)), .val (.int (p2 ^^^ (-1 : Int32))), .val (.ref b31), .val (.ref b36), .val (.ref b41), .unset, .unset, .unset] [(.int (3 : Int32)), (.ref b41), (.int (3 : Int32)), (.ref b51), (.ref b51)])) rfl rfl (hb hby at_232)) ?_
      obtain ⟨T55, hp55, X55, e55, W55, Va55, st55⟩ := own_stR X54 hx hZ e54 Va54 rfl rfl (by decide) 3 (by decide) (Nat.le_of_ble_eq_true rfl) (fun cl Ar q => Sto.ofV Ar q Ov51 (Ins.of_exa Ex_b48_54 (own_w3 hw))) (g := (mkF m 233 #[.val (.int p1), .val (.int p2), .val (.int p3), .val (.int p4), .val (.long q5), .second, .val (.int p6), .val (.int fg), .val (.int fh), .val (.int (1 : Int32)), .val (.int (0 : Int32)), .val (.ref b21), .val (.ref b26), .val (.int (q5.toInt32)), .val (.int (((q5.toUInt64 >>> ((32 : Int32) &&& 0x3f).toInt64.toUInt64).toInt64).toInt32)), .val (.int (p1 ^^^ p4)), .val (.int (p2 ^^^ (-1 : Int32))), .val (.ref b31), .val (.ref b36), .val (.ref b41), .unset, .unset, .unset] [(.ref b48), (.int (3 : Int32)), (.ref b51), (.ref b51)])) rfl rfl (hb hby at_233)
      have O55 := own_extw O54 W55 s_b51
      have V_b21_55 := V_b21_54.other W55 (Nat.ne_of_lt lt_b21_b51)
      have V_b26_55 := V_b26_54.other W55 (Nat.ne_of_lt lt_b26_b51)
      have V_b31_55 := V_b31_54.other W55 (Nat.ne_of_lt lt_b31_b51)
      have V_b36_55 := V_b36_54.other W55 (Nat.ne_of_lt lt_b36_b51)
      have V_b41_55 := V_b41_54.other W55 (Nat.ne_of_lt lt_b41_b51)
      have V_b42_55 := V_b42_54.other W55 (Nat.ne_of_lt lt_b42_b51)
      have V_b44_55 := V_b44_54.other W55 (Nat.ne_of_lt lt_b44_b51)
      have V_b46_55 := V_b46_54.other W55 (Nat.ne_of_lt lt_b46_b51)
      have V_b48_55 := V_b48_54.other W55 (Nat.ne_of_lt lt_b48_b51)
      have Ex_b21_55 := Ex_b21_54.wr W55
      have Ex_b26_55 := Ex_b26_54.wr W55
      have Ex_b31_55 := Ex_b31_54.wr W55
      have Ex_b36_55 := Ex_b36_54.wr W55
      have Ex_b42_55 := Ex_b42_54.wr W55
      have Ex_b44_55 := Ex_b44_54.wr W55
      have Ex_b46_55 := Ex_b46_54.wr W55
      have Ex_b48_55 := Ex_b48_54.wr W55
      have Va55 : Arv Z hp55 b51 kk51 (.object "java/lang/Object") (4 : Int32) [.null, (.ref b44), (.ref b46), (.ref b48)] .null := Va55
      have N55 := Fr.snoc X55 N54 g_b51
      refine own_st st55 ?_
      show own_Go _ _ _ _ T55 (mkF m 234 #[.val (.int p1), .val (.int p2), .val (.int p3), .val (.int p4), .val (.long q5), .second, .val (.int p6), .val (.int fg), .val (.int fh), .val (.int (1 : Int32)), .val (.int (0 : Int32)), .val (.ref b21), .val (.ref b26), .val (.int (q5.toInt32)), .val (.int (((q5.toUInt64 >>> ((32 : Int32) &&& 0x3f).toInt64.toUInt64).toInt64).toInt32)), .val (.int (p1 ^^^ p4)), .val (.int (p2 ^^^ (-1 : Int32))), .val (.ref b31), .val (.ref b36), .val (.ref b41), .unset, .unset, .unset] [(.ref b51)])
      refine own_st (fun _ k => XS.astore X55.here hx rfl (hb hby at_234) rfl rfl (l' := #[.val (.int p1), .val (.int p2), .val (.int p3), .val (.int p4), .val (.long q5), .second, .val (.int p6), .val (.int fg), .val (.int fh), .val (.int (1 : Int32)), .val (.int (0 : Int32)), .val (.ref b21), .val (.ref b26), .val (.int (q5.toInt32)), .val (.int (((q5.toUInt64 >>> ((32 : Int32) &&& 0x3f).toInt64.toUInt64).toInt64).toInt32)), .val (.int (p1 ^^^ p4)), .val (.int (p2 ^^^ (-1 : Int32))), .val (.ref b31), .val (.ref b36), .val (.ref b41), .val (.ref b51), .unset, .unset]) rfl k) ?_
      obtain ⟨T56, hp56, X56, e56, Et56, A56, D56, -, st56⟩ := newO X55 hx hZ hown (own_w4 hw) (own_w5 hw) (own_w6 hw) e55 (g := (mkF m 236 #[.val (.int p1), .val (.int p2), .val (.int p3), .val (.int p4), .val (.long q5), .second, .val (.int p6), .val (.int fg), .val (.int fh), .val (.int (1 : Int32)), .val (.int (0 : Int32)), .val (.ref b21), .val (.ref b26), .val (.int (q5.toInt32)), .val (.int (((q5.toUInt64 >>> ((32 : Int32) &&& 0x3f).toInt64.toUInt64).toInt64).toInt32)), .val (.int (p1 ^^^ p4)), .val (.int (p2 ^^^ (-1 : Int32))), .val (.ref b31), .val (.ref b36), .val (.ref b41), .val (.ref b51), .unset, .unset] [])) rfl (hb hby at_236) (by decide) (by decide)
      obtain ⟨b56, g56⟩ : ∃ z, z = hp55.size := ⟨_, rfl⟩
      rw [← g56] at A56 D56 st56
      have s_b56 : h0.size ≤ b56 := Nat.le_trans O55.1 (Nat.le_of_eq g56.symm)
      have g_b56 : n0 ≤ b56 := Nat.le_trans Z0 s_b56
      have lt_b21_b56 : b21 < b56 := Nat.lt_of_lt_of_le V_b21_55.lt (Nat.le_of_eq g56.symm)
      have lt_b26_b56 : b26 < b56 := Nat.lt_of_lt_of_le V_b26_55.lt (Nat.le_of_eq g56.symm)
      have lt_b31_b56 : b31 < b56 := Nat.lt_of_lt_of_le V_b31_55.lt (Nat.le_of_eq g56.symm)
      have lt_b36_b56 : b36 < b56 := Nat.lt_of_lt_of_le V_b36_55.lt (Nat.le_of_eq g56.symm)
      have lt_b41_b56 : b41 < b56 := Nat.lt_of_lt_of_le V_b41_55.lt (Nat.le_of_eq g56.symm)
      have lt_b42_b56 : b42 < b56 := Nat.lt_of_lt_of_le V_b42_55.lt (Nat.le_of_eq g56.symm)
      have lt_b44_b56 : b44 < b56 := Nat.lt_of_lt_of_le V_b44_55.lt (Nat.le_of_eq g56.symm)
      have lt_b46_b56 : b46 < b56 := Nat.lt_of_lt_of_le V_b46_55.lt (Nat.le_of_eq g56.symm)
      have lt_b48_b56 : b48 < b56 := Nat.lt_of_lt_of_le V_b48_55.lt (Nat.le_of_eq g56.symm)
      have lt_b51_b56 : b51 < b56 := Nat.lt_of_lt_of_le Va55.lt (Nat.le_of_eq g56.symm)
      have O56 := own_extt O55 Et56
      have V_b21_56 := V_b21_55.ext Et56
      have V_b26_56 := V_b26_55.ext Et56
      have V_b31_56 := V_b31_55.ext Et56
      have V_b36_56 := V_b36_55.ext Et56
      have V_b41_56 := V_b41_55.ext Et56
      have V_b42_56 := V_b42_55.ext Et56
      have V_b44_56 := V_b44_55.ext Et56
      have V_b46_56 := V_b46_55.ext Et56
      have V_b48_56 := V_b48_55.ext Et56
      have V_b51_56 := Va55.ext Et56
      have Ex_b21_56 := Ex_b21_55.ext Et56
      have Ex_b26_56 := Ex_b26_55.ext Et56
      have Ex_b31_56 := Ex_b31_55.ext Et56
      have Ex_b36_56 := Ex_b36_55.ext Et56
      have Ex_b42_56 := Ex_b42_55.ext Et56
      have Ex_b44_56 := Ex_b44_55.ext Et56
      have Ex_b46_56 := Ex_b46_55.ext Et56
      have Ex_b48_56 := Ex_b48_55.ext Et56
      have F_keys_b56 : Fld Z hp56 b56 "com/example/sheaf/sheaf/CompactHash" "keys" "[Ljava/lang/Object;" .null := D56 (Or.inl (own_w21 hw)) (ty := (.array (.object "java/lang/Object"))) (by decide)
      have F_index_b56 : Fld Z hp56 b56 "com/example/sheaf/sheaf/CompactHash" "index" "[I" .null := D56 (Or.inl (own_w25 hw)) (ty := (.array .int)) (by decide)
      have F_counts_b56 : Fld Z hp56 b56 "com/example/sheaf/sheaf/CountedKeys" "counts" "[I" .null := D56 (Or.inl (own_w29 hw)) (ty := (.array .int)) (by decide)
      have F_heads_b56 : Fld Z hp56 b56 "com/example/sheaf/sheaf/CountedKeys" "heads" "[I" .null := D56 (Or.inl (own_w32 hw)) (ty := (.array .int)) (by decide)
      have F_groups_b56 : Fld Z hp56 b56 "com/example/sheaf/sheaf/CountedKeys" "groups" "[Ljava/lang/Object;" .null := D56 (Or.inl (own_w39 hw)) (ty := (.array (.object "java/lang/Object"))) (by decide)
      refine own_st st56 ?_
      refine own_st (fun _ k => XS.dup X56.here hx rfl (hb hby at_239) rfl rfl k) ?_
      obtain ⟨v57, T57, L57, hQ57, X57, st57⟩ := own_callI X56 hx hZ (y := (⟨"com/example/sheaf/sheaf/CountedKeys", "<init>", "()V"⟩ : MethodName)) rfl hown (own_w7 hw) (own_w8 hw) (own_w6 hw) (own_w9 hw) (by decide) (own_ck l hw [] b56 wo wi hp56 n0 (Nat.le_trans Z0 O56.1) (So.ext O56) (Si.ext O56) g_b56 A56 F_keys_b56 F_index_b56 F_counts_b56 F_groups_b56 F_heads_b56) e56 (g := (mkF m 240 #[.val (.int p1), .val (.int p2), .val (.int p3), .val (.int p4), .val (.long q5), .second, .val (.int p6), .val (.int fg), .val (.int fh), .val (.int (1 : Int32)), .val (.int (0 : Int32)), .val (.ref b21), .val (.ref b26), .val (.int (q5.toInt32)), .val (.int (((q5.toUInt64 >>> ((32 : Int32) &&& 0x3f).toInt64.toUInt64).toInt64).toInt32)), .val (.int (p1 ^^^ p4)), .val (.int (p2 ^^^ (-1 : Int32))), .val (.ref b31), .val (.ref b36), .val (.ref b41), .val (.ref b51), .unset, .unset] [(.ref b56), (.ref b56)])) rfl (by rw [hml]; rfl) (argsL := []) (rest := [(.ref b56)]) (lenOf own_pd0 rfl) rfl rfl (W := 1) (Nat.le_of_eq rfl) (hb hby at_240) (by decide) (by decide) (by decide) (by decide)
      obtain ⟨rfl, N57, K57, Fc57, Fg57, Fh57⟩ := hQ57
      have O57 := own_extk O56 K57 s_b56
      have V_b21_57 := V_b21_56.keep K57 (ninS (Nat.ne_of_lt lt_b21_b56) nin0)
      have V_b26_57 := V_b26_56.keep K57 (ninS (Nat.ne_of_lt lt_b26_b56) nin0)
      have V_b31_57 := V_b31_56.keep K57 (ninS (Nat.ne_of_lt lt_b31_b56) nin0)
      have V_b36_57 := V_b36_56.keep K57 (ninS (Nat.ne_of_lt lt_b36_b56) nin0)
      have V_b41_57 := V_b41_56.keep K57 (ninS (Nat.ne_of_lt lt_b41_b56) nin0)
      have V_b42_57 := V_b42_56.keep K57 (ninS (Nat.ne_of_lt lt_b42_b56) nin0)
      have V_b44_57 := V_b44_56.keep K57 (ninS (Nat.ne_of_lt lt_b44_b56) nin0)
      have V_b46_57 := V_b46_56.keep K57 (ninS (Nat.ne_of_lt lt_b46_b56) nin0)
      have V_b48_57 := V_b48_56.keep K57 (ninS (Nat.ne_of_lt lt_b48_b56) nin0)
      have V_b51_57 := V_b51_56.keep K57 (ninS (Nat.ne_of_lt lt_b51_b56) nin0)
      have Ex_b21_57 := Ex_b21_56.keep K57
      have Ex_b26_57 := Ex_b26_56.keep K57
      have Ex_b31_57 := Ex_b31_56.keep K57
      have Ex_b36_57 := Ex_b36_56.keep K57
      have Ex_b42_57 := Ex_b42_56.keep K57
      have Ex_b44_57 := Ex_b44_56.keep K57
      have Ex_b46_57 := Ex_b46_56.keep K57
      have Ex_b48_57 := Ex_b48_56.keep K57
      have Ex_b56_57 := A56.keep K57
      have N57' := Fr.app N55 N57
      refine own_st st57 ?_
      refine own_st (fun _ k => XS.astore X57.here hx rfl (hb hby at_243) rfl rfl (l' := #[.val (.int p1), .val (.int p2), .val (.int p3), .val (.int p4), .val (.long q5), .second, .val (.int p6), .val (.int fg), .val (.int fh), .val (.int (1 : Int32)), .val (.int (0 : Int32)), .val (.ref b21), .val (.ref b26), .val (.int (q5.toInt32)), .val (.int (((q5.toUInt64 >>> ((32 : Int32) &&& 0x3f).toInt64.toUInt64).toInt64).toInt32)), .val (.int (p1 ^^^ p4)), .val (.int (p2 ^^^ (-1 : Int32))), .val (.ref b31), .val (.ref b36), .val (.ref b41), .val (.ref b51), .val (.ref b56), .unset]) rfl k) ?_
      refine own_st (fun _ k => XS.aload X57.here hx rfl (hb hby at_245) rfl rfl k) ?_
      show own_Go _ _ _ _ T57 (mkF m 247 #[.val (.int p1), .val (.int p2), .val (.int p3), .val (.int p4), .val (.long q5), .second, .val (.int p6), .val (.int fg), .val (.int fh), .val (.int (1 : Int32)), .val (.int (0 : Int32)), .val (.ref b21), .val (.ref b26), .val (.int (q5.toInt32)), .val (.int (((q5.toUInt64 >>> ((32 : Int32) &&& 0x3f).toInt64.toUInt64).toInt64).toInt32)), .val (.int (p1 ^^^ p4)), .val (.int (p2 ^^^ (-1 : Int32))), .val (.ref b31), .val (.ref b36), .val (.ref b41), .val (.ref b51), .val (.ref b56), .unset] [(.ref b56)])
      refine own_st (fun _ k => XS.aload X57.here hx rfl (hb hby at_247) rfl rfl k) ?_
      obtain ⟨T58, hp58, X58, e58, W58, st58⟩ := putF X57 hx hZ hown (host := "") (Or.inl (own_w30 hw)) Via.refl rfl Fc57 Ex_b56_57 (Or.inl (own_w29 hw)) (own_w5 hw) (ty := (.array .int)) (by decide) rfl rfl (g := (mkF m 249 #[.val (.int p1), .val (.int p2), .val (.int p3), .val (.int p4), .val (.long q5), .second, .val (.int p6), .val (.int fg), .val (.int fh), .val (.int (1 : Int32)), .val (.int (0 : Int32)), .val (.ref b21), .val (.ref b26), .val (.int (q5.toInt32)), .val (.int (((q5.toUInt64 >>> ((32 : Int32) &&& 0x3f).toInt64.toUInt64).toInt64).toInt32)), .val (.int (p1 ^^^ p4)), .val (.int (p2 ^^^ (-1 : Int32))), .val (.ref b31), .val (.ref b36), .val (.ref b41), .val (.ref b51), .val (.ref b56), .unset] [(.ref b26), (.ref b56)])) rfl rfl (hb hby at_249)
      have O58 := own_extw O57 W58 s_b56
      have V_b21_58 := V_b21_57.other W58 (Nat.ne_of_lt lt_b21_b56)
      have V_b26_58 := V_b26_57.other W58 (Nat.ne_of_lt lt_b26_b56)
      have V_b31_58 := V_b31_57.other W58 (Nat.ne_of_lt lt_b31_b56)
      have V_b36_58 := V_b36_57.other W58 (Nat.ne_of_lt lt_b36_b56)
      have V_b41_58 := V_b41_57.other W58 (Nat.ne_of_lt lt_b41_b56)
      have V_b42_58 := V_b42_57.other W58 (Nat.ne_of_lt lt_b42_b56)
      have V_b44_58 := V_b44_57.other W58 (Nat.ne_of_lt lt_b44_b56)
      have V_b46_58 := V_b46_57.other W58 (Nat.ne_of_lt lt_b46_b56)
      have V_b48_58 := V_b48_57.other W58 (Nat.ne_of_lt lt_b48_b56)
      have V_b51_58 := V_b51_57.other W58 (Nat.ne_of_lt lt_b51_b56)
      have Ex_b21_58 := Ex_b21_57.wr W58
      have Ex_b26_58 := Ex_b26_57.wr W58
      have Ex_b31_58 := Ex_b31_57.wr W58
      have Ex_b36_58 := Ex_b36_57.wr W58
      have Ex_b42_58 := Ex_b42_57.wr W58
      have Ex_b44_58 := Ex_b44_57.wr W58
      have Ex_b46_58 := Ex_b46_57.wr W58
      have Ex_b48_58 := Ex_b48_57.wr W58
      have Ex_b56_58 := Ex_b56_57.wr W58
      have F_groups_b56_58 := Fg57.other W58 (Or.inr (slot_ne (Or.inl (own_w39 hw)) (Or.inl (own_w29 hw)) (by decide) (t := (.array (.object "java/lang/Object"))) (t' := (.array .int)) (by decide) (by decide)))
      have F_heads_b56_58 := Fh57.other W58 (Or.inr (slot_ne (Or.inl (own_w32 hw)) (Or.inl (own_w29 hw)) (by decide) (t := (.array .int)) (t' := (.array .int)) (by decide) (by decide)))
      have F_counts_b56_58 := Fc57.same W58
      have N58 := Fr.snoc X58 N57' g_b56
      refine own_st st58 ?_
      refine own_st (fun _ k => XS.iload X58.here hx rfl (hb hby at_252) rfl k) ?_
      rcases hfg with rfl | rfl
      · show own_Go _ _ _ _ T58 (mkF m 254 #[.val (.int p1), .val (.int p2), .val (.int p3), .val (.int p4), .val (.long q5), .second, .val (.int p6), .val (.int (0 : Int32)), .val (.int fh), .val (.int (1 : Int32)), .val (.int (0 : Int32)), .val (.ref b21), .val (.ref b26), .val (.int (q5.toInt32)), .val (.int (((q5.toUInt64 >>> ((32 : Int32) &&& 0x3f).toInt64.toUInt64).toInt64).toInt32)), .val (.int (p1 ^^^ p4)), .val (.int (p2 ^^^ (-1 : Int32))), .val (.ref b31), .val (.ref b36), .val (.ref b41), .val (.ref b51), .val (.ref b56), .unset] [(.int (0 : Int32))])
        refine own_st (fun _ k => XS.ifYes X58.here hx rfl (pc0 := 254) (pc' := 264) rfl (hb hby at_254) rfl ((if0 _ _).trans (teq (by decide : (0 : Int32) = (0 : Int32))).1) (by decide) (by decide) k) ?_
        refine own_st (fun _ k => XS.iload X58.here hx rfl (hb hby at_264) rfl k) ?_
        rcases hfh with rfl | rfl
        · show own_Go _ _ _ _ T58 (mkF m 266 #[.val (.int p1), .val (.int p2), .val (.int p3), .val (.int p4), .val (.long q5), .second, .val (.int p6), .val (.int (0 : Int32)), .val (.int (0 : Int32)), .val (.int (1 : Int32)), .val (.int (0 : Int32)), .val (.ref b21), .val (.ref b26), .val (.int (q5.toInt32)), .val (.int (((q5.toUInt64 >>> ((32 : Int32) &&& 0x3f).toInt64.toUInt64).toInt64).toInt32)), .val (.int (p1 ^^^ p4)), .val (.int (p2 ^^^ (-1 : Int32))), .val (.ref b31), .val (.ref b36), .val (.ref b41), .val (.ref b51), .val (.ref b56), .unset] [(.int (0 : Int32))])
          refine own_st (fun _ k => XS.ifYes X58.here hx rfl (pc0 := 266) (pc' := 276) rfl (hb hby at_266) rfl ((if0 _ _).trans (teq (by decide : (0 : Int32) = (0 : Int32))).1) (by decide) (by decide) k) ?_
          refine own_st (fun _ k => XS.aload X58.here hx rfl (hb hby at_276) rfl rfl k) ?_
          refine own_st (fun _ k => XS.iload X58.here hx rfl (hb hby at_278) rfl k) ?_
          refine own_st (fun _ k => XS.iload X58.here hx rfl (hb hby at_280) rfl k) ?_
          obtain ⟨v59, T59, L59, hQ59, X59, st59⟩ := own_callV X58 hx hZ (y := (⟨"com/example/sheaf/sheaf/CountedKeys", "move", "(II)V"⟩ : MethodName)) hown (own_w33 hw) (own_w34 hw) (own_w36 hw) (own_w35 hw) (own_w6 hw) (own_w37 hw) (by decide) (own_mv00 l hw [] b56 b26 b51 b36 (1 : Int32) (0 : Int32) p2 (((q5.toUInt64 >>> ((32 : Int32) &&& 0x3f).toInt64.toUInt64).toInt64).toInt32) (.ref b44) kk26 kk51 kk36 [(.int p1), (.int p2), (.int p3), (.int p4)] [.null, (.ref b44), (.ref b46), (.ref b48)] [(.int (q5.toInt32)), (.int (((q5.toUInt64 >>> ((32 : Int32) &&& 0x3f).toInt64.toUInt64).toInt64).toInt32)), (.int (p1 ^^^ p4)), (.int (p2 ^^^ (-1 : Int32)))] hp58 n0 (Nat.le_trans Z0 O58.1) (by decide) (by decide) (Nat.le_of_ble_eq_true rfl) g_b26 V_b26_58 rfl (Nat.ne_of_gt lt_b26_b56) F_counts_b56_58 F_groups_b56_58 F_heads_b56_58) e58 Ex_b56_58 (g := (mkF m 282 #[.val (.int p1), .val (.int p2), .val (.int p3), .val (.int p4), .val (.long q5), .second, .val (.int p6), .val (.int (0 : Int32)), .val (.int (0 : Int32)), .val (.int (1 : Int32)), .val (.int (0 : Int32)), .val (.ref b21), .val (.ref b26), .val (.int (q5.toInt32)), .val (.int (((q5.toUInt64 >>> ((32 : Int32) &&& 0x3f).toInt64.toUInt64).toInt64).toInt32)), .val (.int (p1 ^^^ p4)), .val (.int (p2 ^^^ (-1 : Int32))), .val (.ref b31), .val (.ref b36), .val (.ref b41), .val (.ref b51), .val (.ref b56), .unset] [(.int (0 : Int32)), (.int (1 : Int32)), (.ref b56)])) rfl (by rw [hml]; rfl) (argsL := [(.int (1 : Int32)), (.int (0 : Int32))]) (rest := []) (lenOf own_pd5 rfl) rfl rfl (W := 0) (Nat.le_of_eq rfl) (hb hby at_282) (by decide) (by decide) (by decide) (by decide)
          obtain ⟨rfl, N59, K59, Vc59⟩ := hQ59
          have Vc59 : Arv Z T59.heap b26 kk26 .int 4 [(.int p2), (.int p2), (.int p3), (.int p4)] (.int (0 : Int32)) := Vc59
          have O59 : Ext h0 T59.heap := ⟨Nat.le_trans O58.1 K59.1, fun x c r => K59.2.1 x c (O58.2 x c r) (fun z => by
            have q := (Array.getElem?_eq_some_iff.mp r).1
            simp only [List.mem_cons, List.not_mem_nil, or_false] at z
            rcases z with rfl
            exact absurd q (Nat.not_lt.mpr s_b26))⟩
          have V_b21_59 := V_b21_58.keep K59 (ninS (Nat.ne_of_lt lt_b21_b26) nin0)
          have V_b31_59 := V_b31_58.keep K59 (ninS (Nat.ne_of_gt lt_b26_b31) nin0)
          have V_b36_59 := V_b36_58.keep K59 (ninS (Nat.ne_of_gt lt_b26_b36) nin0)
          have V_b41_59 := V_b41_58.keep K59 (ninS (Nat.ne_of_gt lt_b26_b41) nin0)
          have V_b42_59 := V_b42_58.keep K59 (ninS (Nat.ne_of_gt lt_b26_b42) nin0)
          have V_b44_59 := V_b44_58.keep K59 (ninS (Nat.ne_of_gt lt_b26_b44) nin0)
          have V_b46_59 := V_b46_58.keep K59 (ninS (Nat.ne_of_gt lt_b26_b46) nin0)
          have V_b48_59 := V_b48_58.keep K59 (ninS (Nat.ne_of_gt lt_b26_b48) nin0)
          have V_b51_59 := V_b51_58.keep K59 (ninS (Nat.ne_of_gt lt_b26_b51) nin0)
          have Ex_b21_59 := Ex_b21_58.keep K59
          have Ex_b26_59 := Ex_b26_58.keep K59
          have Ex_b31_59 := Ex_b31_58.keep K59
          have Ex_b36_59 := Ex_b36_58.keep K59
          have Ex_b42_59 := Ex_b42_58.keep K59
          have Ex_b44_59 := Ex_b44_58.keep K59
          have Ex_b46_59 := Ex_b46_58.keep K59
          have Ex_b48_59 := Ex_b48_58.keep K59
          have Ex_b56_59 := Ex_b56_58.keep K59
          have F_counts_b56_59 := F_counts_b56_58.keep K59 (ninS (Nat.ne_of_gt lt_b26_b56) nin0)
          have F_groups_b56_59 := F_groups_b56_58.keep K59 (ninS (Nat.ne_of_gt lt_b26_b56) nin0)
          have F_heads_b56_59 := F_heads_b56_58.keep K59 (ninS (Nat.ne_of_gt lt_b26_b56) nin0)
          have N59' := Fr.app N58 N59
          refine own_st st59 ?_
          show own_Go _ _ _ _ T59 (mkF m 285 #[.val (.int p1), .val (.int p2), .val (.int p3), .val (.int p4), .val (.long q5), .second, .val (.int p6), .val (.int (0 : Int32)), .val (.int (0 : Int32)), .val (.int (1 : Int32)), .val (.int (0 : Int32)), .val (.ref b21), .val (.ref b26), .val (.int (q5.toInt32)), .val (.int (((q5.toUInt64 >>> ((32 : Int32) &&& 0x3f).toInt64.toUInt64).toInt64).toInt32)), .val (.int (p1 ^^^ p4)), .val (.int (p2 ^^^ (-1 : Int32))), .val (.ref b31), .val (.ref b36), .val (.ref b41), .val (.ref b51), .val (.ref b56), .unset] [])
          exact tl00 _ _ _ X59 N59' rfl O59 _ _ _ _ _ _ _ _ _ _ _ _ _ F_counts_b56_59 F_groups_b56_59 F_heads_b56_59 (own_im10 l hw [] b26 b21 (1 : Int32) (0 : Int32) kk26 kk21 p1 p2 p3 p4 T59.heap n0 (Nat.le_trans Z0 O59.1) rfl rfl Vc59 V_b21_59)
        · show own_Go _ _ _ _ T58 (mkF m 266 #[.val (.int p1), .val (.int p2), .val (.int p3), .val (.int p4), .val (.long q5), .second, .val (.int p6), .val (.int (0 : Int32)), .val (.int (1 : Int32)), .val (.int (1 : Int32)), .val (.int (0 : Int32)), .val (.ref b21), .val (.ref b26), .val (.int (q5.toInt32)), .val (.int (((q5.toUInt64 >>> ((32 : Int32) &&& 0x3f).toInt64.toUInt64).toInt64).toInt32)), .val (.int (p1 ^^^ p4)), .val (.int (p2 ^^^ (-1 : Int32))), .val (.ref b31), .val (.ref b36), .val (.ref b41), .val (.ref b51), .val (.ref b56), .unset] [(.int (1 : Int32))])
          refine own_st (fun _ k => XS.ifNo X58.here hx rfl (hb hby at_266) rfl ((if0 _ _).trans (feq (by decide : ¬ ((1 : Int32) = (0 : Int32)))).1) k) ?_
          refine own_st (fun _ k => XS.aload X58.here hx rfl (hb hby at_269) rfl rfl k) ?_
          refine own_st (fun _ k => XS.aload X58.here hx rfl (hb hby at_271) rfl rfl k) ?_
          obtain ⟨T60, hp60, X60, e60, W60, st60⟩ := putF X58 hx hZ hown (host := "") (Or.inl (own_w31 hw)) Via.refl e58 F_heads_b56_58 Ex_b56_58 (Or.inl (own_w32 hw)) (own_w5 hw) (ty := (.array .int)) (by decide) rfl rfl (g := (mkF m 273 #[.val (.int p1), .val (.int p2), .val (.int p3), .val (.int p4), .val (.long q5), .second, .val (.int p6), .val (.int (0 : Int32)), .val (.int (1 : Int32)), .val (.int (1 : Int32)), .val (.int (0 : Int32)), .val (.ref b21), .val (.ref b26), .val (.int (q5.toInt32)), .val (.int (((q5.toUInt64 >>> ((32 : Int32) &&& 0x3f).toInt64.toUInt64).toInt64).toInt32)), .val (.int (p1 ^^^ p4)), .val (.int (p2 ^^^ (-1 : Int32))), .val (.ref b31), .val (.ref b36), .val (.ref b41), .val (.ref b51), .val (.ref b56), .unset] [(.ref b36), (.ref b56)])) rfl rfl (hb hby at_273)
          have O60 := own_extw O58 W60 s_b56
          have V_b21_60 := V_b21_58.other W60 (Nat.ne_of_lt lt_b21_b56)
          have V_b26_60 := V_b26_58.other W60 (Nat.ne_of_lt lt_b26_b56)
          have V_b31_60 := V_b31_58.other W60 (Nat.ne_of_lt lt_b31_b56)
          have V_b36_60 := V_b36_58.other W60 (Nat.ne_of_lt lt_b36_b56)
          have V_b41_60 := V_b41_58.other W60 (Nat.ne_of_lt lt_b41_b56)
          have V_b42_60 := V_b42_58.other W60 (Nat.ne_of_lt lt_b42_b56)
          have V_b44_60 := V_b44_58.other W60 (Nat.ne_of_lt lt_b44_b56)
          have V_b46_60 := V_b46_58.other W60 (Nat.ne_of_lt lt_b46_b56)
          have V_b48_60 := V_b48_58.other W60 (Nat.ne_of_lt lt_b48_b56)
          have V_b51_60 := V_b51_58.other W60 (Nat.ne_of_lt lt_b51_b56)
          have Ex_b21_60 := Ex_b21_58.wr W60
          have Ex_b26_60 := Ex_b26_58.wr W60
          have Ex_b31_60 := Ex_b31_58.wr W60
          have Ex_b36_60 := Ex_b36_58.wr W60
          have Ex_b42_60 := Ex_b42_58.wr W60
          have Ex_b44_60 := Ex_b44_58.wr W60
          have Ex_b46_60 := Ex_b46_58.wr W60
          have Ex_b48_60 := Ex_b48_58.wr W60
          have Ex_b56_60 := Ex_b56_58.wr W60
          have F_counts_b56_60 := F_counts_b56_58.other W60 (Or.inr (slot_ne (Or.inl (own_w29 hw)) (Or.inl (own_w32 hw)) (by decide) (t := (.array .int)) (t' := (.array .int)) (by decide) (by decide)))
          have F_groups_b56_60 := F_groups_b56_58.other W60 (Or.inr (slot_ne (Or.inl (own_w39 hw)) (Or.inl (own_w32 hw)) (by decide) (t := (.array (.object "java/lang/Object"))) (t' := (.array .int)) (by decide) (by decide)))
          have F_heads_b56_60 := F_heads_b56_58.same W60
          have N60 := Fr.snoc X60 N58 g_b56
          refine own_st st60 ?_
          refine own_st (fun _ k => XS.aload X60.here hx rfl (hb hby at_276) rfl rfl k) ?_
          refine own_st (fun _ k => XS.iload X60.here hx rfl (hb hby at_278) rfl k) ?_
          show own_Go _ _ _ _ T60 (mkF m 280 #[.val (.int p1), .val (.int p2), .val (.int p3), .val (.int p4), .val (.long q5), .second, .val (.int p6), .val (.int (0 : Int32)), .val (.int (1 : Int32)), .val (.int (1 : Int32)), .val (.int (0 : Int32)), .val (.ref b21), .val (.ref b26), .val (.int (q5.toInt32)), .val (.int (((q5.toUInt64 >>> ((32 : Int32) &&& 0x3f).toInt64.toUInt64).toInt64).toInt32)), .val (.int (p1 ^^^ p4)), .val (.int (p2 ^^^ (-1 : Int32))), .val (.ref b31), .val (.ref b36), .val (.ref b41), .val (.ref b51), .val (.ref b56), .unset] [(.int (1 : Int32)), (.ref b56)])
          refine own_st (fun _ k => XS.iload X60.here hx rfl (hb hby at_280) rfl k) ?_
          obtain ⟨v61, T61, L61, hQ61, X61, st61⟩ := own_callV X60 hx hZ (y := (⟨"com/example/sheaf/sheaf/CountedKeys", "move", "(II)V"⟩ : MethodName)) hown (own_w33 hw) (own_w34 hw) (own_w36 hw) (own_w35 hw) (own_w6 hw) (own_w37 hw) (by decide) (own_mv01 l hw [] b56 b26 b51 b36 (1 : Int32) (0 : Int32) p2 (((q5.toUInt64 >>> ((32 : Int32) &&& 0x3f).toInt64.toUInt64).toInt64).toInt32) (.ref b44) kk26 kk51 kk36 [(.int p1), (.int p2), (.int p3), (.int p4)] [.null, (.ref b44), (.ref b46), (.ref b48)] [(.int (q5.toInt32)), (.int (((q5.toUInt64 >>> ((32 : Int32) &&& 0x3f).toInt64.toUInt64).toInt64).toInt32)), (.int (p1 ^^^ p4)), (.int (p2 ^^^ (-1 : Int32)))] hp60 n0 (Nat.le_trans Z0 O60.1) (by decide) (by decide) (Nat.le_of_ble_eq_true rfl) g_b26 V_b26_60 rfl (Nat.ne_of_gt lt_b26_b56) F_counts_b56_60 F_groups_b56_60 F_heads_b56_60 (Nat.le_of_ble_eq_true rfl) g_b36 V_b36_60 rfl (Nat.ne_of_gt lt_b36_b56) (Nat.ne_of_lt lt_b26_b36)) e60 Ex_b56_60 (g := (mkF m 282 #[.val (.int p1), .val (.int p2), .val (.int p3), .val (.int p4), .val (.long q5), .second, .val (.int p6), .val (.int (0 : Int32)), .val (.int (1 : Int32)), .val (.int (1 : Int32)), .val (.int (0 : Int32)), .val (.ref b21), .val (.ref b26), .val (.int (q5.toInt32)), .val (.int (((q5.toUInt64 >>> ((32 : Int32) &&& 0x3f).toInt64.toUInt64).toInt64).toInt32)), .val (.int (p1 ^^^ p4)), .val (.int (p2 ^^^ (-1 : Int32))), .val (.ref b31), .val (.ref b36), .val (.ref b41), .val (.ref b51), .val (.ref b56), .unset] [(.int (0 : Int32)), (.int (1 : Int32)), (.ref b56)])) rfl (by rw [hml]; rfl) (argsL := [(.int (1 : Int32)), (.int (0 : Int32))]) (rest := []) (lenOf own_pd5 rfl) rfl rfl (W := 0) (Nat.le_of_eq rfl) (hb hby at_282) (by decide) (by decide) (by decide) (by decide)
          obtain ⟨rfl, N61, K61, Vc61, Vh61⟩ := hQ61
          have Vc61 : Arv Z T61.heap b26 kk26 .int 4 [(.int p2), (.int p2), (.int p3), (.int p4)] (.int (0 : Int32)) := Vc61
          have Vh61 : Arv Z T61.heap b36 kk36 .int 4 [(.int (((q5.toUInt64 >>> ((32 : Int32) &&& 0x3f).toInt64.toUInt64).toInt64).toInt32)), (.int (((q5.toUInt64 >>> ((32 : Int32) &&& 0x3f).toInt64.toUInt64).toInt64).toInt32)), (.int (p1 ^^^ p4)), (.int (p2 ^^^ (-1 : Int32)))] (.int (0 : Int32)) := Vh61
          have O61 : Ext h0 T61.heap := ⟨Nat.le_trans O60.1 K61.1, fun x c r => K61.2.1 x c (O60.2 x c r) (fun z => by
            have q := (Array.getElem?_eq_some_iff.mp r).1
            simp only [List.mem_cons, List.not_mem_nil, or_false] at z
            rcases z with rfl | rfl
            · exact absurd q (Nat.not_lt.mpr s_b26)
            · exact absurd q (Nat.not_lt.mpr s_b36))⟩
          have V_b21_61 := V_b21_60.keep K61 (ninS (Nat.ne_of_lt lt_b21_b26) (ninS (Nat.ne_of_lt lt_b21_b36) nin0))
          have V_b31_61 := V_b31_60.keep K61 (ninS (Nat.ne_of_gt lt_b26_b31) (ninS (Nat.ne_of_lt lt_b31_b36) nin0))
          have V_b41_61 := V_b41_60.keep K61 (ninS (Nat.ne_of_gt lt_b26_b41) (ninS (Nat.ne_of_gt lt_b36_b41) nin0))
          have V_b42_61 := V_b42_60.keep K61 (ninS (Nat.ne_of_gt lt_b26_b42) (ninS (Nat.ne_of_gt lt_b36_b42) nin0))
          have V_b44_61 := V_b44_60.keep K61 (ninS (Nat.ne_of_gt lt_b26_b44) (ninS (Nat.ne_of_gt lt_b36_b44) nin0))
          have V_b46_61 := V_b46_60.keep K61 (ninS (Nat.ne_of_gt lt_b26_b46) (ninS (Nat.ne_of_gt lt_b36_b46) nin0))
          have V_b48_61 := V_b48_60.keep K61 (ninS (Nat.ne_of_gt lt_b26_b48) (ninS (Nat.ne_of_gt lt_b36_b48) nin0))
          have V_b51_61 := V_b51_60.keep K61 (ninS (Nat.ne_of_gt lt_b26_b51) (ninS (Nat.ne_of_gt lt_b36_b51) nin0))
          have Ex_b21_61 := Ex_b21_60.keep K61
          have Ex_b26_61 := Ex_b26_60.keep K61
          have Ex_b31_61 := Ex_b31_60.keep K61
          have Ex_b36_61 := Ex_b36_60.keep K61
          have Ex_b42_61 := Ex_b42_60.keep K61
          have Ex_b44_61 := Ex_b44_60.keep K61
          have Ex_b46_61 := Ex_b46_60.keep K61
          have Ex_b48_61 := Ex_b48_60.keep K61
          have Ex_b56_61 := Ex_b56_60.keep K61
          have F_counts_b56_61 := F_counts_b56_60.keep K61 (ninS (Nat.ne_of_gt lt_b26_b56) (ninS (Nat.ne_of_gt lt_b36_b56) nin0))
          have F_groups_b56_61 := F_groups_b56_60.keep K61 (ninS (Nat.ne_of_gt lt_b26_b56) (ninS (Nat.ne_of_gt lt_b36_b56) nin0))
          have F_heads_b56_61 := F_heads_b56_60.keep K61 (ninS (Nat.ne_of_gt lt_b26_b56) (ninS (Nat.ne_of_gt lt_b36_b56) nin0))
          have N61' := Fr.app N60 N61
          refine own_st st61 ?_
          show own_Go _ _ _ _ T61 (mkF m 285 #[.val (.int p1), .val (.int p2), .val (.int p3), .val (.int p4), .val (.long q5), .second, .val (.int p6), .val (.int (0 : Int32)), .val (.int (1 : Int32)), .val (.int (1 : Int32)), .val (.int (0 : Int32)), .val (.ref b21), .val (.ref b26), .val (.int (q5.toInt32)), .val (.int (((q5.toUInt64 >>> ((32 : Int32) &&& 0x3f).toInt64.toUInt64).toInt64).toInt32)), .val (.int (p1 ^^^ p4)), .val (.int (p2 ^^^ (-1 : Int32))), .val (.ref b31), .val (.ref b36), .val (.ref b41), .val (.ref b51), .val (.ref b56), .unset] [])
          exact tl01 _ _ _ X61 N61' rfl O61 _ _ _ _ _ _ _ _ _ _ _ _ _ F_counts_b56_61 F_groups_b56_61 F_heads_b56_61 (own_im10 l hw [] b26 b21 (1 : Int32) (0 : Int32) kk26 kk21 p1 p2 p3 p4 T61.heap n0 (Nat.le_trans Z0 O61.1) rfl rfl Vc61 V_b21_61) (own_im10 l hw [] b36 b31 (1 : Int32) (0 : Int32) kk36 kk31 (q5.toInt32) (((q5.toUInt64 >>> ((32 : Int32) &&& 0x3f).toInt64.toUInt64).toInt64).toInt32) (p1 ^^^ p4) (p2 ^^^ (-1 : Int32)) T61.heap n0 (Nat.le_trans Z0 O61.1) rfl rfl Vh61 V_b31_61)
      · show own_Go _ _ _ _ T58 (mkF m 254 #[.val (.int p1), .val (.int p2), .val (.int p3), .val (.int p4), .val (.long q5), .second, .val (.int p6), .val (.int (1 : Int32)), .val (.int fh), .val (.int (1 : Int32)), .val (.int (0 : Int32)), .val (.ref b21), .val (.ref b26), .val (.int (q5.toInt32)), .val (.int (((q5.toUInt64 >>> ((32 : Int32) &&& 0x3f).toInt64.toUInt64).toInt64).toInt32)), .val (.int (p1 ^^^ p4)), .val (.int (p2 ^^^ (-1 : Int32))), .val (.ref b31), .val (.ref b36), .val (.ref b41), .val (.ref b51), .val (.ref b56), .unset] [(.int (1 : Int32))])
        refine own_st (fun _ k => XS.ifNo X58.here hx rfl (hb hby at_254) rfl ((if0 _ _).trans (feq (by decide : ¬ ((1 : Int32) = (0 : Int32)))).1) k) ?_
        refine own_st (fun _ k => XS.aload X58.here hx rfl (hb hby at_257) rfl rfl k) ?_
        refine own_st (fun _ k => XS.aload X58.here hx rfl (hb hby at_259) rfl rfl k) ?_
        obtain ⟨T62, hp62, X62, e62, W62, st62⟩ := putF X58 hx hZ hown (host := "") (Or.inl (own_w48 hw)) Via.refl e58 F_groups_b56_58 Ex_b56_58 (Or.inl (own_w39 hw)) (own_w5 hw) (ty := (.array (.object "java/lang/Object"))) (by decide) rfl rfl (g := (mkF m 261 #[.val (.int p1), .val (.int p2), .val (.int p3), .val (.int p4), .val (.long q5), .second, .val (.int p6), .val (.int (1 : Int32)), .val (.int fh), .val (.int (1 : Int32)), .val (.int (0 : Int32)), .val (.ref b21), .val (.ref b26), .val (.int (q5.toInt32)), .val (.int (((q5.toUInt64 >>> ((32 : Int32) &&& 0x3f).toInt64.toUInt64).toInt64).toInt32)), .val (.int (p1 ^^^ p4)), .val (.int (p2 ^^^ (-1 : Int32))), .val (.ref b31), .val (.ref b36), .val (.ref b41), .val (.ref b51), .val (.ref b56), .unset] [(.ref b51), (.ref b56)])) rfl rfl (hb hby at_261)
        have O62 := own_extw O58 W62 s_b56
        have V_b21_62 := V_b21_58.other W62 (Nat.ne_of_lt lt_b21_b56)
        have V_b26_62 := V_b26_58.other W62 (Nat.ne_of_lt lt_b26_b56)
        have V_b31_62 := V_b31_58.other W62 (Nat.ne_of_lt lt_b31_b56)
        have V_b36_62 := V_b36_58.other W62 (Nat.ne_of_lt lt_b36_b56)
        have V_b41_62 := V_b41_58.other W62 (Nat.ne_of_lt lt_b41_b56)
        have V_b42_62 := V_b42_58.other W62 (Nat.ne_of_lt lt_b42_b56)
        have V_b44_62 := V_b44_58.other W62 (Nat.ne_of_lt lt_b44_b56)
        have V_b46_62 := V_b46_58.other W62 (Nat.ne_of_lt lt_b46_b56)
        have V_b48_62 := V_b48_58.other W62 (Nat.ne_of_lt lt_b48_b56)
        have V_b51_62 := V_b51_58.other W62 (Nat.ne_of_lt lt_b51_b56)
        have Ex_b21_62 := Ex_b21_58.wr W62
        have Ex_b26_62 := Ex_b26_58.wr W62
        have Ex_b31_62 := Ex_b31_58.wr W62
        have Ex_b36_62 := Ex_b36_58.wr W62
        have Ex_b42_62 := Ex_b42_58.wr W62
        have Ex_b44_62 := Ex_b44_58.wr W62
        have Ex_b46_62 := Ex_b46_58.wr W62
        have Ex_b48_62 := Ex_b48_58.wr W62
        have Ex_b56_62 := Ex_b56_58.wr W62
        have F_counts_b56_62 := F_counts_b56_58.other W62 (Or.inr (slot_ne (Or.inl (own_w29 hw)) (Or.inl (own_w39 hw)) (by decide) (t := (.array .int)) (t' := (.array (.object "java/lang/Object"))) (by decide) (by decide)))
        have F_heads_b56_62 := F_heads_b56_58.other W62 (Or.inr (slot_ne (Or.inl (own_w32 hw)) (Or.inl (own_w39 hw)) (by decide) (t := (.array .int)) (t' := (.array (.object "java/lang/Object"))) (by decide) (by decide)))
        have F_groups_b56_62 := F_groups_b56_58.same W62
        have N62 := Fr.snoc X62 N58 g_b56
        refine own_st st62 ?_
        refine own_st (fun _ k => XS.iload X62.here hx rfl (hb hby at_264) rfl k) ?_
        rcases hfh with rfl | rfl
        · show own_Go _ _ _ _ T62 (mkF m 266 #[.val (.int p1), .val (.int p2), .val (.int p3), .val (.int p4), .val (.long q5), .second, .val (.int p6), .val (.int (1 : Int32)), .val (.int (0 : Int32)), .val (.int (1 : Int32)), .val (.int (0 : Int32)), .val (.ref b21), .val (.ref b26), .val (.int (q5.toInt32)), .val (.int (((q5.toUInt64 >>> ((32 : Int32) &&& 0x3f).toInt64.toUInt64).toInt64).toInt32)), .val (.int (p1 ^^^ p4)), .val (.int (p2 ^^^ (-1 : Int32))), .val (.ref b31), .val (.ref b36), .val (.ref b41), .val (.ref b51), .val (.ref b56), .unset] [(.int (0 : Int32))])
          refine own_st (fun _ k => XS.ifYes X62.here hx rfl (pc0 := 266) (pc' := 276) rfl (hb hby at_266) rfl ((if0 _ _).trans (teq (by decide : (0 : Int32) = (0 : Int32))).1) (by decide) (by decide) k) ?_
          refine own_st (fun _ k => XS.aload X62.here hx rfl (hb hby at_276) rfl rfl k) ?_
          refine own_st (fun _ k => XS.iload X62.here hx rfl (hb hby at_278) rfl k) ?_
          refine own_st (fun _ k => XS.iload X62.here hx rfl (hb hby at_280) rfl k) ?_
          obtain ⟨v63, T63, L63, hQ63, X63, st63⟩ := own_callV X62 hx hZ (y := (⟨"com/example/sheaf/sheaf/CountedKeys", "move", "(II)V"⟩ : MethodName)) hown (own_w33 hw) (own_w34 hw) (own_w36 hw) (own_w35 hw) (own_w6 hw) (own_w37 hw) (by decide) (own_mv10 l hw [] b56 b26 b51 b36 (1 : Int32) (0 : Int32) p2 (((q5.toUInt64 >>> ((32 : Int32) &&& 0x3f).toInt64.toUInt64).toInt64).toInt32) (.ref b44) kk26 kk51 kk36 [(.int p1), (.int p2), (.int p3), (.int p4)] [.null, (.ref b44), (.ref b46), (.ref b48)] [(.int (q5.toInt32)), (.int (((q5.toUInt64 >>> ((32 : Int32) &&& 0x3f).toInt64.toUInt64).toInt64).toInt32)), (.int (p1 ^^^ p4)), (.int (p2 ^^^ (-1 : Int32)))] hp62 n0 (Nat.le_trans Z0 O62.1) (by decide) (by decide) (Nat.le_of_ble_eq_true rfl) g_b26 V_b26_62 rfl (Nat.ne_of_gt lt_b26_b56) F_counts_b56_62 F_groups_b56_62 F_heads_b56_62 (Nat.le_of_ble_eq_true rfl) (Nat.le_of_ble_eq_true rfl) g_b51 V_b51_62 rfl rfl (by obtain ⟨cl', A', q', _⟩ := V_b51_62; exact Sto.ofV A' q' Ov51 (Ins.of_exa Ex_b44_62 (own_w3 hw))) (Nat.ne_of_gt lt_b51_b56) (Nat.ne_of_lt lt_b26_b51)) e62 Ex_b56_62 (g := (mkF m 282 #[.val (.int p1), .val (.int p2), .val (.int p3), .val (.int p4), .val (.long q5), .second, .val (.int p6), .val (.int (1 : Int32)), .val (.int (0 : Int32)), .val (.int (1 : Int32)), .val (.int (0 : Int32)), .val (.ref b21), .val (.ref b26), .val (.int (q5.toInt32)), .val (.int (((q5.toUInt64 >>> ((32 : Int32) &&& 0x3f).toInt64.toUInt64).toInt64).toInt32)), .val (.int (p1 ^^^ p4)), .val (.int (p2 ^^^ (-1 : Int32))), .val (.ref b31), .val (.ref b36), .val (.ref b41), .val (.ref b51), .val (.ref b56), .unset] [(.int (0 : Int32)), (.int (1 : Int32)), (.ref b56)])) rfl (by rw [hml]; rfl) (argsL := [(.int (1 : Int32)), (.int (0 : Int32))]) (rest := []) (lenOf own_pd5 rfl) rfl rfl (W := 0) (Nat.le_of_eq rfl) (hb hby at_282) (by decide) (by decide) (by decide) (by decide)
          obtain ⟨rfl, N63, K63, Vc63, Vg63⟩ := hQ63
          have Vc63 : Arv Z T63.heap b26 kk26 .int 4 [(.int p2), (.int p2), (.int p3), (.int p4)] (.int (0 : Int32)) := Vc63
          have Vg63 : Arv Z T63.heap b51 kk51 (.object "java/lang/Object") 4 [(.ref b44), .null, (.ref b46), (.ref b48)] .null := Vg63
          have O63 : Ext h0 T63.heap := ⟨Nat.le_trans O62.1 K63.1, fun x c r => K63.2.1 x c (O62.2 x c r) (fun z => by
            have q := (Array.getElem?_eq_some_iff.mp r).1
            simp only [List.mem_cons, List.not_mem_nil, or_false] at z
            rcases z with rfl | rfl
            · exact absurd q (Nat.not_lt.mpr s_b26)
            · exact absurd q (Nat.not_lt.mpr s_b51))⟩
          have V_b21_63 := V_b21_62.keep K63 (ninS (Nat.ne_of_lt lt_b21_b26) (ninS (Nat.ne_of_lt lt_b21_b51) nin0))
          have V_b31_63 := V_b31_62.keep K63 (ninS (Nat.ne_of_gt lt_b26_b31) (ninS (Nat.ne_of_lt lt_b31_b51) nin0))
          have V_b36_63 := V_b36_62.keep K63 (ninS (Nat.ne_of_gt lt_b26_b36) (ninS (Nat.ne_of_lt lt_b36_b51) nin0))
          have V_b41_63 := V_b41_62.keep K63 (ninS (Nat.ne_of_gt lt_b26_b41) (ninS (Nat.ne_of_lt lt_b41_b51) nin0))
          have V_b42_63 := V_b42_62.keep K63 (ninS (Nat.ne_of_gt lt_b26_b42) (ninS (Nat.ne_of_lt lt_b42_b51) nin0))
          have V_b44_63 := V_b44_62.keep K63 (ninS (Nat.ne_of_gt lt_b26_b44) (ninS (Nat.ne_of_lt lt_b44_b51) nin0))
          have V_b46_63 := V_b46_62.keep K63 (ninS (Nat.ne_of_gt lt_b26_b46) (ninS (Nat.ne_of_lt lt_b46_b51) nin0))
          have V_b48_63 := V_b48_62.keep K63 (ninS (Nat.ne_of_gt lt_b26_b48) (ninS (Nat.ne_of_lt lt_b48_b51) nin0))
          have Ex_b21_63 := Ex_b21_62.keep K63
          have Ex_b26_63 := Ex_b26_62.keep K63
          have Ex_b31_63 := Ex_b31_62.keep K63
          have Ex_b36_63 := Ex_b36_62.keep K63
          have Ex_b42_63 := Ex_b42_62.keep K63
          have Ex_b44_63 := Ex_b44_62.keep K63
          have Ex_b46_63 := Ex_b46_62.keep K63
          have Ex_b48_63 := Ex_b48_62.keep K63
          have Ex_b56_63 := Ex_b56_62.keep K63
          have F_counts_b56_63 := F_counts_b56_62.keep K63 (ninS (Nat.ne_of_gt lt_b26_b56) (ninS (Nat.ne_of_gt lt_b51_b56) nin0))
          have F_groups_b56_63 := F_groups_b56_62.keep K63 (ninS (Nat.ne_of_gt lt_b26_b56) (ninS (Nat.ne_of_gt lt_b51_b56) nin0))
          have F_heads_b56_63 := F_heads_b56_62.keep K63 (ninS (Nat.ne_of_gt lt_b26_b56) (ninS (Nat.ne_of_gt lt_b51_b56) nin0))
          have N63' := Fr.app N62 N63
          refine own_st st63 ?_
          show own_Go _ _ _ _ T63 (mkF m 285 #[.val (.int p1), .val (.int p2), .val (.int p3), .val (.int p4), .val (.long q5), .second, .val (.int p6), .val (.int (1 : Int32)), .val (.int (0 : Int32)), .val (.int (1 : Int32)), .val (.int (0 : Int32)), .val (.ref b21), .val (.ref b26), .val (.int (q5.toInt32)), .val (.int (((q5.toUInt64 >>> ((32 : Int32) &&& 0x3f).toInt64.toUInt64).toInt64).toInt32)), .val (.int (p1 ^^^ p4)), .val (.int (p2 ^^^ (-1 : Int32))), .val (.ref b31), .val (.ref b36), .val (.ref b41), .val (.ref b51), .val (.ref b56), .unset] [])
          exact tl10 _ _ _ X63 N63' rfl O63 _ _ _ _ _ _ _ _ _ _ _ _ _ F_counts_b56_63 F_groups_b56_63 F_heads_b56_63 (own_im10 l hw [] b26 b21 (1 : Int32) (0 : Int32) kk26 kk21 p1 p2 p3 p4 T63.heap n0 (Nat.le_trans Z0 O63.1) rfl rfl Vc63 V_b21_63) (own_rm10 l hw [] b51 b41 (1 : Int32) (0 : Int32) kk51 kk41 b42 b44 b46 b48 T63.heap n0 (Nat.le_trans Z0 O63.1) rfl rfl Vg63 V_b41_63)
        · show own_Go _ _ _ _ T62 (mkF m 266 #[.val (.int p1), .val (.int p2), .val (.int p3), .val (.int p4), .val (.long q5), .second, .val (.int p6), .val (.int (1 : Int32)), .val (.int (1 : Int32)), .val (.int (1 : Int32)), .val (.int (0 : Int32)), .val (.ref b21), .val (.ref b26), .val (.int (q5.toInt32)), .val (.int (((q5.toUInt64 >>> ((32 : Int32) &&& 0x3f).toInt64.toUInt64).toInt64).toInt32)), .val (.int (p1 ^^^ p4)), .val (.int (p2 ^^^ (-1 : Int32))), .val (.ref b31), .val (.ref b36), .val (.ref b41), .val (.ref b51), .val (.ref b56), .unset] [(.int (1 : Int32))])
          refine own_st (fun _ k => XS.ifNo X62.here hx rfl (hb hby at_266) rfl ((if0 _ _).trans (feq (by decide : ¬ ((1 : Int32) = (0 : Int32)))).1) k) ?_
          refine own_st (fun _ k => XS.aload X62.here hx rfl (hb hby at_269) rfl rfl k) ?_
          refine own_st (fun _ k => XS.aload X62.here hx rfl (hb hby at_271) rfl rfl k) ?_
          obtain ⟨T64, hp64, X64, e64, W64, st64⟩ := putF X62 hx hZ hown (host := "") (Or.inl (own_w31 hw)) Via.refl e62 F_heads_b56_62 Ex_b56_62 (Or.inl (own_w32 hw)) (own_w5 hw) (ty := (.array .int)) (by decide) rfl rfl (g := (mkF m 273 #[.val (.int p1), .val (.int p2), .val (.int p3), .val (.int p4), .val (.long q5), .second, .val (.int p6), .val (.int (1 : Int32)), .val (.int (1 : Int32)), .val (.int (1 : Int32)), .val (.int (0 : Int32)), .val (.ref b21), .val (.ref b26), .val (.int (q5.toInt32)), .val (.int (((q5.toUInt64 >>> ((32 : Int32) &&& 0x3f).toInt64.toUInt64).toInt64).toInt32)), .val (.int (p1 ^^^ p4)), .val (.int (p2 ^^^ (-1 : Int32))), .val (.ref b31), .val (.ref b36), .val (.ref b41), .val (.ref b51), .val (.ref b56), .unset] [(.ref b36), (.ref b56)])) rfl rfl (hb hby at_273)
          have O64 := own_extw O62 W64 s_b56
          have V_b21_64 := V_b21_62.other W64 (Nat.ne_of_lt lt_b21_b56)
          have V_b26_64 := V_b26_62.other W64 (Nat.ne_of_lt lt_b26_b56)
          have V_b31_64 := V_b31_62.other W64 (Nat.ne_of_lt lt_b31_b56)
          have V_b36_64 := V_b36_62.other W64 (Nat.ne_of_lt lt_b36_b56)
          have V_b41_64 := V_b41_62.other W64 (Nat.ne_of_lt lt_b41_b56)
          have V_b42_64 := V_b42_62.other W64 (Nat.ne_of_lt lt_b42_b56)
          have V_b44_64 := V_b44_62.other W64 (Nat.ne_of_lt lt_b44_b56)
          have V_b46_64 := V_b46_62.other W64 (Nat.ne_of_lt lt_b46_b56)
          have V_b48_64 := V_b48_62.other W64 (Nat.ne_of_lt lt_b48_b56)
          have V_b51_64 := V_b51_62.other W64 (Nat.ne_of_lt lt_b51_b56)
          have Ex_b21_64 := Ex_b21_62.wr W64
          have Ex_b26_64 := Ex_b26_62.wr W64
          have Ex_b31_64 := Ex_b31_62.wr W64
          have Ex_b36_64 := Ex_b36_62.wr W64
          have Ex_b42_64 := Ex_b42_62.wr W64
          have Ex_b44_64 := Ex_b44_62.wr W64
          have Ex_b46_64 := Ex_b46_62.wr W64
          have Ex_b48_64 := Ex_b48_62.wr W64
          have Ex_b56_64 := Ex_b56_62.wr W64
          have F_counts_b56_64 := F_counts_b56_62.other W64 (Or.inr (slot_ne (Or.inl (own_w29 hw)) (Or.inl (own_w32 hw)) (by decide) (t := (.array .int)) (t' := (.array .int)) (by decide) (by decide)))
          have F_groups_b56_64 := F_groups_b56_62.other W64 (Or.inr (slot_ne (Or.inl (own_w39 hw)) (Or.inl (own_w32 hw)) (by decide) (t := (.array (.object "java/lang/Object"))) (t' := (.array .int)) (by decide) (by decide)))
          have F_heads_b56_64 := F_heads_b56_62.same W64
          have N64 := Fr.snoc X64 N62 g_b56
          refine own_st st64 ?_
          refine own_st (fun _ k => XS.aload X64.here hx rfl (hb hby at_276) rfl rfl k) ?_
          refine own_st (fun _ k => XS.iload X64.here hx rfl (hb hby at_278) rfl k) ?_
          show own_Go _ _ _ _ T64 (mkF m 280 #[.val (.int p1), .val (.int p2), .val (.int p3), .val (.int p4), .val (.long q5), .second, .val (.int p6), .val (.int (1 : Int32)), .val (.int (1 : Int32)), .val (.int (1 : Int32)), .val (.int (0 : Int32)), .val (.ref b21), .val (.ref b26), .val (.int (q5.toInt32)), .val (.int (((q5.toUInt64 >>> ((32 : Int32) &&& 0x3f).toInt64.toUInt64).toInt64).toInt32)), .val (.int (p1 ^^^ p4)), .val (.int (p2 ^^^ (-1 : Int32))), .val (.ref b31), .val (.ref b36), .val (.ref b41), .val (.ref b51), .val (.ref b56), .unset] [(.int (1 : Int32)), (.ref b56)])
          refine own_st (fun _ k => XS.iload X64.here hx rfl (hb hby at_280) rfl k) ?_
          obtain ⟨v65, T65, L65, hQ65, X65, st65⟩ := own_callV X64 hx hZ (y := (⟨"com/example/sheaf/sheaf/CountedKeys", "move", "(II)V"⟩ : MethodName)) hown (own_w33 hw) (own_w34 hw) (own_w36 hw) (own_w35 hw) (own_w6 hw) (own_w37 hw) (by decide) (own_mv11 l hw [] b56 b26 b51 b36 (1 : Int32) (0 : Int32) p2 (((q5.toUInt64 >>> ((32 : Int32) &&& 0x3f).toInt64.toUInt64).toInt64).toInt32) (.ref b44) kk26 kk51 kk36 [(.int p1), (.int p2), (.int p3), (.int p4)] [.null, (.ref b44), (.ref b46), (.ref b48)] [(.int (q5.toInt32)), (.int (((q5.toUInt64 >>> ((32 : Int32) &&& 0x3f).toInt64.toUInt64).toInt64).toInt32)), (.int (p1 ^^^ p4)), (.int (p2 ^^^ (-1 : Int32)))] hp64 n0 (Nat.le_trans Z0 O64.1) (by decide) (by decide) (Nat.le_of_ble_eq_true rfl) g_b26 V_b26_64 rfl (Nat.ne_of_gt lt_b26_b56) F_counts_b56_64 F_groups_b56_64 F_heads_b56_64 (Nat.le_of_ble_eq_true rfl) (Nat.le_of_ble_eq_true rfl) g_b51 V_b51_64 rfl rfl (by obtain ⟨cl', A', q', _⟩ := V_b51_64; exact Sto.ofV A' q' Ov51 (Ins.of_exa Ex_b44_64 (own_w3 hw))) (Nat.ne_of_gt lt_b51_b56) (Nat.ne_of_lt lt_b26_b51) (Nat.le_of_ble_eq_true rfl) g_b36 V_b36_64 rfl (Nat.ne_of_gt lt_b36_b56) (Nat.ne_of_lt lt_b26_b36) (Nat.ne_of_gt lt_b36_b51)) e64 Ex_b56_64 (g := (mkF m 282 #[.val (.int p1), .val (.int p2), .val (.int p3), .val (.int p4), .val (.long q5), .second, .val (.int p6), .val (.int (1 : Int32)), .val (.int (1 : Int32)), .val (.int (1 : Int32)), .val (.int (0 : Int32)), .val (.ref b21), .val (.ref b26), .val (.int (q5.toInt32)), .val (.int (((q5.toUInt64 >>> ((32 : Int32) &&& 0x3f).toInt64.toUInt64).toInt64).toInt32)), .val (.int (p1 ^^^ p4)), .val (.int (p2 ^^^ (-1 : Int32))), .val (.ref b31), .val (.ref b36), .val (.ref b41), .val (.ref b51), .val (.ref b56), .unset] [(.int (0 : Int32)), (.int (1 : Int32)), (.ref b56)])) rfl (by rw [hml]; rfl) (argsL := [(.int (1 : Int32)), (.int (0 : Int32))]) (rest := []) (lenOf own_pd5 rfl) rfl rfl (W := 0) (Nat.le_of_eq rfl) (hb hby at_282) (by decide) (by decide) (by decide) (by decide)
          obtain ⟨rfl, N65, K65, Vc65, Vg65, Vh65⟩ := hQ65
          have Vc65 : Arv Z T65.heap b26 kk26 .int 4 [(.int p2), (.int p2), (.int p3), (.int p4)] (.int (0 : Int32)) := Vc65
          have Vg65 : Arv Z T65.heap b51 kk51 (.object "java/lang/Object") 4 [(.ref b44), .null, (.ref b46), (.ref b48)] .null := Vg65
          have Vh65 : Arv Z T65.heap b36 kk36 .int 4 [(.int (((q5.toUInt64 >>> ((32 : Int32) &&& 0x3f).toInt64.toUInt64).toInt64).toInt32)), (.int (((q5.toUInt64 >>> ((32 : Int32) &&& 0x3f).toInt64.toUInt64).toInt64).toInt32)), (.int (p1 ^^^ p4)), (.int (p2 ^^^ (-1 : Int32)))] (.int (0 : Int32)) := Vh65
          have O65 : Ext h0 T65.heap := ⟨Nat.le_trans O64.1 K65.1, fun x c r => K65.2.1 x c (O64.2 x c r) (fun z => by
            have q := (Array.getElem?_eq_some_iff.mp r).1
            simp only [List.mem_cons, List.not_mem_nil, or_false] at z
            rcases z with rfl | rfl | rfl
            · exact absurd q (Nat.not_lt.mpr s_b26)
            · exact absurd q (Nat.not_lt.mpr s_b51)
            · exact absurd q (Nat.not_lt.mpr s_b36))⟩
          have V_b21_65 := V_b21_64.keep K65 (ninS (Nat.ne_of_lt lt_b21_b26) (ninS (Nat.ne_of_lt lt_b21_b51) (ninS (Nat.ne_of_lt lt_b21_b36) nin0)))
          have V_b31_65 := V_b31_64.keep K65 (ninS (Nat.ne_of_gt lt_b26_b31) (ninS (Nat.ne_of_lt lt_b31_b51) (ninS (Nat.ne_of_lt lt_b31_b36) nin0)))
          have V_b41_65 := V_b41_64.keep K65 (ninS (Nat.ne_of_gt lt_b26_b41) (ninS (Nat.ne_of_lt lt_b41_b51) (ninS (Nat.ne_of_gt lt_b36_b41) nin0)))
          have V_b42_65 := V_b42_64.keep K65 (ninS (Nat.ne_of_gt lt_b26_b42) (ninS (Nat.ne_of_lt lt_b42_b51) (ninS (Nat.ne_of_gt lt_b36_b42) nin0)))
          have V_b44_65 := V_b44_64.keep K65 (ninS (Nat.ne_of_gt lt_b26_b44) (ninS (Nat.ne_of_lt lt_b44_b51) (ninS (Nat.ne_of_gt lt_b36_b44) nin0)))
          have V_b46_65 := V_b46_64.keep K65 (ninS (Nat.ne_of_gt lt_b26_b46) (ninS (Nat.ne_of_lt lt_b46_b51) (ninS (Nat.ne_of_gt lt_b36_b46) nin0)))
          have V_b48_65 := V_b48_64.keep K65 (ninS (Nat.ne_of_gt lt_b26_b48) (ninS (Nat.ne_of_lt lt_b48_b51) (ninS (Nat.ne_of_gt lt_b36_b48) nin0)))
          have Ex_b21_65 := Ex_b21_64.keep K65
          have Ex_b26_65 := Ex_b26_64.keep K65
          have Ex_b31_65 := Ex_b31_64.keep K65
          have Ex_b36_65 := Ex_b36_64.keep K65
          have Ex_b42_65 := Ex_b42_64.keep K65
          have Ex_b44_65 := Ex_b44_64.keep K65
          have Ex_b46_65 := Ex_b46_64.keep K65
          have Ex_b48_65 := Ex_b48_64.keep K65
          have Ex_b56_65 := Ex_b56_64.keep K65
          have F_counts_b56_65 := F_counts_b56_64.keep K65 (ninS (Nat.ne_of_gt lt_b26_b56) (ninS (Nat.ne_of_gt lt_b51_b56) (ninS (Nat.ne_of_gt lt_b36_b56) nin0)))
          have F_groups_b56_65 := F_groups_b56_64.keep K65 (ninS (Nat.ne_of_gt lt_b26_b56) (ninS (Nat.ne_of_gt lt_b51_b56) (ninS (Nat.ne_of_gt lt_b36_b56) nin0)))
          have F_heads_b56_65 := F_heads_b56_64.keep K65 (ninS (Nat.ne_of_gt lt_b26_b56) (ninS (Nat.ne_of_gt lt_b51_b56) (ninS (Nat.ne_of_gt lt_b36_b56) nin0)))
          have N65' := Fr.app N64 N65
          refine own_st st65 ?_
          show own_Go _ _ _ _ T65 (mkF m 285 #[.val (.int p1), .val (.int p2), .val (.int p3), .val (.int p4), .val (.long q5), .second, .val (.int p6), .val (.int (1 : Int32)), .val (.int (1 : Int32)), .val (.int (1 : Int32)), .val (.int (0 : Int32)), .val (.ref b21), .val (.ref b26), .val (.int (q5.toInt32)), .val (.int (((q5.toUInt64 >>> ((32 : Int32) &&& 0x3f).toInt64.toUInt64).toInt64).toInt32)), .val (.int (p1 ^^^ p4)), .val (.int (p2 ^^^ (-1 : Int32))), .val (.ref b31), .val (.ref b36), .val (.ref b41), .val (.ref b51), .val (.ref b56), .unset] [])
          exact tl11 _ _ _ X65 N65' rfl O65 _ _ _ _ _ _ _ _ _ _ _ _ _ F_counts_b56_65 F_groups_b56_65 F_heads_b56_65 (own_im10 l hw [] b26 b21 (1 : Int32) (0 : Int32) kk26 kk21 p1 p2 p3 p4 T65.heap n0 (Nat.le_trans Z0 O65.1) rfl rfl Vc65 V_b21_65) (own_rm10 l hw [] b51 b41 (1 : Int32) (0 : Int32) kk51 kk41 b42 b44 b46 b48 T65.heap n0 (Nat.le_trans Z0 O65.1) rfl rfl Vg65 V_b41_65) (own_im10 l hw [] b36 b31 (1 : Int32) (0 : Int32) kk36 kk31 (q5.toInt32) (((q5.toUInt64 >>> ((32 : Int32) &&& 0x3f).toInt64.toUInt64).toInt64).toInt32) (p1 ^^^ p4) (p2 ^^^ (-1 : Int32)) T65.heap n0 (Nat.le_trans Z0 O65.1) rfl rfl Vh65 V_b31_65)
    · show own_Go _ _ _ _ T49 (mkF m 196 #[.val (.int p1), .val (.int p2), .val (.int p3), .val (.int p4), .val (.long q5), .second, .val (.int p6), .val (.int fg), .val (.int fh), .val (.int (2 : Int32)), .val (.int (0 : Int32)), .val (.ref b21), .val (.ref b26), .val (.int (q5.toInt32)), .val (.int (((q5.toUInt64 >>> ((32 : Int32) &&& 0x3f).toInt64.toUInt64).toInt64).toInt32)), .val (.int (p1 ^^^ p4)), .val (.int (p2 ^^^ (-1 : Int32))), .val (.ref b31), .val (.ref b36), .val (.ref b41), .unset, .unset, .unset] [])
      refine own_st (fun _ k => XS.aload X49.here hx rfl (hb hby at_196) rfl rfl k) ?_
      refine own_st (fun _ k => XS.iload X49.here hx rfl (hb hby at_198) rfl k) ?_
      refine own_st (fun _ k => XS.aconstNull X49.here hx rfl (hb hby at_200) k) ?_
      obtain ⟨T66, hp66, X66, e66, W66, Va66, st66⟩ := own_stR X49 hx hZ e49 Va49 rfl rfl (by decide) 0 (by decide) (Nat.le_of_ble_eq_true rfl) (fun _ _ _ => Or.inl rfl) (g := (mkF m 201 #[.val (.int p1), .val (.int p2), .val (.int p3), .val (.int p4), .val (.long q5), .second, .val (.int p6), .val (.int fg), .val (.int fh), .val (.int (2 : Int32)), .val (.int (0 : Int32)), .val (.ref b21), .val (.ref b26), .val (.int (q5.toInt32)), .val (.int (((q5.toUInt64 >>> ((32 : Int32) &&& 0x3f).toInt64.toUInt64).toInt64).toInt32)), .val (.int (p1 ^^^ p4)), .val (.int (p2 ^^^ (-1 : Int32))), .val (.ref b31), .val (.ref b36), .val (.ref b41), .unset, .unset, .unset] [.null, (.int (0 : Int32)), (.ref b41)])) rfl rfl (hb hby at_201)
      have O66 := own_extw O49 W66 s_b41
      have V_b21_66 := V_b21_49.other W66 (Nat.ne_of_lt lt_b21_b41)
      have V_b26_66 := V_b26_49.other W66 (Nat.ne_of_lt lt_b26_b41)
      have V_b31_66 := V_b31_49.other W66 (Nat.ne_of_lt lt_b31_b41)
      have V_b36_66 := V_b36_49.other W66 (Nat.ne_of_lt lt_b36_b41)
      have V_b42_66 := V_b42_49.other W66 (Nat.ne_of_gt lt_b41_b42)
      have V_b44_66 := V_b44_49.other W66 (Nat.ne_of_gt lt_b41_b44)
      have V_b46_66 := V_b46_49.other W66 (Nat.ne_of_gt lt_b41_b46)
      have V_b48_66 := V_b48_49.other W66 (Nat.ne_of_gt lt_b41_b48)
      have Ex_b21_66 := Ex_b21_49.wr W66
      have Ex_b26_66 := Ex_b26_49.wr W66
      have Ex_b31_66 := Ex_b31_49.wr W66
      have Ex_b36_66 := Ex_b36_49.wr W66
      have Ex_b42_66 := Ex_b42_49.wr W66
      have Ex_b44_66 := Ex_b44_49.wr W66
      have Ex_b46_66 := Ex_b46_49.wr W66
      have Ex_b48_66 := Ex_b48_49.wr W66
      have Va66 : Arv Z hp66 b41 kk41 (.object "java/lang/Object") (4 : Int32) [.null, (.ref b44), (.ref b46), (.ref b48)] .null := Va66
      have N66 := Fr.snoc X66 N49 g_b41
      refine own_st st66 ?_
      refine own_st (fun _ k => XS.iconst X66.here hx rfl (hb hby at_202) k) ?_
      obtain ⟨T67, hp67, kk67, X67, e67, Et67, A67, Ov67, st67⟩ := newR X66 hx hZ hown (own_w1 hw) (own_w2 hw) e66 (g := (mkF m 203 #[.val (.int p1), .val (.int p2), .val (.int p3), .val (.int p4), .val (.long q5), .second, .val (.int p6), .val (.int fg), .val (.int fh), .val (.int (2 : Int32)), .val (.int (0 : Int32)), .val (.ref b21), .val (.ref b26), .val (.int (q5.toInt32)), .val (.int (((q5.toUInt64 >>> ((32 : Int32) &&& 0x3f).toInt64.toUInt64).toInt64).toInt32)), .val (.int (p1 ^^^ p4)), .val (.int (p2 ^^^ (-1 : Int32))), .val (.ref b31), .val (.ref b36), .val (.ref b41), .unset, .unset, .unset] [(.int (4 : Int32))])) rfl (hb hby at_203) rfl (by decide) (cap := 4) (by decide) (by decide) (by decide) (by decide)
      obtain ⟨b67, g67⟩ : ∃ z, z = hp66.size := ⟨_, rfl⟩
      rw [← g67] at A67 st67
      have s_b67 : h0.size ≤ b67 := Nat.le_trans O66.1 (Nat.le_of_eq g67.symm)
      have g_b67 : n0 ≤ b67 := Nat.le_trans Z0 s_b67
      have lt_b21_b67 : b21 < b67 := Nat.lt_of_lt_of_le V_b21_66.lt (Nat.le_of_eq g67.symm)
      have lt_b26_b67 : b26 < b67 := Nat.lt_of_lt_of_le V_b26_66.lt (Nat.le_of_eq g67.symm)
      have lt_b31_b67 : b31 < b67 := Nat.lt_of_lt_of_le V_b31_66.lt (Nat.le_of_eq g67.symm)
      have lt_b36_b67 : b36 < b67 := Nat.lt_of_lt_of_le V_b36_66.lt (Nat.le_of_eq g67.symm)
      have lt_b41_b67 : b41 < b67 := Nat.lt_of_lt_of_le Va66.lt (Nat.le_of_eq g67.symm)
      have lt_b42_b67 : b42 < b67 := Nat.lt_of_lt_of_le V_b42_66.lt (Nat.le_of_eq g67.symm)
      have lt_b44_b67 : b44 < b67 := Nat.lt_of_lt_of_le V_b44_66.lt (Nat.le_of_eq g67.symm)
      have lt_b46_b67 : b46 < b67 := Nat.lt_of_lt_of_le V_b46_66.lt (Nat.le_of_eq g67.symm)
      have lt_b48_b67 : b48 < b67 := Nat.lt_of_lt_of_le V_b48_66.lt (Nat.le_of_eq g67.symm)
      have O67 := own_extt O66 Et67
      have V_b21_67 := V_b21_66.ext Et67
      have V_b26_67 := V_b26_66.ext Et67
      have V_b31_67 := V_b31_66.ext Et67
      have V_b36_67 := V_b36_66.ext Et67
      have V_b41_67 := Va66.ext Et67
      have V_b42_67 := V_b42_66.ext Et67
      have V_b44_67 := V_b44_66.ext Et67
      have V_b46_67 := V_b46_66.ext Et67
      have V_b48_67 := V_b48_66.ext Et67
      have Ex_b21_67 := Ex_b21_66.ext Et67
      have Ex_b26_67 := Ex_b26_66.ext Et67
      have Ex_b31_67 := Ex_b31_66.ext Et67
      have Ex_b36_67 := Ex_b36_66.ext Et67
      have Ex_b42_67 := Ex_b42_66.ext Et67
      have Ex_b44_67 := Ex_b44_66.ext Et67
      have Ex_b46_67 := Ex_b46_66.ext Et67
      have Ex_b48_67 := Ex_b48_66.ext Et67
      have Va67 : Arv Z hp67 b67 kk67 (.object "java/lang/Object") (4 : Int32) [.null, .null, .null, .null] .null := (Arv.new A67 (by decide)).pad (pad_rep [] .null 4)
      refine own_st st67 ?_
      show own_Go _ _ _ _ T67 (mkF m 206 #[.val (.int p1), .val (.int p2), .val (.int p3), .val (.int p4), .val (.long q5), .second, .val (.int p6), .val (.int fg), .val (.int fh), .val (.int (2 : Int32)), .val (.int (0 : Int32)), .val (.ref b21), .val (.ref b26), .val (.int (q5.toInt32)), .val (.int (((q5.toUInt64 >>> ((32 : Int32) &&& 0x3f).toInt64.toUInt64).toInt64).toInt32)), .val (.int (p1 ^^^ p4)), .val (.int (p2 ^^^ (-1 : Int32))), .val (.ref b31), .val (.ref b36), .val (.ref b41), .unset, .unset, .unset] [(.ref b67)])
      refine own_st (fun _ k => XS.dup X67.here hx rfl (hb hby at_206) rfl rfl k) ?_
      refine own_st (fun _ k => XS.iconst X67.here hx rfl (hb hby at_207) k) ?_
      refine own_st (fun _ k => XS.aload X67.here hx rfl (hb hby at_208) rfl rfl k) ?_
      refine own_st (fun _ k => XS.iconst X67.here hx rfl (hb hby at_210) k) ?_
      refine own_st (own_ldR X67 hx hZ e67 V_b41_67 rfl (j := (0 : Int32)) (by decide) (v := .null) rfl (g := (mkF m 211 #[.val (.int p1), .val (.int p2), .val (.int p3), .val (.int p4), .val (.long q5), .second, .val (.int p6), .val (.int fg), .val (.int fh), .val (.int (2 : Int32)), .val (.int (0 : Int32)), .val (.ref b21), .val (.ref b26), .val (.int (q5.toInt32)), .val (.int (((q5.toUInt64 >>> ((32 : Int32) &&& 0x3f).toInt64.toUInt64).toInt64).toInt32)), .val (.int (p1 ^^^ p4)), .val (.int (p2 ^^^ (-1 : Int32))), .val (.ref b31), .val (.ref b36), .val (.ref b41), .unset, .unset, .unset] [(.int (0 : Int32)), (.ref b41), (.int (0 : Int32)), (.ref b67), (.ref b67)])) rfl rfl (hb hby at_211)) ?_
      obtain ⟨T68, hp68, X68, e68, W68, Va68, st68⟩ := own_stR X67 hx hZ e67 Va67 rfl rfl (by decide) 0 (by decide) (Nat.le_of_ble_eq_true rfl) (fun _ _ _ => Or.inl rfl) (g := (mkF m 212 #[.val (.int p1), .val (.int p2), .val (.int p3), .val (.int p4), .val (.long q5), .second, .val (.int p6), .val (.int fg), .val (.int fh), .val (.int (2 : Int32)), .val (.int (0 : Int32)), .val (.ref b21), .val (.ref b26), .val (.int (q5.toInt32)), .val (.int (((q5.toUInt64 >>> ((32 : Int32) &&& 0x3f).toInt64.toUInt64).toInt64).toInt32)), .val (.int (p1 ^^^ p4)), .val (.int (p2 ^^^ (-1 : Int32))), .val (.ref b31), .val (.ref b36), .val (.ref b41), .unset, .unset, .unset] [.null, (.int (0 : Int32)), (.ref b67), (.ref b67)])) rfl rfl (hb hby at_212)
      have O68 := own_extw O67 W68 s_b67
      have V_b21_68 := V_b21_67.other W68 (Nat.ne_of_lt lt_b21_b67)
      have V_b26_68 := V_b26_67.other W68 (Nat.ne_of_lt lt_b26_b67)
      have V_b31_68 := V_b31_67.other W68 (Nat.ne_of_lt lt_b31_b67)
      have V_b36_68 := V_b36_67.other W68 (Nat.ne_of_lt lt_b36_b67)
      have V_b41_68 := V_b41_67.other W68 (Nat.ne_of_lt lt_b41_b67)
      have V_b42_68 := V_b42_67.other W68 (Nat.ne_of_lt lt_b42_b67)
      have V_b44_68 := V_b44_67.other W68 (Nat.ne_of_lt lt_b44_b67)
      have V_b46_68 := V_b46_67.other W68 (Nat.ne_of_lt lt_b46_b67)
      have V_b48_68 := V_b48_67.other W68 (Nat.ne_of_lt lt_b48_b67)
      have Ex_b21_68 := Ex_b21_67.wr W68
      have Ex_b26_68 := Ex_b26_67.wr W68
      have Ex_b31_68 := Ex_b31_67.wr W68
      have Ex_b36_68 := Ex_b36_67.wr W68
      have Ex_b42_68 := Ex_b42_67.wr W68
      have Ex_b44_68 := Ex_b44_67.wr W68
      have Ex_b46_68 := Ex_b46_67.wr W68
      have Ex_b48_68 := Ex_b48_67.wr W68
      have Va68 : Arv Z hp68 b67 kk67 (.object "java/lang/Object") (4 : Int32) [.null, .null, .null, .null] .null := Va68
      have N68 := Fr.snoc X68 N66 g_b67
      refine own_st st68 ?_
      show own_Go _ _ _ _ T68 (mkF m 213 #[.val (.int p1), .val (.int p2), .val (.int p3), .val (.int p4), .val (.long q5), .second, .val (.int p6), .val (.int fg), .val (.int fh), .val (.int (2 : Int32)), .val (.int (0 : Int32)), .val (.ref b21), .val (.ref b26), .val (.int (q5.toInt32)), .val (.int (((q5.toUInt64 >>> ((32 : Int32) &&& 0x3f).toInt64.toUInt64).toInt64).toInt32)), .val (.int (p1 ^^^ p4)), .val (.int (p2 ^^^ (-1 : Int32))), .val (.ref b31), .val (.ref b36), .val (.ref b41), .unset, .unset, .unset] [(.ref b67)])
      refine own_st (fun _ k => XS.dup X68.here hx rfl (hb hby at_213) rfl rfl k) ?_
      refine own_st (fun _ k => XS.iconst X68.here hx rfl (hb hby at_214) k) ?_
      refine own_st (fun _ k => XS.aload X68.here hx rfl (hb hby at_215) rfl rfl k) ?_
      refine own_st (fun _ k => XS.iconst X68.here hx rfl (hb hby at_217) k) ?_
      refine own_st (own_ldR X68 hx hZ e68 V_b41_68 rfl (j := (1 : Int32)) (by decide) (v := (.ref b44)) rfl (g := (mkF m 218 #[.val (.int p1), .val (.int p2), .val (.int p3), .val (.int p4), .val (.long q5), .second, .val (.int p6), .val (.int fg), .val (.int fh), .val (.int (2 : Int32)), .val (.int (0 : Int32)), .val (.ref b21), .val (.ref b26), .val (.int (q5.toInt32)), .val (.int (((q5.toUInt64 >>> ((32 : Int32) &&& 0x3f).toInt64.toUInt64).toInt64).toInt32)), .val (.int (p1 ^^^ p4)), .val (.int (p2 ^^^ (-1 : Int32))), .val (.ref b31), .val (.ref b36), .val (.ref b41), .unset, .unset, .unset] [(.int (1 : Int32)), (.ref b41), (.int (1 : Int32)), (.ref b67), (.ref b67)])) rfl rfl (hb hby at_218)) ?_
      obtain ⟨T69, hp69, X69, e69, W69, Va69, st69⟩ := own_stR X68 hx hZ e68 Va68 rfl rfl (by decide) 1 (by decide) (Nat.le_of_ble_eq_true rfl) (fun cl Ar q => Sto.ofV Ar q Ov67 (Ins.of_exa Ex_b44_68 (own_w3 hw))) (g := (mkF m 219 #[.val (.int p1), .val (.int p2), .val (.int p3), .val (.int p4), .val (.long q5), .second, .val (.int p6), .val (.int fg), .val (.int fh), .val (.int (2 : Int32)), .val (.int (0 : Int32)), .val (.ref b21), .val (.ref b26), .val (.int (q5.toInt32)), .val (.int (((q5.toUInt64 >>> ((32 : Int32) &&& 0x3f).toInt64.toUInt64).toInt64).toInt32)), .val (.int (p1 ^^^ p4)), .val (.int (p2 ^^^ (-1 : Int32))), .val (.ref b31), .val (.ref b36), .val (.ref b41), .unset, .unset, .unset] [(.ref b44), (.int (1 : Int32)), (.ref b67), (.ref b67)])) rfl rfl (hb hby at_219)
      have O69 := own_extw O68 W69 s_b67
      have V_b21_69 := V_b21_68.other W69 (Nat.ne_of_lt lt_b21_b67)
      have V_b26_69 := V_b26_68.other W69 (Nat.ne_of_lt lt_b26_b67)
      have V_b31_69 := V_b31_68.other W69 (Nat.ne_of_lt lt_b31_b67)
      have V_b36_69 := V_b36_68.other W69 (Nat.ne_of_lt lt_b36_b67)
      have V_b41_69 := V_b41_68.other W69 (Nat.ne_of_lt lt_b41_b67)
      have V_b42_69 := V_b42_68.other W69 (Nat.ne_of_lt lt_b42_b67)
      have V_b44_69 := V_b44_68.other W69 (Nat.ne_of_lt lt_b44_b67)
      have V_b46_69 := V_b46_68.other W69 (Nat.ne_of_lt lt_b46_b67)
      have V_b48_69 := V_b48_68.other W69 (Nat.ne_of_lt lt_b48_b67)
      have Ex_b21_69 := Ex_b21_68.wr W69
      have Ex_b26_69 := Ex_b26_68.wr W69
      have Ex_b31_69 := Ex_b31_68.wr W69
      have Ex_b36_69 := Ex_b36_68.wr W69
      have Ex_b42_69 := Ex_b42_68.wr W69
      have Ex_b44_69 := Ex_b44_68.wr W69
      have Ex_b46_69 := Ex_b46_68.wr W69
      have Ex_b48_69 := Ex_b48_68.wr W69
      have Va69 : Arv Z hp69 b67 kk67 (.object "java/lang/Object") (4 : Int32) [.null, (.ref b44), .null, .null] .null := Va69
      have N69 := Fr.snoc X69 N68 g_b67
      refine own_st st69 ?_
      show own_Go _ _ _ _ T69 (mkF m 220 #[.val (.int p1), .val (.int p2), .val (.int p3), .val (.int p4), .val (.long q5), .second, .val (.int p6), .val (.int fg), .val (.int fh), .val (.int (2 : Int32)), .val (.int (0 : Int32)), .val (.ref b21), .val (.ref b26), .val (.int (q5.toInt32)), .val (.int (((q5.toUInt64 >>> ((32 : Int32) &&& 0x3f).toInt64.toUInt64).toInt64).toInt32)), .val (.int (p1 ^^^ p4)), .val (.int (p2 ^^^ (-1 : Int32))), .val (.ref b31), .val (.ref b36), .val (.ref b41), .unset, .unset, .unset] [(.ref b67)])
      refine own_st (fun _ k => XS.dup X69.here hx rfl (hb hby at_220) rfl rfl k) ?_
      refine own_st (fun _ k => XS.iconst X69.here hx rfl (hb hby at_221) k) ?_
      refine own_st (fun _ k => XS.aload X69.here hx rfl (hb hby at_222) rfl rfl k) ?_
      refine own_st (fun _ k => XS.iconst X69.here hx rfl (hb hby at_224) k) ?_
      refine own_st (own_ldR X69 hx hZ e69 V_b41_69 rfl (j := (2 : Int32)) (by decide) (v := (.ref b46)) rfl (g := (mkF m 225 #[.val (.int p1), .val (.int p2), .val (.int p3), .val (.int p4), .val (.long q5), .second, .val (.int p6), .val (.int fg), .val (.int fh), .val (.int (2 : Int32)), .val (.int (0 : Int32)), .val (.ref b21), .val (.ref b26), .val (.int (q5.toInt32)), .val (.int (((q5.toUInt64 >>> ((32 : Int32) &&& 0x3f).toInt64.toUInt64).toInt64).toInt32)), .val (.int (p1 ^^^ p4)), .val (.int (p2 ^^^ (-1 : Int32))), .val (.ref b31), .val (.ref b36), .val (.ref b41), .unset, .unset, .unset] [(.int (2 : Int32)), (.ref b41), (.int (2 : Int32)), (.ref b67), (.ref b67)])) rfl rfl (hb hby at_225)) ?_
      obtain ⟨T70, hp70, X70, e70, W70, Va70, st70⟩ := own_stR X69 hx hZ e69 Va69 rfl rfl (by decide) 2 (by decide) (Nat.le_of_ble_eq_true rfl) (fun cl Ar q => Sto.ofV Ar q Ov67 (Ins.of_exa Ex_b46_69 (own_w3 hw))) (g := (mkF m 226 #[.val (.int p1), .val (.int p2), .val (.int p3), .val (.int p4), .val (.long q5), .second, .val (.int p6), .val (.int fg), .val (.int fh), .val (.int (2 : Int32)), .val (.int (0 : Int32)), .val (.ref b21), .val (.ref b26), .val (.int (q5.toInt32)), .val (.int (((q5.toUInt64 >>> ((32 : Int32) &&& 0x3f).toInt64.toUInt64).toInt64).toInt32)), .val (.int (p1 ^^^ p4)), .val (.int (p2 ^^^ (-1 : Int32))), .val (.ref b31), .val (.ref b36), .val (.ref b41), .unset, .unset, .unset] [(.ref b46), (.int (2 : Int32)), (.ref b67), (.ref b67)])) rfl rfl (hb hby at_226)
      have O70 := own_extw O69 W70 s_b67
      have V_b21_70 := V_b21_69.other W70 (Nat.ne_of_lt lt_b21_b67)
      have V_b26_70 := V_b26_69.other W70 (Nat.ne_of_lt lt_b26_b67)
      have V_b31_70 := V_b31_69.other W70 (Nat.ne_of_lt lt_b31_b67)
      have V_b36_70 := V_b36_69.other W70 (Nat.ne_of_lt lt_b36_b67)
      have V_b41_70 := V_b41_69.other W70 (Nat.ne_of_lt lt_b41_b67)
      have V_b42_70 := V_b42_69.other W70 (Nat.ne_of_lt lt_b42_b67)
      have V_b44_70 := V_b44_69.other W70 (Nat.ne_of_lt lt_b44_b67)
      have V_b46_70 := V_b46_69.other W70 (Nat.ne_of_lt lt_b46_b67)
      have V_b48_70 := V_b48_69.other W70 (Nat.ne_of_lt lt_b48_b67)
      have Ex_b21_70 := Ex_b21_69.wr W70
      have Ex_b26_70 := Ex_b26_69.wr W70
      have Ex_b31_70 := Ex_b31_69.wr W70
      have Ex_b36_70 := Ex_b36_69.wr W70
      have Ex_b42_70 := Ex_b42_69.wr W70
      have Ex_b44_70 := Ex_b44_69.wr W70
      have Ex_b46_70 := Ex_b46_69.wr W70
      have Ex_b48_70 := Ex_b48_69.wr W70
      have Va70 : Arv Z hp70 b67 kk67 (.object "java/lang/Object") (4 : Int32) [.null, (.ref b44), (.ref b46), .null] .null := Va70
      have N70 := Fr.snoc X70 N69 g_b67
      refine own_st st70 ?_
      show own_Go _ _ _ _ T70 (mkF m 227 #[.val (.int p1), .val (.int p2), .val (.int p3), .val (.int p4), .val (.long q5), .second, .val (.int p6), .val (.int fg), .val (.int fh), .val (.int (2 : Int32)), .val (.int (0 : Int32)), .val (.ref b21), .val (.ref b26), .val (.int (q5.toInt32)), .val (.int (((q5.toUInt64 >>> ((32 : Int32) &&& 0x3f).toInt64.toUInt64).toInt64).toInt32)), .val (.int (p1 ^^^ p4)), .val (.int (p2 ^^^ (-1 : Int32))), .val (.ref b31), .val (.ref b36), .val (.ref b41), .unset, .unset, .unset] [(.ref b67)])
      refine own_st (fun _ k => XS.dup X70.here hx rfl (hb hby at_227) rfl rfl k) ?_
      refine own_st (fun _ k => XS.iconst X70.here hx rfl (hb hby at_228) k) ?_
      refine own_st (fun _ k => XS.aload X70.here hx rfl (hb hby at_229) rfl rfl k) ?_
      refine own_st (fun _ k => XS.iconst X70.here hx rfl (hb hby at_231) k) ?_
      refine own_st (own_ldR X70 hx hZ e70 V_b41_70 rfl (j := (3 : Int32)) (by decide) (v := (.ref b48)) rfl (g := (mkF m 232 #[.val (.int p1), .val (.int p2), .val (.int p3), .val (.int p4), .val (.long q5), .second, .val (.int p6), .val (.int fg), .val (.int fh), .val (.int (2 : Int32)), .val (.int (0 : Int32)), .val (.ref b21), .val (.ref b26), .val (.int (q5.toInt32)), .val (.int (((q5.toUInt64 >>> ((32 : Int32) &&& 0x3f).toInt64.toUInt64).toInt64).toInt32)), .val (.int (p1 ^^^ p4)), .val (.int (p2 ^^^ (-1 : Int32))), .val (.ref b31), .val (.ref b36), .val (.ref b41), .unset, .unset, .unset] [(.int (3 : Int32)), (.ref b41), (.int (3 : Int32)), (.ref b67), (.ref b67)])) rfl rfl (hb hby at_232)) ?_
      obtain ⟨T71, hp71, X71, e71, W71, Va71, st71⟩ := own_stR X70 hx hZ e70 Va70 rfl rfl (by decide) 3 (by decide) (Nat.le_of_ble_eq_true rfl) (fun cl Ar q => Sto.ofV Ar q Ov67 (Ins.of_exa Ex_b48_70 (own_w3 hw))) (g := (mkF m 233 #[.val (.int p1), .val (.int p2), .val (.int p3), .val (.int p4), .val (.long q5), .second, .val (.int p6), .val (.int fg), .val (.int fh), .val (.int (2 : Int32)), .val (.int (0 : Int32)), .val (.ref b21), .val (.ref b26), .val (.int (q5.toInt32)), .val (.int (((q5.toUInt64 >>> ((32 : Int32) &&& 0x3f).toInt64.toUInt64).toInt64).toInt32)), .val (.int (p1 ^^^ p4)), .val (.int (p2 ^^^ (-1 : Int32))), .val (.ref b31), .val (.ref b36), .val (.ref b41), .unset, .unset, .unset] [(.ref b48), (.int (3 : Int32)), (.ref b67), (.ref b67)])) rfl rfl (hb hby at_233)
      have O71 := own_extw O70 W71 s_b67
      have V_b21_71 := V_b21_70.other W71 (Nat.ne_of_lt lt_b21_b67)
      have V_b26_71 := V_b26_70.other W71 (Nat.ne_of_lt lt_b26_b67)
      have V_b31_71 := V_b31_70.other W71 (Nat.ne_of_lt lt_b31_b67)
      have V_b36_71 := V_b36_70.other W71 (Nat.ne_of_lt lt_b36_b67)
      have V_b41_71 := V_b41_70.other W71 (Nat.ne_of_lt lt_b41_b67)
      have V_b42_71 := V_b42_70.other W71 (Nat.ne_of_lt lt_b42_b67)
      have V_b44_71 := V_b44_70.other W71 (Nat.ne_of_lt lt_b44_b67)
      have V_b46_71 := V_b46_70.other W71 (Nat.ne_of_lt lt_b46_b67)
      have V_b48_71 := V_b48_70.other W71 (Nat.ne_of_lt lt_b48_b67)
      have Ex_b21_71 := Ex_b21_70.wr W71
      have Ex_b26_71 := Ex_b26_70.wr W71
      have Ex_b31_71 := Ex_b31_70.wr W71
      have Ex_b36_71 := Ex_b36_70.wr W71
      have Ex_b42_71 := Ex_b42_70.wr W71
      have Ex_b44_71 := Ex_b44_70.wr W71
      have Ex_b46_71 := Ex_b46_70.wr W71
      have Ex_b48_71 := Ex_b48_70.wr W71
      have Va71 : Arv Z hp71 b67 kk67 (.object "java/lang/Object") (4 : Int32) [.null, (.ref b44), (.ref b46), (.ref b48)] .null := Va71
      have N71 := Fr.snoc X71 N70 g_b67
      refine own_st st71 ?_
      show own_Go _ _ _ _ T71 (mkF m 234 #[.val (.int p1), .val (.int p2), .val (.int p3), .val (.int p4), .val (.long q5), .second, .val (.int p6), .val (.int fg), .val (.int fh), .val (.int (2 : Int32)), .val (.int (0 : Int32)), .val (.ref b21), .val (.ref b26), .val (.int (q5.toInt32)), .val (.int (((q5.toUInt64 >>> ((32 : Int32) &&& 0x3f).toInt64.toUInt64).toInt64).toInt32)), .val (.int (p1 ^^^ p4)), .val (.int (p2 ^^^ (-1 : Int32))), .val (.ref b31), .val (.ref b36), .val (.ref b41), .unset, .unset, .unset] [(.ref b67)])
      refine own_st (fun _ k => XS.astore X71.here hx rfl (hb hby at_234) rfl rfl (l' := #[.val (.int p1), .val (.int p2), .val (.int p3), .val (.int p4), .val (.long q5), .second, .val (.int p6), .val (.int fg), .val (.int fh), .val (.int (2 : Int32)), .val (.int (0 : Int32)), .val (.ref b21), .val (.ref b26), .val (.int (q5.toInt32)), .val (.int (((q5.toUInt64 >>> ((32 : Int32) &&& 0x3f).toInt64.toUInt64).toInt64).toInt32)), .val (.int (p1 ^^^ p4)), .val (.int (p2 ^^^ (-1 : Int32))), .val (.ref b31), .val (.ref b36), .val (.ref b41), .val (.ref b67), .unset, .unset]) rfl k) ?_
      obtain ⟨T72, hp72, X72, e72, Et72, A72, D72, -, st72⟩ := newO X71 hx hZ hown (own_w4 hw) (own_w5 hw) (own_w6 hw) e71 (g := (mkF m 236 #[.val (.int p1), .val (.int p2), .val (.int p3), .val (.int p4), .val (.long q5), .second, .val (.int p6), .val (.int fg), .val (.int fh), .val (.int (2 : Int32)), .val (.int (0 : Int32)), .val (.ref b21), .val (.ref b26), .val (.int (q5.toInt32)), .val (.int (((q5.toUInt64 >>> ((32 : Int32) &&& 0x3f).toInt64.toUInt64).toInt64).toInt32)), .val (.int (p1 ^^^ p4)), .val (.int (p2 ^^^ (-1 : Int32))), .val (.ref b31), .val (.ref b36), .val (.ref b41), .val (.ref b67), .unset, .unset] [])) rfl (hb hby at_236) (by decide) (by decide)
      obtain ⟨b72, g72⟩ : ∃ z, z = hp71.size := ⟨_, rfl⟩
      rw [← g72] at A72 D72 st72
      have s_b72 : h0.size ≤ b72 := Nat.le_trans O71.1 (Nat.le_of_eq g72.symm)
      have g_b72 : n0 ≤ b72 := Nat.le_trans Z0 s_b72
      have lt_b21_b72 : b21 < b72 := Nat.lt_of_lt_of_le V_b21_71.lt (Nat.le_of_eq g72.symm)
      have lt_b26_b72 : b26 < b72 := Nat.lt_of_lt_of_le V_b26_71.lt (Nat.le_of_eq g72.symm)
      have lt_b31_b72 : b31 < b72 := Nat.lt_of_lt_of_le V_b31_71.lt (Nat.le_of_eq g72.symm)
      have lt_b36_b72 : b36 < b72 := Nat.lt_of_lt_of_le V_b36_71.lt (Nat.le_of_eq g72.symm)
      have lt_b41_b72 : b41 < b72 := Nat.lt_of_lt_of_le V_b41_71.lt (Nat.le_of_eq g72.symm)
      have lt_b42_b72 : b42 < b72 := Nat.lt_of_lt_of_le V_b42_71.lt (Nat.le_of_eq g72.symm)
      have lt_b44_b72 : b44 < b72 := Nat.lt_of_lt_of_le V_b44_71.lt (Nat.le_of_eq g72.symm)
      have lt_b46_b72 : b46 < b72 := Nat.lt_of_lt_of_le V_b46_71.lt (Nat.le_of_eq g72.symm)
      have lt_b48_b72 : b48 < b72 := Nat.lt_of_lt_of_le V_b48_71.lt (Nat.le_of_eq g72.symm)
      have lt_b67_b72 : b67 < b72 := Nat.lt_of_lt_of_le Va71.lt (Nat.le_of_eq g72.symm)
      have O72 := own_extt O71 Et72
      have V_b21_72 := V_b21_71.ext Et72
      have V_b26_72 := V_b26_71.ext Et72
      have V_b31_72 := V_b31_71.ext Et72
      have V_b36_72 := V_b36_71.ext Et72
      have V_b41_72 := V_b41_71.ext Et72
      have V_b42_72 := V_b42_71.ext Et72
      have V_b44_72 := V_b44_71.ext Et72
      have V_b46_72 := V_b46_71.ext Et72
      have V_b48_72 := V_b48_71.ext Et72
      have V_b67_72 := Va71.ext Et72
      have Ex_b21_72 := Ex_b21_71.ext Et72
      have Ex_b26_72 := Ex_b26_71.ext Et72
      have Ex_b31_72 := Ex_b31_71.ext Et72
      have Ex_b36_72 := Ex_b36_71.ext Et72
      have Ex_b42_72 := Ex_b42_71.ext Et72
      have Ex_b44_72 := Ex_b44_71.ext Et72
      have Ex_b46_72 := Ex_b46_71.ext Et72
      have Ex_b48_72 := Ex_b48_71.ext Et72
      have F_keys_b72 : Fld Z hp72 b72 "com/example/sheaf/sheaf/CompactHash" "keys" "[Ljava/lang/Object;" .null := D72 (Or.inl (own_w21 hw)) (ty := (.array (.object "java/lang/Object"))) (by decide)
      have F_index_b72 : Fld Z hp72 b72 "com/example/sheaf/sheaf/CompactHash" "index" "[I" .null := D72 (Or.inl (own_w25 hw)) (ty := (.array .int)) (by decide)
      have F_counts_b72 : Fld Z hp72 b72 "com/example/sheaf/sheaf/CountedKeys" "counts" "[I" .null := D72 (Or.inl (own_w29 hw)) (ty := (.array .int)) (by decide)
      have F_heads_b72 : Fld Z hp72 b72 "com/example/sheaf/sheaf/CountedKeys" "heads" "[I" .null := D72 (Or.inl (own_w32 hw)) (ty := (.array .int)) (by decide)
      have F_groups_b72 : Fld Z hp72 b72 "com/example/sheaf/sheaf/CountedKeys" "groups" "[Ljava/lang/Object;" .null := D72 (Or.inl (own_w39 hw)) (ty := (.array (.object "java/lang/Object"))) (by decide)
      refine own_st st72 ?_
      refine own_st (fun _ k => XS.dup X72.here hx rfl (hb hby at_239) rfl rfl k) ?_
      obtain ⟨v73, T73, L73, hQ73, X73, st73⟩ := own_callI X72 hx hZ (y := (⟨"com/example/sheaf/sheaf/CountedKeys", "<init>", "()V"⟩ : MethodName)) rfl hown (own_w7 hw) (own_w8 hw) (own_w6 hw) (own_w9 hw) (by decide) (own_ck l hw [] b72 wo wi hp72 n0 (Nat.le_trans Z0 O72.1) (So.ext O72) (Si.ext O72) g_b72 A72 F_keys_b72 F_index_b72 F_counts_b72 F_groups_b72 F_heads_b72) e72 (g := (mkF m 240 #[.val (.int p1), .val (.int p2), .val (.int p3), .val (.int p4), .val (.long q5), .second, .val (.int p6), .val (.int fg), .val (.int fh), .val (.int (2 : Int32)), .val (.int (0 : Int32)), .val (.ref b21), .val (.ref b26), .val (.int (q5.toInt32)), .val (.int (((q5.toUInt64 >>> ((32 : Int32) &&& 0x3f).toInt64.toUInt64).toInt64).toInt32)), .val (.int (p1 ^^^ p4)), .val (.int (p2 ^^^ (-1 : Int32))), .val (.ref b31), .val (.ref b36), .val (.ref b41), .val (.ref b67), .unset, .unset] [(.ref b72), (.ref b72)])) rfl (by rw [hml]; rfl) (argsL := []) (rest := [(.ref b72)]) (lenOf own_pd0 rfl) rfl rfl (W := 1) (Nat.le_of_eq rfl) (hb hby at_240) (by decide) (by decide) (by decide) (by decide)
      obtain ⟨rfl, N73, K73, Fc73, Fg73, Fh73⟩ := hQ73
      have O73 := own_extk O72 K73 s_b72
      have V_b21_73 := V_b21_72.keep K73 (ninS (Nat.ne_of_lt lt_b21_b72) nin0)
      have V_b26_73 := V_b26_72.keep K73 (ninS (Nat.ne_of_lt lt_b26_b72) nin0)
      have V_b31_73 := V_b31_72.keep K73 (ninS (Nat.ne_of_lt lt_b31_b72) nin0)
      have V_b36_73 := V_b36_72.keep K73 (ninS (Nat.ne_of_lt lt_b36_b72) nin0)
      have V_b41_73 := V_b41_72.keep K73 (ninS (Nat.ne_of_lt lt_b41_b72) nin0)
      have V_b42_73 := V_b42_72.keep K73 (ninS (Nat.ne_of_lt lt_b42_b72) nin0)
      have V_b44_73 := V_b44_72.keep K73 (ninS (Nat.ne_of_lt lt_b44_b72) nin0)
      have V_b46_73 := V_b46_72.keep K73 (ninS (Nat.ne_of_lt lt_b46_b72) nin0)
      have V_b48_73 := V_b48_72.keep K73 (ninS (Nat.ne_of_lt lt_b48_b72) nin0)
      have V_b67_73 := V_b67_72.keep K73 (ninS (Nat.ne_of_lt lt_b67_b72) nin0)
      have Ex_b21_73 := Ex_b21_72.keep K73
      have Ex_b26_73 := Ex_b26_72.keep K73
      have Ex_b31_73 := Ex_b31_72.keep K73
      have Ex_b36_73 := Ex_b36_72.keep K73
      have Ex_b42_73 := Ex_b42_72.keep K73
      have Ex_b44_73 := Ex_b44_72.keep K73
      have Ex_b46_73 := Ex_b46_72.keep K73
      have Ex_b48_73 := Ex_b48_72.keep K73
      have Ex_b72_73 := A72.keep K73
      have N73' := Fr.app N71 N73
      refine own_st st73 ?_
      refine own_st (fun _ k => XS.astore X73.here hx rfl (hb hby at_243) rfl rfl (l' := #[.val (.int p1), .val (.int p2), .val (.int p3), .val (.int p4), .val (.long q5), .second, .val (.int p6), .val (.int fg), .val (.int fh), .val (.int (2 : Int32)), .val (.int (0 : Int32)), .val (.ref b21), .val (.ref b26), .val (.int (q5.toInt32)), .val (.int (((q5.toUInt64 >>> ((32 : Int32) &&& 0x3f).toInt64.toUInt64).toInt64).toInt32)), .val (.int (p1 ^^^ p4)), .val (.int (p2 ^^^ (-1 : Int32))), .val (.ref b31), .val (.ref b36), .val (.ref b41), .val (.ref b67), .val (.ref b72), .unset]) rfl k) ?_
      refine own_st (fun _ k => XS.aload X73.here hx rfl (hb hby at_245) rfl rfl k) ?_
      show own_Go _ _ _ _ T73 (mkF m 247 #[.val (.int p1), .val (.int p2), .val (.int p3), .val (.int p4), .val (.long q5), .second, .val (.int p6), .val (.int fg), .val (.int fh), .val (.int (2 : Int32)), .val (.int (0 : Int32)), .val (.ref b21), .val (.ref b26), .val (.int (q5.toInt32)), .val (.int (((q5.toUInt64 >>> ((32 : Int32) &&& 0x3f).toInt64.toUInt64).toInt64).toInt32)), .val (.int (p1 ^^^ p4)), .val (.int (p2 ^^^ (-1 : Int32))), .val (.ref b31), .val (.ref b36), .val (.ref b41), .val (.ref b67), .val (.ref b72), .unset] [(.ref b72)])
      refine own_st (fun _ k => XS.aload X73.here hx rfl (hb hby at_247) rfl rfl k) ?_
      obtain ⟨T74, hp74, X74, e74, W74, st74⟩ := putF X73 hx hZ hown (host := "") (Or.inl (own_w30 hw)) Via.refl rfl Fc73 Ex_b72_73 (Or.inl (own_w29 hw)) (own_w5 hw) (ty := (.array .int)) (by decide) rfl rfl (g := (mkF m 249 #[.val (.int p1), .val (.int p2), .val (.int p3), .val (.int p4), .val (.long q5), .second, .val (.int p6), .val (.int fg), .val (.int fh), .val (.int (2 : Int32)), .val (.int (0 : Int32)), .val (.ref b21), .val (.ref b26), .val (.int (q5.toInt32)), .val (.int (((q5.toUInt64 >>> ((32 : Int32) &&& 0x3f).toInt64.toUInt64).toInt64).toInt32)), .val (.int (p1 ^^^ p4)), .val (.int (p2 ^^^ (-1 : Int32))), .val (.ref b31), .val (.ref b36), .val (.ref b41), .val (.ref b67), .val (.ref b72), .unset] [(.ref b26), (.ref b72)])) rfl rfl (hb hby at_249)
      have O74 := own_extw O73 W74 s_b72
      have V_b21_74 := V_b21_73.other W74 (Nat.ne_of_lt lt_b21_b72)
      have V_b26_74 := V_b26_73.other W74 (Nat.ne_of_lt lt_b26_b72)
      have V_b31_74 := V_b31_73.other W74 (Nat.ne_of_lt lt_b31_b72)
      have V_b36_74 := V_b36_73.other W74 (Nat.ne_of_lt lt_b36_b72)
      have V_b41_74 := V_b41_73.other W74 (Nat.ne_of_lt lt_b41_b72)
      have V_b42_74 := V_b42_73.other W74 (Nat.ne_of_lt lt_b42_b72)
      have V_b44_74 := V_b44_73.other W74 (Nat.ne_of_lt lt_b44_b72)
      have V_b46_74 := V_b46_73.other W74 (Nat.ne_of_lt lt_b46_b72)
      have V_b48_74 := V_b48_73.other W74 (Nat.ne_of_lt lt_b48_b72)
      have V_b67_74 := V_b67_73.other W74 (Nat.ne_of_lt lt_b67_b72)
      have Ex_b21_74 := Ex_b21_73.wr W74
      have Ex_b26_74 := Ex_b26_73.wr W74
      have Ex_b31_74 := Ex_b31_73.wr W74
      have Ex_b36_74 := Ex_b36_73.wr W74
      have Ex_b42_74 := Ex_b42_73.wr W74
      have Ex_b44_74 := Ex_b44_73.wr W74
      have Ex_b46_74 := Ex_b46_73.wr W74
      have Ex_b48_74 := Ex_b48_73.wr W74
      have Ex_b72_74 := Ex_b72_73.wr W74
      have F_groups_b72_74 := Fg73.other W74 (Or.inr (slot_ne (Or.inl (own_w39 hw)) (Or.inl (own_w29 hw)) (by decide) (t := (.array (.object "java/lang/Object"))) (t' := (.array .int)) (by decide) (by decide)))
      have F_heads_b72_74 := Fh73.other W74 (Or.inr (slot_ne (Or.inl (own_w32 hw)) (Or.inl (own_w29 hw)) (by decide) (t := (.array .int)) (t' := (.array .int)) (by decide) (by decide)))
      have F_counts_b72_74 := Fc73.same W74
      have N74 := Fr.snoc X74 N73' g_b72
      refine own_st st74 ?_
      refine own_st (fun _ k => XS.iload X74.here hx rfl (hb hby at_252) rfl k) ?_
      rcases hfg with rfl | rfl
      · show own_Go _ _ _ _ T74 (mkF m 254 #[.val (.int p1), .val (.int p2), .val (.int p3), .val (.int p4), .val (.long q5), .second, .val (.int p6), .val (.int (0 : Int32)), .val (.int fh), .val (.int (2 : Int32)), .val (.int (0 : Int32)), .val (.ref b21), .val (.ref b26), .val (.int (q5.toInt32)), .val (.int (((q5.toUInt64 >>> ((32 : Int32) &&& 0x3f).toInt64.toUInt64).toInt64).toInt32)), .val (.int (p1 ^^^ p4)), .val (.int (p2 ^^^ (-1 : Int32))), .val (.ref b31), .val (.ref b36), .val (.ref b41), .val (.ref b67), .val (.ref b72), .unset] [(.int (0 : Int32))])
        refine own_st (fun _ k => XS.ifYes X74.here hx rfl (pc0 := 254) (pc' := 264) rfl (hb hby at_254) rfl ((if0 _ _).trans (teq (by decide : (0 : Int32) = (0 : Int32))).1) (by decide) (by decide) k) ?_
        refine own_st (fun _ k => XS.iload X74.here hx rfl (hb hby at_264) rfl k) ?_
        rcases hfh with rfl | rfl
        · show own_Go _ _ _ _ T74 (mkF m 266 #[.val (.int p1), .val (.int p2), .val (.int p3), .val (.int p4), .val (.long q5), .second, .val (.int p6), .val (.int (0 : Int32)), .val (.int (0 : Int32)), .val (.int (2 : Int32)), .val (.int (0 : Int32)), .val (.ref b21), .val (.ref b26), .val (.int (q5.toInt32)), .val (.int (((q5.toUInt64 >>> ((32 : Int32) &&& 0x3f).toInt64.toUInt64).toInt64).toInt32)), .val (.int (p1 ^^^ p4)), .val (.int (p2 ^^^ (-1 : Int32))), .val (.ref b31), .val (.ref b36), .val (.ref b41), .val (.ref b67), .val (.ref b72), .unset] [(.int (0 : Int32))])
          refine own_st (fun _ k => XS.ifYes X74.here hx rfl (pc0 := 266) (pc' := 276) rfl (hb hby at_266) rfl ((if0 _ _).trans (teq (by decide : (0 : Int32) = (0 : Int32))).1) (by decide) (by decide) k) ?_
          refine own_st (fun _ k => XS.aload X74.here hx rfl (hb hby at_276) rfl rfl k) ?_
          refine own_st (fun _ k => XS.iload X74.here hx rfl (hb hby at_278) rfl k) ?_
          refine own_st (fun _ k => XS.iload X74.here hx rfl (hb hby at_280) rfl k) ?_
          obtain ⟨v75, T75, L75, hQ75, X75, st75⟩ := own_callV X74 hx hZ (y := (⟨"com/example/sheaf/sheaf/CountedKeys", "move", "(II)V"⟩ : MethodName)) hown (own_w33 hw) (own_w34 hw) (own_w36 hw) (own_w35 hw) (own_w6 hw) (own_w37 hw) (by decide) (own_mv00 l hw [] b72 b26 b67 b36 (2 : Int32) (0 : Int32) p3 (p1 ^^^ p4) (.ref b46) kk26 kk67 kk36 [(.int p1), (.int p2), (.int p3), (.int p4)] [.null, (.ref b44), (.ref b46), (.ref b48)] [(.int (q5.toInt32)), (.int (((q5.toUInt64 >>> ((32 : Int32) &&& 0x3f).toInt64.toUInt64).toInt64).toInt32)), (.int (p1 ^^^ p4)), (.int (p2 ^^^ (-1 : Int32)))] hp74 n0 (Nat.le_trans Z0 O74.1) (by decide) (by decide) (Nat.le_of_ble_eq_true rfl) g_b26 V_b26_74 rfl (Nat.ne_of_gt lt_b26_b72) F_counts_b72_74 F_groups_b72_74 F_heads_b72_74) e74 Ex_b72_74 (g := (mkF m 282 #[.val (.int p1), .val (.int p2), .val (.int p3), .val (.int p4), .val (.long q5), .second, .val (.int p6), .val (.int (0 : Int32)), .val (.int (0 : Int32)), .val (.int (2 : Int32)), .val (.int (0 : Int32)), .val (.ref b21), .val (.ref b26), .val (.int (q5.toInt32)), .val (.int (((q5.toUInt64 >>> ((32 : Int32) &&& 0x3f).toInt64.toUInt64).toInt64).toInt32)), .val (.int (p1 ^^^ p4)), .val (.int (p2 ^^^ (-1 : Int32))), .val (.ref b31), .val (.ref b36), .val (.ref b41), .val (.ref b67), .val (.ref b72), .unset] [(.int (0 : Int32)), (.int (2 : Int32)), (.ref b72)])) rfl (by rw [hml]; rfl) (argsL := [(.int (2 : Int32)), (.int (0 : Int32))]) (rest := []) (lenOf own_pd5 rfl) rfl rfl (W := 0) (Nat.le_of_eq rfl) (hb hby at_282) (by decide) (by decide) (by decide) (by decide)
          obtain ⟨rfl, N75, K75, Vc75⟩ := hQ75
          have Vc75 : Arv Z T75.heap b26 kk26 .int 4 [(.int p3), (.int p2), (.int p3), (.int p4)] (.int (0 : Int32)) := Vc75
          have O75 : Ext h0 T75.heap := ⟨Nat.le_trans O74.1 K75.1, fun x c r => K75.2.1 x c (O74.2 x c r) (fun z => by
            have q := (Array.getElem?_eq_some_iff.mp r).1
            simp only [List.mem_cons, List.not_mem_nil, or_false] at z
            rcases z with rfl
            exact absurd q (Nat.not_lt.mpr s_b26))⟩
          have V_b21_75 := V_b21_74.keep K75 (ninS (Nat.ne_of_lt lt_b21_b26) nin0)
          have V_b31_75 := V_b31_74.keep K75 (ninS (Nat.ne_of_gt lt_b26_b31) nin0)
          have V_b36_75 := V_b36_74.keep K75 (ninS (Nat.ne_of_gt lt_b26_b36) nin0)
          have V_b41_75 := V_b41_74.keep K75 (ninS (Nat.ne_of_gt lt_b26_b41) nin0)
          have V_b42_75 := V_b42_74.keep K75 (ninS (Nat.ne_of_gt lt_b26_b42) nin0)
          have V_b44_75 := V_b44_74.keep K75 (ninS (Nat.ne_of_gt lt_b26_b44) nin0)
          have V_b46_75 := V_b46_74.keep K75 (ninS (Nat.ne_of_gt lt_b26_b46) nin0)
          have V_b48_75 := V_b48_74.keep K75 (ninS (Nat.ne_of_gt lt_b26_b48) nin0)
          have V_b67_75 := V_b67_74.keep K75 (ninS (Nat.ne_of_gt lt_b26_b67) nin0)
          have Ex_b21_75 := Ex_b21_74.keep K75
          have Ex_b26_75 := Ex_b26_74.keep K75
          have Ex_b31_75 := Ex_b31_74.keep K75
          have Ex_b36_75 := Ex_b36_74.keep K75
          have Ex_b42_75 := Ex_b42_74.keep K75
          have Ex_b44_75 := Ex_b44_74.keep K75
          have Ex_b46_75 := Ex_b46_74.keep K75
          have Ex_b48_75 := Ex_b48_74.keep K75
          have Ex_b72_75 := Ex_b72_74.keep K75
          have F_counts_b72_75 := F_counts_b72_74.keep K75 (ninS (Nat.ne_of_gt lt_b26_b72) nin0)
          have F_groups_b72_75 := F_groups_b72_74.keep K75 (ninS (Nat.ne_of_gt lt_b26_b72) nin0)
          have F_heads_b72_75 := F_heads_b72_74.keep K75 (ninS (Nat.ne_of_gt lt_b26_b72) nin0)
          have N75' := Fr.app N74 N75
          refine own_st st75 ?_
          show own_Go _ _ _ _ T75 (mkF m 285 #[.val (.int p1), .val (.int p2), .val (.int p3), .val (.int p4), .val (.long q5), .second, .val (.int p6), .val (.int (0 : Int32)), .val (.int (0 : Int32)), .val (.int (2 : Int32)), .val (.int (0 : Int32)), .val (.ref b21), .val (.ref b26), .val (.int (q5.toInt32)), .val (.int (((q5.toUInt64 >>> ((32 : Int32) &&& 0x3f).toInt64.toUInt64).toInt64).toInt32)), .val (.int (p1 ^^^ p4)), .val (.int (p2 ^^^ (-1 : Int32))), .val (.ref b31), .val (.ref b36), .val (.ref b41), .val (.ref b67), .val (.ref b72), .unset] [])
          exact tl00 _ _ _ X75 N75' rfl O75 _ _ _ _ _ _ _ _ _ _ _ _ _ F_counts_b72_75 F_groups_b72_75 F_heads_b72_75 (own_im20 l hw [] b26 b21 (2 : Int32) (0 : Int32) kk26 kk21 p1 p2 p3 p4 T75.heap n0 (Nat.le_trans Z0 O75.1) rfl rfl Vc75 V_b21_75)
        · show own_Go _ _ _ _ T74 (mkF m 266 #[.val (.int p1), .val (.int p2), .val (.int p3), .val (.int p4), .val (.long q5), .second, .val (.int p6), .val (.int (0 : Int32)), .val (.int (1 : Int32)), .val (.int (2 : Int32)), .val (.int (0 : Int32)), .val (.ref b21), .val (.ref b26), .val (.int (q5.toInt32)), .val (.int (((q5.toUInt64 >>> ((32 : Int32) &&& 0x3f).toInt64.toUInt64).toInt64).toInt32)), .val (.int (p1 ^^^ p4)), .val (.int (p2 ^^^ (-1 : Int32))), .val (.ref b31), .val (.ref b36), .val (.ref b41), .val (.ref b67), .val (.ref b72), .unset] [(.int (1 : Int32))])
          refine own_st (fun _ k => XS.ifNo X74.here hx rfl (hb hby at_266) rfl ((if0 _ _).trans (feq (by decide : ¬ ((1 : Int32) = (0 : Int32)))).1) k) ?_
          refine own_st (fun _ k => XS.aload X74.here hx rfl (hb hby at_269) rfl rfl k) ?_
          refine own_st (fun _ k => XS.aload X74.here hx rfl (hb hby at_271) rfl rfl k) ?_
          obtain ⟨T76, hp76, X76, e76, W76, st76⟩ := putF X74 hx hZ hown (host := "") (Or.inl (own_w31 hw)) Via.refl e74 F_heads_b72_74 Ex_b72_74 (Or.inl (own_w32 hw)) (own_w5 hw) (ty := (.array .int)) (by decide) rfl rfl (g := (mkF m 273 #[.val (.int p1), .val (.int p2), .val (.int p3), .val (.int p4), .val (.long q5), .second, .val (.int p6), .val (.int (0 : Int32)), .val (.int (1 : Int32)), .val (.int (2 : Int32)), .val (.int (0 : Int32)), .val (.ref b21), .val (.ref b26), .val (.int (q5.toInt32)), .val (.int (((q5.toUInt64 >>> ((32 : Int32) &&& 0x3f).toInt64.toUInt64).toInt64).toInt32)), .val (.int (p1 ^^^ p4)), .val (.int (p2 ^^^ (-1 : Int32))), .val (.ref b31), .val (.ref b36), .val (.ref b41), .val (.ref b67), .val (.ref b72), .unset] [(.ref b36), (.ref b72)])) rfl rfl (hb hby at_273)
          have O76 := own_extw O74 W76 s_b72
          have V_b21_76 := V_b21_74.other W76 (Nat.ne_of_lt lt_b21_b72)
          have V_b26_76 := V_b26_74.other W76 (Nat.ne_of_lt lt_b26_b72)
          have V_b31_76 := V_b31_74.other W76 (Nat.ne_of_lt lt_b31_b72)
          have V_b36_76 := V_b36_74.other W76 (Nat.ne_of_lt lt_b36_b72)
          have V_b41_76 := V_b41_74.other W76 (Nat.ne_of_lt lt_b41_b72)
          have V_b42_76 := V_b42_74.other W76 (Nat.ne_of_lt lt_b42_b72)
          have V_b44_76 := V_b44_74.other W76 (Nat.ne_of_lt lt_b44_b72)
          have V_b46_76 := V_b46_74.other W76 (Nat.ne_of_lt lt_b46_b72)
          have V_b48_76 := V_b48_74.other W76 (Nat.ne_of_lt lt_b48_b72)
          have V_b67_76 := V_b67_74.other W76 (Nat.ne_of_lt lt_b67_b72)
          have Ex_b21_76 := Ex_b21_74.wr W76
          have Ex_b26_76 := Ex_b26_74.wr W76
          have Ex_b31_76 := Ex_b31_74.wr W76
          have Ex_b36_76 := Ex_b36_74.wr W76
          have Ex_b42_76 := Ex_b42_74.wr W76
          have Ex_b44_76 := Ex_b44_74.wr W76
          have Ex_b46_76 := Ex_b46_74.wr W76
          have Ex_b48_76 := Ex_b48_74.wr W76
          have Ex_b72_76 := Ex_b72_74.wr W76
          have F_counts_b72_76 := F_counts_b72_74.other W76 (Or.inr (slot_ne (Or.inl (own_w29 hw)) (Or.inl (own_w32 hw)) (by decide) (t := (.array .int)) (t' := (.array .int)) (by decide) (by decide)))
          have F_groups_b72_76 := F_groups_b72_74.other W76 (Or.inr (slot_ne (Or.inl (own_w39 hw)) (Or.inl (own_w32 hw)) (by decide) (t := (.array (.object "java/lang/Object"))) (t' := (.array .int)) (by decide) (by decide)))
          have F_heads_b72_76 := F_heads_b72_74.same W76
          have N76 := Fr.snoc X76 N74 g_b72
          refine own_st st76 ?_
          refine own_st (fun _ k => XS.aload X76.here hx rfl (hb hby at_276) rfl rfl k) ?_
          refine own_st (fun _ k => XS.iload X76.here hx rfl (hb hby at_278) rfl k) ?_
          show own_Go _ _ _ _ T76 (mkF m 280 #[.val (.int p1), .val (.int p2), .val (.int p3), .val (.int p4), .val (.long q5), .second, .val (.int p6), .val (.int (0 : Int32)), .val (.int (1 : Int32)), .val (.int (2 : Int32)), .val (.int (0 : Int32)), .val (.ref b21), .val (.ref b26), .val (.int (q5.toInt32)), .val (.int (((q5.toUInt64 >>> ((32 : Int32) &&& 0x3f).toInt64.toUInt64).toInt64).toInt32)), .val (.int (p1 ^^^ p4)), .val (.int (p2 ^^^ (-1 : Int32))), .val (.ref b31), .val (.ref b36), .val (.ref b41), .val (.ref b67), .val (.ref b72), .unset] [(.int (2 : Int32)), (.ref b72)])
          refine own_st (fun _ k => XS.iload X76.here hx rfl (hb hby at_280) rfl k) ?_
          obtain ⟨v77, T77, L77, hQ77, X77, st77⟩ := own_callV X76 hx hZ (y := (⟨"com/example/sheaf/sheaf/CountedKeys", "move", "(II)V"⟩ : MethodName)) hown (own_w33 hw) (own_w34 hw) (own_w36 hw) (own_w35 hw) (own_w6 hw) (own_w37 hw) (by decide) (own_mv01 l hw [] b72 b26 b67 b36 (2 : Int32) (0 : Int32) p3 (p1 ^^^ p4) (.ref b46) kk26 kk67 kk36 [(.int p1), (.int p2), (.int p3), (.int p4)] [.null, (.ref b44), (.ref b46), (.ref b48)] [(.int (q5.toInt32)), (.int (((q5.toUInt64 >>> ((32 : Int32) &&& 0x3f).toInt64.toUInt64).toInt64).toInt32)), (.int (p1 ^^^ p4)), (.int (p2 ^^^ (-1 : Int32)))] hp76 n0 (Nat.le_trans Z0 O76.1) (by decide) (by decide) (Nat.le_of_ble_eq_true rfl) g_b26 V_b26_76 rfl (Nat.ne_of_gt lt_b26_b72) F_counts_b72_76 F_groups_b72_76 F_heads_b72_76 (Nat.le_of_ble_eq_true rfl) g_b36 V_b36_76 rfl (Nat.ne_of_gt lt_b36_b72) (Nat.ne_of_lt lt_b26_b36)) e76 Ex_b72_76 (g := (mkF m 282 #[.val (.int p1), .val (.int p2), .val (.int p3), .val (.int p4), .val (.long q5), .second, .val (.int p6), .val (.int (0 : Int32)), .val (.int (1 : Int32)), .val (.int (2 : Int32)), .val (.int (0 : Int32)), .val (.ref b21), .val (.ref b26), .val (.int (q5.toInt32)), .val (.int (((q5.toUInt64 >>> ((32 : Int32) &&& 0x3f).toInt64.toUInt64).toInt64).toInt32)), .val (.int (p1 ^^^ p4)), .val (.int (p2 ^^^ (-1 : Int32))), .val (.ref b31), .val (.ref b36), .val (.ref b41), .val (.ref b67), .val (.ref b72), .unset] [(.int (0 : Int32)), (.int (2 : Int32)), (.ref b72)])) rfl (by rw [hml]; rfl) (argsL := [(.int (2 : Int32)), (.int (0 : Int32))]) (rest := []) (lenOf own_pd5 rfl) rfl rfl (W := 0) (Nat.le_of_eq rfl) (hb hby at_282) (by decide) (by decide) (by decide) (by decide)
          obtain ⟨rfl, N77, K77, Vc77, Vh77⟩ := hQ77
          have Vc77 : Arv Z T77.heap b26 kk26 .int 4 [(.int p3), (.int p2), (.int p3), (.int p4)] (.int (0 : Int32)) := Vc77
          have Vh77 : Arv Z T77.heap b36 kk36 .int 4 [(.int (p1 ^^^ p4)), (.int (((q5.toUInt64 >>> ((32 : Int32) &&& 0x3f).toInt64.toUInt64).toInt64).toInt32)), (.int (p1 ^^^ p4)), (.int (p2 ^^^ (-1 : Int32)))] (.int (0 : Int32)) := Vh77
          have O77 : Ext h0 T77.heap := ⟨Nat.le_trans O76.1 K77.1, fun x c r => K77.2.1 x c (O76.2 x c r) (fun z => by
            have q := (Array.getElem?_eq_some_iff.mp r).1
            simp only [List.mem_cons, List.not_mem_nil, or_false] at z
            rcases z with rfl | rfl
            · exact absurd q (Nat.not_lt.mpr s_b26)
            · exact absurd q (Nat.not_lt.mpr s_b36))⟩
          have V_b21_77 := V_b21_76.keep K77 (ninS (Nat.ne_of_lt lt_b21_b26) (ninS (Nat.ne_of_lt lt_b21_b36) nin0))
          have V_b31_77 := V_b31_76.keep K77 (ninS (Nat.ne_of_gt lt_b26_b31) (ninS (Nat.ne_of_lt lt_b31_b36) nin0))
          have V_b41_77 := V_b41_76.keep K77 (ninS (Nat.ne_of_gt lt_b26_b41) (ninS (Nat.ne_of_gt lt_b36_b41) nin0))
          have V_b42_77 := V_b42_76.keep K77 (ninS (Nat.ne_of_gt lt_b26_b42) (ninS (Nat.ne_of_gt lt_b36_b42) nin0))
          have V_b44_77 := V_b44_76.keep K77 (ninS (Nat.ne_of_gt lt_b26_b44) (ninS (Nat.ne_of_gt lt_b36_b44) nin0))
          have V_b46_77 := V_b46_76.keep K77 (ninS (Nat.ne_of_gt lt_b26_b46) (ninS (Nat.ne_of_gt lt_b36_b46) nin0))
          have V_b48_77 := V_b48_76.keep K77 (ninS (Nat.ne_of_gt lt_b26_b48) (ninS (Nat.ne_of_gt lt_b36_b48) nin0))
          have V_b67_77 := V_b67_76.keep K77 (ninS (Nat.ne_of_gt lt_b26_b67) (ninS (Nat.ne_of_gt lt_b36_b67) nin0))
          have Ex_b21_77 := Ex_b21_76.keep K77
          have Ex_b26_77 := Ex_b26_76.keep K77
          have Ex_b31_77 := Ex_b31_76.keep K77
          have Ex_b36_77 := Ex_b36_76.keep K77
          have Ex_b42_77 := Ex_b42_76.keep K77
          have Ex_b44_77 := Ex_b44_76.keep K77
          have Ex_b46_77 := Ex_b46_76.keep K77
          have Ex_b48_77 := Ex_b48_76.keep K77
          have Ex_b72_77 := Ex_b72_76.keep K77
          have F_counts_b72_77 := F_counts_b72_76.keep K77 (ninS (Nat.ne_of_gt lt_b26_b72) (ninS (Nat.ne_of_gt lt_b36_b72) nin0))
          have F_groups_b72_77 := F_groups_b72_76.keep K77 (ninS (Nat.ne_of_gt lt_b26_b72) (ninS (Nat.ne_of_gt lt_b36_b72) nin0))
          have F_heads_b72_77 := F_heads_b72_76.keep K77 (ninS (Nat.ne_of_gt lt_b26_b72) (ninS (Nat.ne_of_gt lt_b36_b72) nin0))
          have N77' := Fr.app N76 N77
          refine own_st st77 ?_
          show own_Go _ _ _ _ T77 (mkF m 285 #[.val (.int p1), .val (.int p2), .val (.int p3), .val (.int p4), .val (.long q5), .second, .val (.int p6), .val (.int (0 : Int32)), .val (.int (1 : Int32)), .val (.int (2 : Int32)), .val (.int (0 : Int32)), .val (.ref b21), .val (.ref b26), .val (.int (q5.toInt32)), .val (.int (((q5.toUInt64 >>> ((32 : Int32) &&& 0x3f).toInt64.toUInt64).toInt64).toInt32)), .val (.int (p1 ^^^ p4)), .val (.int (p2 ^^^ (-1 : Int32))), .val (.ref b31), .val (.ref b36), .val (.ref b41), .val (.ref b67), .val (.ref b72), .unset] [])
          exact tl01 _ _ _ X77 N77' rfl O77 _ _ _ _ _ _ _ _ _ _ _ _ _ F_counts_b72_77 F_groups_b72_77 F_heads_b72_77 (own_im20 l hw [] b26 b21 (2 : Int32) (0 : Int32) kk26 kk21 p1 p2 p3 p4 T77.heap n0 (Nat.le_trans Z0 O77.1) rfl rfl Vc77 V_b21_77) (own_im20 l hw [] b36 b31 (2 : Int32) (0 : Int32) kk36 kk31 (q5.toInt32) (((q5.toUInt64 >>> ((32 : Int32) &&& 0x3f).toInt64.toUInt64).toInt64).toInt32) (p1 ^^^ p4) (p2 ^^^ (-1 : Int32)) T77.heap n0 (Nat.le_trans Z0 O77.1) rfl rfl Vh77 V_b31_77)
      · show own_Go _ _ _ _ T74 (mkF m 254 #[.val (.int p1), .val (.int p2), .val (.int p3), .val (.int p4), .val (.long q5), .second, .val (.int p6), .val (.int (1 : Int32)), .val (.int fh), .val (.int (2 : Int32)), .val (.int (0 : Int32)), .val (.ref b21), .val (.ref b26), .val (.int (q5.toInt32)), .val (.int (((q5.toUInt64 >>> ((32 : Int32) &&& 0x3f).toInt64.toUInt64).toInt64).toInt32)), .val (.int (p1 ^^^ p4)), .val (.int (p2 ^^^ (-1 : Int32))), .val (.ref b31), .val (.ref b36), .val (.ref b41), .val (.ref b67), .val (.ref b72), .unset] [(.int (1 : Int32))])
        refine own_st (fun _ k => XS.ifNo X74.here hx rfl (hb hby at_254) rfl ((if0 _ _).trans (feq (by decide : ¬ ((1 : Int32) = (0 : Int32)))).1) k) ?_
        refine own_st (fun _ k => XS.aload X74.here hx rfl (hb hby at_257) rfl rfl k) ?_
        refine own_st (fun _ k => XS.aload X74.here hx rfl (hb hby at_259) rfl rfl k) ?_
        obtain ⟨T78, hp78, X78, e78, W78, st78⟩ := putF X74 hx hZ hown (host := "") (Or.inl (own_w48 hw)) Via.refl e74 F_groups_b72_74 Ex_b72_74 (Or.inl (own_w39 hw)) (own_w5 hw) (ty := (.array (.object "java/lang/Object"))) (by decide) rfl rfl (g := (mkF m 261 #[.val (.int p1), .val (.int p2), .val (.int p3), .val (.int p4), .val (.long q5), .second, .val (.int p6), .val (.int (1 : Int32)), .val (.int fh), .val (.int (2 : Int32)), .val (.int (0 : Int32)), .val (.ref b21), .val (.ref b26), .val (.int (q5.toInt32)), .val (.int (((q5.toUInt64 >>> ((32 : Int32) &&& 0x3f).toInt64.toUInt64).toInt64).toInt32)), .val (.int (p1 ^^^ p4)), .val (.int (p2 ^^^ (-1 : Int32))), .val (.ref b31), .val (.ref b36), .val (.ref b41), .val (.ref b67), .val (.ref b72), .unset] [(.ref b67), (.ref b72)])) rfl rfl (hb hby at_261)
        have O78 := own_extw O74 W78 s_b72
        have V_b21_78 := V_b21_74.other W78 (Nat.ne_of_lt lt_b21_b72)
        have V_b26_78 := V_b26_74.other W78 (Nat.ne_of_lt lt_b26_b72)
        have V_b31_78 := V_b31_74.other W78 (Nat.ne_of_lt lt_b31_b72)
        have V_b36_78 := V_b36_74.other W78 (Nat.ne_of_lt lt_b36_b72)
        have V_b41_78 := V_b41_74.other W78 (Nat.ne_of_lt lt_b41_b72)
        have V_b42_78 := V_b42_74.other W78 (Nat.ne_of_lt lt_b42_b72)
        have V_b44_78 := V_b44_74.other W78 (Nat.ne_of_lt lt_b44_b72)
        have V_b46_78 := V_b46_74.other W78 (Nat.ne_of_lt lt_b46_b72)
        have V_b48_78 := V_b48_74.other W78 (Nat.ne_of_lt lt_b48_b72)
        have V_b67_78 := V_b67_74.other W78 (Nat.ne_of_lt lt_b67_b72)
        have Ex_b21_78 := Ex_b21_74.wr W78
        have Ex_b26_78 := Ex_b26_74.wr W78
        have Ex_b31_78 := Ex_b31_74.wr W78
        have Ex_b36_78 := Ex_b36_74.wr W78
        have Ex_b42_78 := Ex_b42_74.wr W78
        have Ex_b44_78 := Ex_b44_74.wr W78
        have Ex_b46_78 := Ex_b46_74.wr W78
        have Ex_b48_78 := Ex_b48_74.wr W78
        have Ex_b72_78 := Ex_b72_74.wr W78
        have F_counts_b72_78 := F_counts_b72_74.other W78 (Or.inr (slot_ne (Or.inl (own_w29 hw)) (Or.inl (own_w39 hw)) (by decide) (t := (.array .int)) (t' := (.array (.object "java/lang/Object"))) (by decide) (by decide)))
        have F_heads_b72_78 := F_heads_b72_74.other W78 (Or.inr (slot_ne (Or.inl (own_w32 hw)) (Or.inl (own_w39 hw)) (by decide) (t := (.array .int)) (t' := (.array (.object "java/lang/Object"))) (by decide) (by decide)))
        have F_groups_b72_78 := F_groups_b72_74.same W78
        have N78 := Fr.snoc X78 N74 g_b72
        refine own_st st78 ?_
        refine own_st (fun _ k => XS.iload X78.here hx rfl (hb hby at_264) rfl k) ?_
        rcases hfh with rfl | rfl
        · show own_Go _ _ _ _ T78 (mkF m 266 #[.val (.int p1), .val (.int p2), .val (.int p3), .val (.int p4), .val (.long q5), .second, .val (.int p6), .val (.int (1 : Int32)), .val (.int (0 : Int32)), .val (.int (2 : Int32)), .val (.int (0 : Int32)), .val (.ref b21), .val (.ref b26), .val (.int (q5.toInt32)), .val (.int (((q5.toUInt64 >>> ((32 : Int32) &&& 0x3f).toInt64.toUInt64).toInt64).toInt32)), .val (.int (p1 ^^^ p4)), .val (.int (p2 ^^^ (-1 : Int32))), .val (.ref b31), .val (.ref b36), .val (.ref b41), .val (.ref b67), .val (.ref b72), .unset] [(.int (0 : Int32))])
          refine own_st (fun _ k => XS.ifYes X78.here hx rfl (pc0 := 266) (pc' := 276) rfl (hb hby at_266) rfl ((if0 _ _).trans (teq (by decide : (0 : Int32) = (0 : Int32))).1) (by decide) (by decide) k) ?_
          refine own_st (fun _ k => XS.aload X78.here hx rfl (hb hby at_276) rfl rfl k) ?_
          refine own_st (fun _ k => XS.iload X78.here hx rfl (hb hby at_278) rfl k) ?_
          refine own_st (fun _ k => XS.iload X78.here hx rfl (hb hby at_280) rfl k) ?_
          obtain ⟨v79, T79, L79, hQ79, X79, st79⟩ := own_callV X78 hx hZ (y := (⟨"com/example/sheaf/sheaf/CountedKeys", "move", "(II)V"⟩ : MethodName)) hown (own_w33 hw) (own_w34 hw) (own_w36 hw) (own_w35 hw) (own_w6 hw) (own_w37 hw) (by decide) (own_mv10 l hw [] b72 b26 b67 b36 (2 : Int32) (0 : Int32) p3 (p1 ^^^ p4) (.ref b46) kk26 kk67 kk36 [(.int p1), (.int p2), (.int p3), (.int p4)] [.null, (.ref b44), (.ref b46), (.ref b48)] [(.int (q5.toInt32)), (.int (((q5.toUInt64 >>> ((32 : Int32) &&& 0x3f).toInt64.toUInt64).toInt64).toInt32)), (.int (p1 ^^^ p4)), (.int (p2 ^^^ (-1 : Int32)))] hp78 n0 (Nat.le_trans Z0 O78.1) (by decide) (by decide) (Nat.le_of_ble_eq_true rfl) g_b26 V_b26_78 rfl (Nat.ne_of_gt lt_b26_b72) F_counts_b72_78 F_groups_b72_78 F_heads_b72_78 (Nat.le_of_ble_eq_true rfl) (Nat.le_of_ble_eq_true rfl) g_b67 V_b67_78 rfl rfl (by obtain ⟨cl', A', q', _⟩ := V_b67_78; exact Sto.ofV A' q' Ov67 (Ins.of_exa Ex_b46_78 (own_w3 hw))) (Nat.ne_of_gt lt_b67_b72) (Nat.ne_of_lt lt_b26_b67)) e78 Ex_b72_78 (g := (mkF m 282 #[.val (.int p1), .val (.int p2), .val (.int p3), .val (.int p4), .val (.long q5), .second, .val (.int p6), .val (.int (1 : Int32)), .val (.int (0 : Int32)), .val (.int (2 : Int32)), .val (.int (0 : Int32)), .val (.ref b21), .val (.ref b26), .val (.int (q5.toInt32)), .val (.int (((q5.toUInt64 >>> ((32 : Int32) &&& 0x3f).toInt64.toUInt64).toInt64).toInt32)), .val (.int (p1 ^^^ p4)), .val (.int (p2 ^^^ (-1 : Int32))), .val (.ref b31), .val (.ref b36), .val (.ref b41), .val (.ref b67), .val (.ref b72), .unset] [(.int (0 : Int32)), (.int (2 : Int32)), (.ref b72)])) rfl (by rw [hml]; rfl) (argsL := [(.int (2 : Int32)), (.int (0 : Int32))]) (rest := []) (lenOf own_pd5 rfl) rfl rfl (W := 0) (Nat.le_of_eq rfl) (hb hby at_282) (by decide) (by decide) (by decide) (by decide)
          obtain ⟨rfl, N79, K79, Vc79, Vg79⟩ := hQ79
          have Vc79 : Arv Z T79.heap b26 kk26 .int 4 [(.int p3), (.int p2), (.int p3), (.int p4)] (.int (0 : Int32)) := Vc79
          have Vg79 : Arv Z T79.heap b67 kk67 (.object "java/lang/Object") 4 [(.ref b46), (.ref b44), .null, (.ref b48)] .null := Vg79
          have O79 : Ext h0 T79.heap := ⟨Nat.le_trans O78.1 K79.1, fun x c r => K79.2.1 x c (O78.2 x c r) (fun z => by
            have q := (Array.getElem?_eq_some_iff.mp r).1
            simp only [List.mem_cons, List.not_mem_nil, or_false] at z
            rcases z with rfl | rfl
            · exact absurd q (Nat.not_lt.mpr s_b26)
            · exact absurd q (Nat.not_lt.mpr s_b67))⟩
          have V_b21_79 := V_b21_78.keep K79 (ninS (Nat.ne_of_lt lt_b21_b26) (ninS (Nat.ne_of_lt lt_b21_b67) nin0))
          have V_b31_79 := V_b31_78.keep K79 (ninS (Nat.ne_of_gt lt_b26_b31) (ninS (Nat.ne_of_lt lt_b31_b67) nin0))
          have V_b36_79 := V_b36_78.keep K79 (ninS (Nat.ne_of_gt lt_b26_b36) (ninS (Nat.ne_of_lt lt_b36_b67) nin0))
          have V_b41_79 := V_b41_78.keep K79 (ninS (Nat.ne_of_gt lt_b26_b41) (ninS (Nat.ne_of_lt lt_b41_b67) nin0))
          have V_b42_79 := V_b42_78.keep K79 (ninS (Nat.ne_of_gt lt_b26_b42) (ninS (Nat.ne_of_lt lt_b42_b67) nin0))
          have V_b44_79 := V_b44_78.keep K79 (ninS (Nat.ne_of_gt lt_b26_b44) (ninS (Nat.ne_of_lt lt_b44_b67) nin0))
          have V_b46_79 := V_b46_78.keep K79 (ninS (Nat.ne_of_gt lt_b26_b46) (ninS (Nat.ne_of_lt lt_b46_b67) nin0))
          have V_b48_79 := V_b48_78.keep K79 (ninS (Nat.ne_of_gt lt_b26_b48) (ninS (Nat.ne_of_lt lt_b48_b67) nin0))
          have Ex_b21_79 := Ex_b21_78.keep K79
          have Ex_b26_79 := Ex_b26_78.keep K79
          have Ex_b31_79 := Ex_b31_78.keep K79
          have Ex_b36_79 := Ex_b36_78.keep K79
          have Ex_b42_79 := Ex_b42_78.keep K79
          have Ex_b44_79 := Ex_b44_78.keep K79
          have Ex_b46_79 := Ex_b46_78.keep K79
          have Ex_b48_79 := Ex_b48_78.keep K79
          have Ex_b72_79 := Ex_b72_78.keep K79
          have F_counts_b72_79 := F_counts_b72_78.keep K79 (ninS (Nat.ne_of_gt lt_b26_b72) (ninS (Nat.ne_of_gt lt_b67_b72) nin0))
          have F_groups_b72_79 := F_groups_b72_78.keep K79 (ninS (Nat.ne_of_gt lt_b26_b72) (ninS (Nat.ne_of_gt lt_b67_b72) nin0))
          have F_heads_b72_79 := F_heads_b72_78.keep K79 (ninS (Nat.ne_of_gt lt_b26_b72) (ninS (Nat.ne_of_gt lt_b67_b72) nin0))
          have N79' := Fr.app N78 N79
          refine own_st st79 ?_
          show own_Go _ _ _ _ T79 (mkF m 285 #[.val (.int p1), .val (.int p2), .val (.int p3), .val (.int p4), .val (.long q5), .second, .val (.int p6), .val (.int (1 : Int32)), .val (.int (0 : Int32)), .val (.int (2 : Int32)), .val (.int (0 : Int32)), .val (.ref b21), .val (.ref b26), .val (.int (q5.toInt32)), .val (.int (((q5.toUInt64 >>> ((32 : Int32) &&& 0x3f).toInt64.toUInt64).toInt64).toInt32)), .val (.int (p1 ^^^ p4)), .val (.int (p2 ^^^ (-1 : Int32))), .val (.ref b31), .val (.ref b36), .val (.ref b41), .val (.ref b67), .val (.ref b72), .unset] [])
          exact tl10 _ _ _ X79 N79' rfl O79 _ _ _ _ _ _ _ _ _ _ _ _ _ F_counts_b72_79 F_groups_b72_79 F_heads_b72_79 (own_im20 l hw [] b26 b21 (2 : Int32) (0 : Int32) kk26 kk21 p1 p2 p3 p4 T79.heap n0 (Nat.le_trans Z0 O79.1) rfl rfl Vc79 V_b21_79) (own_rm20 l hw [] b67 b41 (2 : Int32) (0 : Int32) kk67 kk41 b42 b44 b46 b48 T79.heap n0 (Nat.le_trans Z0 O79.1) rfl rfl Vg79 V_b41_79)
        · show own_Go _ _ _ _ T78 (mkF m 266 #[.val (.int p1), .val (.int p2), .val (.int p3), .val (.int p4), .val (.long q5), .second, .val (.int p6), .val (.int (1 : Int32)), .val (.int (1 : Int32)), .val (.int (2 : Int32)), .val (.int (0 : Int32)), .val (.ref b21), .val (.ref b26), .val (.int (q5.toInt32)), .val (.int (((q5.toUInt64 >>> ((32 : Int32) &&& 0x3f).toInt64.toUInt64).toInt64).toInt32)), .val (.int (p1 ^^^ p4)), .val (.int (p2 ^^^ (-1 : Int32))), .val (.ref b31), .val (.ref b36), .val (.ref b41), .val (.ref b67), .val (.ref b72), .unset] [(.int (1 : Int32))])
          refine own_st (fun _ k => XS.ifNo X78.here hx rfl (hb hby at_266) rfl ((if0 _ _).trans (feq (by decide : ¬ ((1 : Int32) = (0 : Int32)))).1) k) ?_
          refine own_st (fun _ k => XS.aload X78.here hx rfl (hb hby at_269) rfl rfl k) ?_
          refine own_st (fun _ k => XS.aload X78.here hx rfl (hb hby at_271) rfl rfl k) ?_
          obtain ⟨T80, hp80, X80, e80, W80, st80⟩ := putF X78 hx hZ hown (host := "") (Or.inl (own_w31 hw)) Via.refl e78 F_heads_b72_78 Ex_b72_78 (Or.inl (own_w32 hw)) (own_w5 hw) (ty := (.array .int)) (by decide) rfl rfl (g := (mkF m 273 #[.val (.int p1), .val (.int p2), .val (.int p3), .val (.int p4), .val (.long q5), .second, .val (.int p6), .val (.int (1 : Int32)), .val (.int (1 : Int32)), .val (.int (2 : Int32)), .val (.int (0 : Int32)), .val (.ref b21), .val (.ref b26), .val (.int (q5.toInt32)), .val (.int (((q5.toUInt64 >>> ((32 : Int32) &&& 0x3f).toInt64.toUInt64).toInt64).toInt32)), .val (.int (p1 ^^^ p4)), .val (.int (p2 ^^^ (-1 : Int32))), .val (.ref b31), .val (.ref b36), .val (.ref b41), .val (.ref b67), .val (.ref b72), .unset] [(.ref b36), (.ref b72)])) rfl rfl (hb hby at_273)
          have O80 := own_extw O78 W80 s_b72
          have V_b21_80 := V_b21_78.other W80 (Nat.ne_of_lt lt_b21_b72)
          have V_b26_80 := V_b26_78.other W80 (Nat.ne_of_lt lt_b26_b72)
          have V_b31_80 := V_b31_78.other W80 (Nat.ne_of_lt lt_b31_b72)
          have V_b36_80 := V_b36_78.other W80 (Nat.ne_of_lt lt_b36_b72)
          have V_b41_80 := V_b41_78.other W80 (Nat.ne_of_lt lt_b41_b72)
          have V_b42_80 := V_b42_78.other W80 (Nat.ne_of_lt lt_b42_b72)
          have V_b44_80 := V_b44_78.other W80 (Nat.ne_of_lt lt_b44_b72)
          have V_b46_80 := V_b46_78.other W80 (Nat.ne_of_lt lt_b46_b72)
          have V_b48_80 := V_b48_78.other W80 (Nat.ne_of_lt lt_b48_b72)
          have V_b67_80 := V_b67_78.other W80 (Nat.ne_of_lt lt_b67_b72)
          have Ex_b21_80 := Ex_b21_78.wr W80
          have Ex_b26_80 := Ex_b26_78.wr W80
          have Ex_b31_80 := Ex_b31_78.wr W80
          have Ex_b36_80 := Ex_b36_78.wr W80
          have Ex_b42_80 := Ex_b42_78.wr W80
          have Ex_b44_80 := Ex_b44_78.wr W80
          have Ex_b46_80 := Ex_b46_78.wr W80
          have Ex_b48_80 := Ex_b48_78.wr W80
          have Ex_b72_80 := Ex_b72_78.wr W80
          have F_counts_b72_80 := F_counts_b72_78.other W80 (Or.inr (slot_ne (Or.inl (own_w29 hw)) (Or.inl (own_w32 hw)) (by decide) (t := (.array .int)) (t' := (.array .int)) (by decide) (by decide)))
          have F_groups_b72_80 := F_groups_b72_78.other W80 (Or.inr (slot_ne (Or.inl (own_w39 hw)) (Or.inl (own_w32 hw)) (by decide) (t := (.array (.object "java/lang/Object"))) (t' := (.array .int)) (by decide) (by decide)))
          have F_heads_b72_80 := F_heads_b72_78.same W80
          have N80 := Fr.snoc X80 N78 g_b72
          refine own_st st80 ?_
          refine own_st (fun _ k => XS.aload X80.here hx rfl (hb hby at_276) rfl rfl k) ?_
          refine own_st (fun _ k => XS.iload X80.here hx rfl (hb hby at_278) rfl k) ?_
          show own_Go _ _ _ _ T80 (mkF m 280 #[.val (.int p1), .val (.int p2), .val (.int p3), .val (.int p4), .val (.long q5), .second, .val (.int p6), .val (.int (1 : Int32)), .val (.int (1 : Int32)), .val (.int (2 : Int32)), .val (.int (0 : Int32)), .val (.ref b21), .val (.ref b26), .val (.int (q5.toInt32)), .val (.int (((q5.toUInt64 >>> ((32 : Int32) &&& 0x3f).toInt64.toUInt64).toInt64).toInt32)), .val (.int (p1 ^^^ p4)), .val (.int (p2 ^^^ (-1 : Int32))), .val (.ref b31), .val (.ref b36), .val (.ref b41), .val (.ref b67), .val (.ref b72), .unset] [(.int (2 : Int32)), (.ref b72)])
          refine own_st (fun _ k => XS.iload X80.here hx rfl (hb hby at_280) rfl k) ?_
          obtain ⟨v81, T81, L81, hQ81, X81, st81⟩ := own_callV X80 hx hZ (y := (⟨"com/example/sheaf/sheaf/CountedKeys", "move", "(II)V"⟩ : MethodName)) hown (own_w33 hw) (own_w34 hw) (own_w36 hw) (own_w35 hw) (own_w6 hw) (own_w37 hw) (by decide) (own_mv11 l hw [] b72 b26 b67 b36 (2 : Int32) (0 : Int32) p3 (p1 ^^^ p4) (.ref b46) kk26 kk67 kk36 [(.int p1), (.int p2), (.int p3), (.int p4)] [.null, (.ref b44), (.ref b46), (.ref b48)] [(.int (q5.toInt32)), (.int (((q5.toUInt64 >>> ((32 : Int32) &&& 0x3f).toInt64.toUInt64).toInt64).toInt32)), (.int (p1 ^^^ p4)), (.int (p2 ^^^ (-1 : Int32)))] hp80 n0 (Nat.le_trans Z0 O80.1) (by decide) (by decide) (Nat.le_of_ble_eq_true rfl) g_b26 V_b26_80 rfl (Nat.ne_of_gt lt_b26_b72) F_counts_b72_80 F_groups_b72_80 F_heads_b72_80 (Nat.le_of_ble_eq_true rfl) (Nat.le_of_ble_eq_true rfl) g_b67 V_b67_80 rfl rfl (by obtain ⟨cl', A', q', _⟩ := V_b67_80; exact Sto.ofV A' q' Ov67 (Ins.of_exa Ex_b46_80 (own_w3 hw))) (Nat.ne_of_gt lt_b67_b72) (Nat.ne_of_lt lt_b26_b67) (Nat.le_of_ble_eq_true rfl) g_b36 V_b36_80 rfl (Nat.ne_of_gt lt_b36_b72) (Nat.ne_of_lt lt_b26_b36) (Nat.ne_of_gt lt_b36_b67)) e80 Ex_b72_80 (g := (mkF m 282 #[.val (.int p1), .val (.int p2), .val (.int p3), .val (.int p4), .val (.long q5), .second, .val (.int p6), .val (.int (1 : Int32)), .val (.int (1 : Int32)), .val (.int (2 : Int32)), .val (.int (0 : Int32)), .val (.ref b21), .val (.ref b26), .val (.int (q5.toInt32)), .val (.int (((q5.toUInt64 >>> ((32 : Int32) &&& 0x3f).toInt64.toUInt64).toInt64).toInt32)), .val (.int (p1 ^^^ p4)), .val (.int (p2 ^^^ (-1 : Int32))), .val (.ref b31), .val (.ref b36), .val (.ref b41), .val (.ref b67), .val (.ref b72), .unset] [(.int (0 : Int32)), (.int (2 : Int32)), (.ref b72)])) rfl (by rw [hml]; rfl) (argsL := [(.int (2 : Int32)), (.int (0 : Int32))]) (rest := []) (lenOf own_pd5 rfl) rfl rfl (W := 0) (Nat.le_of_eq rfl) (hb hby at_282) (by decide) (by decide) (by decide) (by decide)
          obtain ⟨rfl, N81, K81, Vc81, Vg81, Vh81⟩ := hQ81
          have Vc81 : Arv Z T81.heap b26 kk26 .int 4 [(.int p3), (.int p2), (.int p3), (.int p4)] (.int (0 : Int32)) := Vc81
          have Vg81 : Arv Z T81.heap b67 kk67 (.object "java/lang/Object") 4 [(.ref b46), (.ref b44), .null, (.ref b48)] .null := Vg81
          have Vh81 : Arv Z T81.heap b36 kk36 .int 4 [(.int (p1 ^^^ p4)), (.int (((q5.toUInt64 >>> ((32 : Int32) &&& 0x3f).toInt64.toUInt64).toInt64).toInt32)), (.int (p1 ^^^ p4)), (.int (p2 ^^^ (-1 : Int32)))] (.int (0 : Int32)) := Vh81
          have O81 : Ext h0 T81.heap := ⟨Nat.le_trans O80.1 K81.1, fun x c r => K81.2.1 x c (O80.2 x c r) (fun z => by
            have q := (Array.getElem?_eq_some_iff.mp r).1
            simp only [List.mem_cons, List.not_mem_nil, or_false] at z
            rcases z with rfl | rfl | rfl
            · exact absurd q (Nat.not_lt.mpr s_b26)
            · exact absurd q (Nat.not_lt.mpr s_b67)
            · exact absurd q (Nat.not_lt.mpr s_b36))⟩
          have V_b21_81 := V_b21_80.keep K81 (ninS (Nat.ne_of_lt lt_b21_b26) (ninS (Nat.ne_of_lt lt_b21_b67) (ninS (Nat.ne_of_lt lt_b21_b36) nin0)))
          have V_b31_81 := V_b31_80.keep K81 (ninS (Nat.ne_of_gt lt_b26_b31) (ninS (Nat.ne_of_lt lt_b31_b67) (ninS (Nat.ne_of_lt lt_b31_b36) nin0)))
          have V_b41_81 := V_b41_80.keep K81 (ninS (Nat.ne_of_gt lt_b26_b41) (ninS (Nat.ne_of_lt lt_b41_b67) (ninS (Nat.ne_of_gt lt_b36_b41) nin0)))
          have V_b42_81 := V_b42_80.keep K81 (ninS (Nat.ne_of_gt lt_b26_b42) (ninS (Nat.ne_of_lt lt_b42_b67) (ninS (Nat.ne_of_gt lt_b36_b42) nin0)))
          have V_b44_81 := V_b44_80.keep K81 (ninS (Nat.ne_of_gt lt_b26_b44) (ninS (Nat.ne_of_lt lt_b44_b67) (ninS (Nat.ne_of_gt lt_b36_b44) nin0)))
          have V_b46_81 := V_b46_80.keep K81 (ninS (Nat.ne_of_gt lt_b26_b46) (ninS (Nat.ne_of_lt lt_b46_b67) (ninS (Nat.ne_of_gt lt_b36_b46) nin0)))
          have V_b48_81 := V_b48_80.keep K81 (ninS (Nat.ne_of_gt lt_b26_b48) (ninS (Nat.ne_of_lt lt_b48_b67) (ninS (Nat.ne_of_gt lt_b36_b48) nin0)))
          have Ex_b21_81 := Ex_b21_80.keep K81
          have Ex_b26_81 := Ex_b26_80.keep K81
          have Ex_b31_81 := Ex_b31_80.keep K81
          have Ex_b36_81 := Ex_b36_80.keep K81
          have Ex_b42_81 := Ex_b42_80.keep K81
          have Ex_b44_81 := Ex_b44_80.keep K81
          have Ex_b46_81 := Ex_b46_80.keep K81
          have Ex_b48_81 := Ex_b48_80.keep K81
          have Ex_b72_81 := Ex_b72_80.keep K81
          have F_counts_b72_81 := F_counts_b72_80.keep K81 (ninS (Nat.ne_of_gt lt_b26_b72) (ninS (Nat.ne_of_gt lt_b67_b72) (ninS (Nat.ne_of_gt lt_b36_b72) nin0)))
          have F_groups_b72_81 := F_groups_b72_80.keep K81 (ninS (Nat.ne_of_gt lt_b26_b72) (ninS (Nat.ne_of_gt lt_b67_b72) (ninS (Nat.ne_of_gt lt_b36_b72) nin0)))
          have F_heads_b72_81 := F_heads_b72_80.keep K81 (ninS (Nat.ne_of_gt lt_b26_b72) (ninS (Nat.ne_of_gt lt_b67_b72) (ninS (Nat.ne_of_gt lt_b36_b72) nin0)))
          have N81' := Fr.app N80 N81
          refine own_st st81 ?_
          show own_Go _ _ _ _ T81 (mkF m 285 #[.val (.int p1), .val (.int p2), .val (.int p3), .val (.int p4), .val (.long q5), .second, .val (.int p6), .val (.int (1 : Int32)), .val (.int (1 : Int32)), .val (.int (2 : Int32)), .val (.int (0 : Int32)), .val (.ref b21), .val (.ref b26), .val (.int (q5.toInt32)), .val (.int (((q5.toUInt64 >>> ((32 : Int32) &&& 0x3f).toInt64.toUInt64).toInt64).toInt32)), .val (.int (p1 ^^^ p4)), .val (.int (p2 ^^^ (-1 : Int32))), .val (.ref b31), .val (.ref b36), .val (.ref b41), .val (.ref b67), .val (.ref b72), .unset] [])
          exact tl11 _ _ _ X81 N81' rfl O81 _ _ _ _ _ _ _ _ _ _ _ _ _ F_counts_b72_81 F_groups_b72_81 F_heads_b72_81 (own_im20 l hw [] b26 b21 (2 : Int32) (0 : Int32) kk26 kk21 p1 p2 p3 p4 T81.heap n0 (Nat.le_trans Z0 O81.1) rfl rfl Vc81 V_b21_81) (own_rm20 l hw [] b67 b41 (2 : Int32) (0 : Int32) kk67 kk41 b42 b44 b46 b48 T81.heap n0 (Nat.le_trans Z0 O81.1) rfl rfl Vg81 V_b41_81) (own_im20 l hw [] b36 b31 (2 : Int32) (0 : Int32) kk36 kk31 (q5.toInt32) (((q5.toUInt64 >>> ((32 : Int32) &&& 0x3f).toInt64.toUInt64).toInt64).toInt32) (p1 ^^^ p4) (p2 ^^^ (-1 : Int32)) T81.heap n0 (Nat.le_trans Z0 O81.1) rfl rfl Vh81 V_b31_81)
    · show own_Go _ _ _ _ T49 (mkF m 196 #[.val (.int p1), .val (.int p2), .val (.int p3), .val (.int p4), .val (.long q5), .second, .val (.int p6), .val (.int fg), .val (.int fh), .val (.int (2 : Int32)), .val (.int (1 : Int32)), .val (.ref b21), .val (.ref b26), .val (.int (q5.toInt32)), .val (.int (((q5.toUInt64 >>> ((32 : Int32) &&& 0x3f).toInt64.toUInt64).toInt64).toInt32)), .val (.int (p1 ^^^ p4)), .val (.int (p2 ^^^ (-1 : Int32))), .val (.ref b31), .val (.ref b36), .val (.ref b41), .unset, .unset, .unset] [])
      refine own_st (fun _ k => XS.aload X49.here hx rfl (hb hby at_196) rfl rfl k) ?_
      refine own_st (fun _ k => XS.iload X49.here hx rfl (hb hby at_198) rfl k) ?_
      refine own_st (fun _ k => XS.aconstNull X49.here hx rfl (hb hby at_200) k) ?_
      obtain ⟨T82, hp82, X82, e82, W82, Va82, st82⟩ := own_stR X49 hx hZ e49 Va49 rfl rfl (by decide) 1 (by decide) (Nat.le_of_ble_eq_true rfl) (fun _ _ _ => Or.inl rfl) (g := (mkF m 201 #[.val (.int p1), .val (.int p2), .val (.int p3), .val (.int p4), .val (.long q5), .second, .val (.int p6), .val (.int fg), .val (.int fh), .val (.int (2 : Int32)), .val (.int (1 : Int32)), .val (.ref b21), .val (.ref b26), .val (.int (q5.toInt32)), .val (.int (((q5.toUInt64 >>> ((32 : Int32) &&& 0x3f).toInt64.toUInt64).toInt64).toInt32)), .val (.int (p1 ^^^ p4)), .val (.int (p2 ^^^ (-1 : Int32))), .val (.ref b31), .val (.ref b36), .val (.ref b41), .unset, .unset, .unset] [.null, (.int (1 : Int32)), (.ref b41)])) rfl rfl (hb hby at_201)
      have O82 := own_extw O49 W82 s_b41
      have V_b21_82 := V_b21_49.other W82 (Nat.ne_of_lt lt_b21_b41)
      have V_b26_82 := V_b26_49.other W82 (Nat.ne_of_lt lt_b26_b41)
      have V_b31_82 := V_b31_49.other W82 (Nat.ne_of_lt lt_b31_b41)
      have V_b36_82 := V_b36_49.other W82 (Nat.ne_of_lt lt_b36_b41)
      have V_b42_82 := V_b42_49.other W82 (Nat.ne_of_gt lt_b41_b42)
      have V_b44_82 := V_b44_49.other W82 (Nat.ne_of_gt lt_b41_b44)
      have V_b46_82 := V_b46_49.other W82 (Nat.ne_of_gt lt_b41_b46)
      have V_b48_82 := V_b48_49.other W82 (Nat.ne_of_gt lt_b41_b48)
      have Ex_b21_82 := Ex_b21_49.wr W82
      have Ex_b26_82 := Ex_b26_49.wr W82
      have Ex_b31_82 := Ex_b31_49.wr W82
      have Ex_b36_82 := Ex_b36_49.wr W82
      have Ex_b42_82 := Ex_b42_49.wr W82
      have Ex_b44_82 := Ex_b44_49.wr W82
      have Ex_b46_82 := Ex_b46_49.wr W82
      have Ex_b48_82 := Ex_b48_49.wr W82
      have Va82 : Arv Z hp82 b41 kk41 (.object "java/lang/Object") (4 : Int32) [(.ref b42), .null, (.ref b46), (.ref b48)] .null := Va82
      have N82 := Fr.snoc X82 N49 g_b41
      refine own_st st82 ?_
      refine own_st (fun _ k => XS.iconst X82.here hx rfl (hb hby at_202) k) ?_
      obtain ⟨T83, hp83, kk83, X83, e83, Et83, A83, Ov83, st83⟩ := newR X82 hx hZ hown (own_w1 hw) (own_w2 hw) e82 (g := (mkF m 203 #[.val (.int p1), .val (.int p2), .val (.int p3), .val (.int p4), .val (.long q5), .second, .val (.int p6), .val (.int fg), .val (.int fh), .val (.int (2 : Int32)), .val (.int (1 : Int32)), .val (.ref b21), .val (.ref b26), .val (.int (q5.toInt32)), .val (.int (((q5.toUInt64 >>> ((32 : Int32) &&& 0x3f).toInt64.toUInt64).toInt64).toInt32)), .val (.int (p1 ^^^ p4)), .val (.int (p2 ^^^ (-1 : Int32))), .val (.ref b31), .val (.ref b36), .val (.ref b41), .unset, .unset, .unset] [(.int (4 : Int32))])) rfl (hb hby at_203) rfl (by decide) (cap := 4) (by decide) (by decide) (by decide) (by decide)
      obtain ⟨b83, g83⟩ : ∃ z, z = hp82.size := ⟨_, rfl⟩
      rw [← g83] at A83 st83
      have s_b83 : h0.size ≤ b83 := Nat.le_trans O82.1 (Nat.le_of_eq g83.symm)
      have g_b83 : n0 ≤ b83 := Nat.le_trans Z0 s_b83
      have lt_b21_b83 : b21 < b83 := Nat.lt_of_lt_of_le V_b21_82.lt (Nat.le_of_eq g83.symm)
      have lt_b26_b83 : b26 < b83 := Nat.lt_of_lt_of_le V_b26_82.lt (Nat.le_of_eq g83.symm)
      have lt_b31_b83 : b31 < b83 := Nat.lt_of_lt_of_le V_b31_82.lt (Nat.le_of_eq g83.symm)
      have lt_b36_b83 : b36 < b83 := Nat.lt_of_lt_of_le V_b36_82.lt (Nat.le_of_eq g83.symm)
      have lt_b41_b83 : b41 < b83 := Nat.lt_of_lt_of_le Va82.lt (Nat.le_of_eq g83.symm)
      have lt_b42_b83 : b42 < b83 := Nat.lt_of_lt_of_le V_b42_82.lt (Nat.le_of_eq g83.symm)
      have lt_b44_b83 : b44 < b83 := Nat.lt_of_lt_of_le V_b44_82.lt (Nat.le_of_eq g83.symm)
      have lt_b46_b83 : b46 < b83 := Nat.lt_of_lt_of_le V_b46_82.lt (Nat.le_of_eq g83.symm)
      have lt_b48_b83 : b48 < b83 := Nat.lt_of_lt_of_le V_b48_82.lt (Nat.le_of_eq g83.symm)
      have O83 := own_extt O82 Et83
      have V_b21_83 := V_b21_82.ext Et83
      have V_b26_83 := V_b26_82.ext Et83
      have V_b31_83 := V_b31_82.ext Et83
      have V_b36_83 := V_b36_82.ext Et83
      have V_b41_83 := Va82.ext Et83
      have V_b42_83 := V_b42_82.ext Et83
      have V_b44_83 := V_b44_82.ext Et83
      have V_b46_83 := V_b46_82.ext Et83
      have V_b48_83 := V_b48_82.ext Et83
      have Ex_b21_83 := Ex_b21_82.ext Et83
      have Ex_b26_83 := Ex_b26_82.ext Et83
      have Ex_b31_83 := Ex_b31_82.ext Et83
      have Ex_b36_83 := Ex_b36_82.ext Et83
      have Ex_b42_83 := Ex_b42_82.ext Et83
      have Ex_b44_83 := Ex_b44_82.ext Et83
      have Ex_b46_83 := Ex_b46_82.ext Et83
      have Ex_b48_83 := Ex_b48_82.ext Et83
      have Va83 : Arv Z hp83 b83 kk83 (.object "java/lang/Object") (4 : Int32) [.null, .null, .null, .null] .null := (Arv.new A83 (by decide)).pad (pad_rep [] .null 4)
      refine own_st st83 ?_
      show own_Go _ _ _ _ T83 (mkF m 206 #[.val (.int p1), .val (.int p2), .val (.int p3), .val (.int p4), .val (.long q5), .second, .val (.int p6), .val (.int fg), .val (.int fh), .val (.int (2 : Int32)), .val (.int (1 : Int32)), .val (.ref b21), .val (.ref b26), .val (.int (q5.toInt32)), .val (.int (((q5.toUInt64 >>> ((32 : Int32) &&& 0x3f).toInt64.toUInt64).toInt64).toInt32)), .val (.int (p1 ^^^ p4)), .val (.int (p2 ^^^ (-1 : Int32))), .val (.ref b31), .val (.ref b36), .val (.ref b41), .unset, .unset, .unset] [(.ref b83)])
      refine own_st (fun _ k => XS.dup X83.here hx rfl (hb hby at_206) rfl rfl k) ?_
      refine own_st (fun _ k => XS.iconst X83.here hx rfl (hb hby at_207) k) ?_
      refine own_st (fun _ k => XS.aload X83.here hx rfl (hb hby at_208) rfl rfl k) ?_
      refine own_st (fun _ k => XS.iconst X83.here hx rfl (hb hby at_210) k) ?_
      refine own_st (own_ldR X83 hx hZ e83 V_b41_83 rfl (j := (0 : Int32)) (by decide) (v := (.ref b42)) rfl (g := (mkF m 211 #[.val (.int p1), .val (.int p2), .val (.int p3), .val (.int p4), .val (.long q5), .second, .val (.int p6), .val (.int fg), .val (.int fh), .val (.int (2 : Int32)), .val (.int (1 : Int32)), .val (.ref b21), .val (.ref b26), .val (.int (q5.toInt32)), .val (.int (((q5.toUInt64 >>> ((32 : Int32) &&& 0x3f).toInt64.toUInt64).toInt64).toInt32)), .val (.int (p1 ^^^ p4)), .val (.int (p2 ^^^ (-1 : Int32))), .val (.ref b31), .val (.ref b36), .val (.ref b41), .unset, .unset, .unset] [(.int (0 : Int32)), (.ref b41), (.int (0 : Int32)), (.ref b83), (.ref b83)])) rfl rfl (hb hby at_211)) ?_
      obtain ⟨T84, hp84, X84, e84, W84, Va84, st84⟩ := own_stR X83 hx hZ e83 Va83 rfl rfl (by decide) 0 (by decide) (Nat.le_of_ble_eq_true rfl) (fun cl Ar q => Sto.ofV Ar q Ov83 (Ins.of_exa Ex_b42_83 (own_w3 hw))) (g := (mkF m 212 #[.val (.int p1), .val (.int p2), .val (.int p3), .val (.int p4), .val (.long q5), .second, .val (.int p6), .val (.int fg), .val (.int fh), .val (.int (2 : Int32)), .val (.int (1 : Int32)), .val (.ref b21), .val (.ref b26), .val (.int (q5.toInt32)), .val (.int (((q5.toUInt64 >>> ((32 : Int32) &&& 0x3f).toInt64.toUInt64).toInt64).toInt32)), .val (.int (p1 ^^^ p4)), .val (.int (p2 ^^^ (-1 : Int32))), .val (.ref b31), .val (.ref b36), .val (.ref b41), .unset, .unset, .unset] [(.ref b42), (.int (0 : Int32)), (.ref b83), (.ref b83)])) rfl rfl (hb hby at_212)
      have O84 := own_extw O83 W84 s_b83
      have V_b21_84 := V_b21_83.other W84 (Nat.ne_of_lt lt_b21_b83)
      have V_b26_84 := V_b26_83.other W84 (Nat.ne_of_lt lt_b26_b83)
      have V_b31_84 := V_b31_83.other W84 (Nat.ne_of_lt lt_b31_b83)
      have V_b36_84 := V_b36_83.other W84 (Nat.ne_of_lt lt_b36_b83)
      have V_b41_84 := V_b41_83.other W84 (Nat.ne_of_lt lt_b41_b83)
      have V_b42_84 := V_b42_83.other W84 (Nat.ne_of_lt lt_b42_b83)
      have V_b44_84 := V_b44_83.other W84 (Nat.ne_of_lt lt_b44_b83)
      have V_b46_84 := V_b46_83.other W84 (Nat.ne_of_lt lt_b46_b83)
      have V_b48_84 := V_b48_83.other W84 (Nat.ne_of_lt lt_b48_b83)
      have Ex_b21_84 := Ex_b21_83.wr W84
      have Ex_b26_84 := Ex_b26_83.wr W84
      have Ex_b31_84 := Ex_b31_83.wr W84
      have Ex_b36_84 := Ex_b36_83.wr W84
      have Ex_b42_84 := Ex_b42_83.wr W84
      have Ex_b44_84 := Ex_b44_83.wr W84
      have Ex_b46_84 := Ex_b46_83.wr W84
      have Ex_b48_84 := Ex_b48_83.wr W84
      have Va84 : Arv Z hp84 b83 kk83 (.object "java/lang/Object") (4 : Int32) [(.ref b42), .null, .null, .null] .null := Va84
      have N84 := Fr.snoc X84 N82 g_b83
      refine own_st st84 ?_
      show own_Go _ _ _ _ T84 (mkF m 213 #[.val (.int p1), .val (.int p2), .val (.int p3), .val (.int p4), .val (.long q5), .second, .val (.int p6), .val (.int fg), .val (.int fh), .val (.int (2 : Int32)), .val (.int (1 : Int32)), .val (.ref b21), .val (.ref b26), .val (.int (q5.toInt32)), .val (.int (((q5.toUInt64 >>> ((32 : Int32) &&& 0x3f).toInt64.toUInt64).toInt64).toInt32)), .val (.int (p1 ^^^ p4)), .val (.int (p2 ^^^ (-1 : Int32))), .val (.ref b31), .val (.ref b36), .val (.ref b41), .unset, .unset, .unset] [(.ref b83)])
      refine own_st (fun _ k => XS.dup X84.here hx rfl (hb hby at_213) rfl rfl k) ?_
      refine own_st (fun _ k => XS.iconst X84.here hx rfl (hb hby at_214) k) ?_
      refine own_st (fun _ k => XS.aload X84.here hx rfl (hb hby at_215) rfl rfl k) ?_
      refine own_st (fun _ k => XS.iconst X84.here hx rfl (hb hby at_217) k) ?_
      refine own_st (own_ldR X84 hx hZ e84 V_b41_84 rfl (j := (1 : Int32)) (by decide) (v := .null) rfl (g := (mkF m 218 #[.val (.int p1), .val (.int p2), .val (.int p3), .val (.int p4), .val (.long q5), .second, .val (.int p6), .val (.int fg), .val (.int fh), .val (.int (2 : Int32)), .val (.int (1 : Int32)), .val (.ref b21), .val (.ref b26), .val (.int (q5.toInt32)), .val (.int (((q5.toUInt64 >>> ((32 : Int32) &&& 0x3f).toInt64.toUInt64).toInt64).toInt32)), .val (.int (p1 ^^^ p4)), .val (.int (p2 ^^^ (-1 : Int32))), .val (.ref b31), .val (.ref b36), .val (.ref b41), .unset, .unset, .unset] [(.int (1 : Int32)), (.ref b41), (.int (1 : Int32)), (.ref b83), (.ref b83)])) rfl rfl (hb hby at_218)) ?_
      obtain ⟨T85, hp85, X85, e85, W85, Va85, st85⟩ := own_stR X84 hx hZ e84 Va84 rfl rfl (by decide) 1 (by decide) (Nat.le_of_ble_eq_true rfl) (fun _ _ _ => Or.inl rfl) (g := (mkF m 219 #[.val (.int p1), .val (.int p2), .val (.int p3), .val (.int p4), .val (.long q5), .second, .val (.int p6), .val (.int fg), .val (.int fh), .val (.int (2 : Int32)), .val (.int (1 : Int32)), .val (.ref b21), .val (.ref b26), .val (.int (q5.toInt32)), .val (.int (((q5.toUInt64 >>> ((32 : Int32) &&& 0x3f).toInt64.toUInt64).toInt64).toInt32)), .val (.int (p1 ^^^ p4)), .val (.int (p2 ^^^ (-1 : Int32))), .val (.ref b31), .val (.ref b36), .val (.ref b41), .unset, .unset, .unset] [.null, (.int (1 : Int32)), (.ref b83), (.ref b83)])) rfl rfl (hb hby at_219)
      have O85 := own_extw O84 W85 s_b83
      have V_b21_85 := V_b21_84.other W85 (Nat.ne_of_lt lt_b21_b83)
      have V_b26_85 := V_b26_84.other W85 (Nat.ne_of_lt lt_b26_b83)
      have V_b31_85 := V_b31_84.other W85 (Nat.ne_of_lt lt_b31_b83)
      have V_b36_85 := V_b36_84.other W85 (Nat.ne_of_lt lt_b36_b83)
      have V_b41_85 := V_b41_84.other W85 (Nat.ne_of_lt lt_b41_b83)
      have V_b42_85 := V_b42_84.other W85 (Nat.ne_of_lt lt_b42_b83)
      have V_b44_85 := V_b44_84.other W85 (Nat.ne_of_lt lt_b44_b83)
      have V_b46_85 := V_b46_84.other W85 (Nat.ne_of_lt lt_b46_b83)
      have V_b48_85 := V_b48_84.other W85 (Nat.ne_of_lt lt_b48_b83)
      have Ex_b21_85 := Ex_b21_84.wr W85
      have Ex_b26_85 := Ex_b26_84.wr W85
      have Ex_b31_85 := Ex_b31_84.wr W85
      have Ex_b36_85 := Ex_b36_84.wr W85
      have Ex_b42_85 := Ex_b42_84.wr W85
      have Ex_b44_85 := Ex_b44_84.wr W85
      have Ex_b46_85 := Ex_b46_84.wr W85
      have Ex_b48_85 := Ex_b48_84.wr W85
      have Va85 : Arv Z hp85 b83 kk83 (.object "java/lang/Object") (4 : Int32) [(.ref b42), .null, .null, .null] .null := Va85
      have N85 := Fr.snoc X85 N84 g_b83
      refine own_st st85 ?_
      show own_Go _ _ _ _ T85 (mkF m 220 #[.val (.int p1), .val (.int p2), .val (.int p3), .val (.int p4), .val (.long q5), .second, .val (.int p6), .val (.int fg), .val (.int fh), .val (.int (2 : Int32)), .val (.int (1 : Int32)), .val (.ref b21), .val (.ref b26), .val (.int (q5.toInt32)), .val (.int (((q5.toUInt64 >>> ((32 : Int32) &&& 0x3f).toInt64.toUInt64).toInt64).toInt32)), .val (.int (p1 ^^^ p4)), .val (.int (p2 ^^^ (-1 : Int32))), .val (.ref b31), .val (.ref b36), .val (.ref b41), .unset, .unset, .unset] [(.ref b83)])
      refine own_st (fun _ k => XS.dup X85.here hx rfl (hb hby at_220) rfl rfl k) ?_
      refine own_st (fun _ k => XS.iconst X85.here hx rfl (hb hby at_221) k) ?_
      refine own_st (fun _ k => XS.aload X85.here hx rfl (hb hby at_222) rfl rfl k) ?_
      refine own_st (fun _ k => XS.iconst X85.here hx rfl (hb hby at_224) k) ?_
      refine own_st (own_ldR X85 hx hZ e85 V_b41_85 rfl (j := (2 : Int32)) (by decide) (v := (.ref b46)) rfl (g := (mkF m 225 #[.val (.int p1), .val (.int p2), .val (.int p3), .val (.int p4), .val (.long q5), .second, .val (.int p6), .val (.int fg), .val (.int fh), .val (.int (2 : Int32)), .val (.int (1 : Int32)), .val (.ref b21), .val (.ref b26), .val (.int (q5.toInt32)), .val (.int (((q5.toUInt64 >>> ((32 : Int32) &&& 0x3f).toInt64.toUInt64).toInt64).toInt32)), .val (.int (p1 ^^^ p4)), .val (.int (p2 ^^^ (-1 : Int32))), .val (.ref b31), .val (.ref b36), .val (.ref b41), .unset, .unset, .unset] [(.int (2 : Int32)), (.ref b41), (.int (2 : Int32)), (.ref b83), (.ref b83)])) rfl rfl (hb hby at_225)) ?_
      obtain ⟨T86, hp86, X86, e86, W86, Va86, st86⟩ := own_stR X85 hx hZ e85 Va85 rfl rfl (by decide) 2 (by decide) (Nat.le_of_ble_eq_true rfl) (fun cl Ar q => Sto.ofV Ar q Ov83 (Ins.of_exa Ex_b46_85 (own_w3 hw))) (g := (mkF m 226 #[.val (.int p1), .val (.int p2), .val (.int p3), .val (.int p4), .val (.long q5), .second, .val (.int p6), .val (.int fg), .val (.int fh), .val (.int (2 : Int32)), .val (.int (1 : Int32)), .val (.ref b21), .val (.ref b26), .val (.int (q5.toInt32)), .val (.int (((q5.toUInt64 >>> ((32 : Int32) &&& 0x3f).toInt64.toUInt64).toInt64).toInt32)), .val (.int (p1 ^^^ p4)), .val (.int (p2 ^^^ (-1 : Int32))), .val (.ref b31), .val (.ref b36), .val (.ref b41), .unset, .unset, .unset] [(.ref b46), (.int (2 : Int32)), (.ref b83), (.ref b83)])) rfl rfl (hb hby at_226)
      have O86 := own_extw O85 W86 s_b83
      have V_b21_86 := V_b21_85.other W86 (Nat.ne_of_lt lt_b21_b83)
      have V_b26_86 := V_b26_85.other W86 (Nat.ne_of_lt lt_b26_b83)
      have V_b31_86 := V_b31_85.other W86 (Nat.ne_of_lt lt_b31_b83)
      have V_b36_86 := V_b36_85.other W86 (Nat.ne_of_lt lt_b36_b83)
      have V_b41_86 := V_b41_85.other W86 (Nat.ne_of_lt lt_b41_b83)
      have V_b42_86 := V_b42_85.other W86 (Nat.ne_of_lt lt_b42_b83)
      have V_b44_86 := V_b44_85.other W86 (Nat.ne_of_lt lt_b44_b83)
      have V_b46_86 := V_b46_85.other W86 (Nat.ne_of_lt lt_b46_b83)
      have V_b48_86 := V_b48_85.other W86 (Nat.ne_of_lt lt_b48_b83)
      have Ex_b21_86 := Ex_b21_85.wr W86
      have Ex_b26_86 := Ex_b26_85.wr W86
      have Ex_b31_86 := Ex_b31_85.wr W86
      have Ex_b36_86 := Ex_b36_85.wr W86
      have Ex_b42_86 := Ex_b42_85.wr W86
      have Ex_b44_86 := Ex_b44_85.wr W86
      have Ex_b46_86 := Ex_b46_85.wr W86
      have Ex_b48_86 := Ex_b48_85.wr W86
      have Va86 : Arv Z hp86 b83 kk83 (.object "java/lang/Object") (4 : Int32) [(.ref b42), .null, (.ref b46), .null] .null := Va86
      have N86 := Fr.snoc X86 N85 g_b83
      refine own_st st86 ?_
      show own_Go _ _ _ _ T86 (mkF m 227 #[.val (.int p1), .val (.int p2), .val (.int p3), .val (.int p4), .val (.long q5), .second, .val (.int p6), .val (.int fg), .val (.int fh), .val (.int (2 : Int32)), .val (.int (1 : Int32)), .val (.ref b21), .val (.ref b26), .val (.int (q5.toInt32)), .val (.int (((q5.toUInt64 >>> ((32 : Int32) &&& 0x3f).toInt64.toUInt64).toInt64).toInt32)), .val (.int (p1 ^^^ p4)), .val (.int (p2 ^^^ (-1 : Int32))), .val (.ref b31), .val (.ref b36), .val (.ref b41), .unset, .unset, .unset] [(.ref b83)])
      refine own_st (fun _ k => XS.dup X86.here hx rfl (hb hby at_227) rfl rfl k) ?_
      refine own_st (fun _ k => XS.iconst X86.here hx rfl (hb hby at_228) k) ?_
      refine own_st (fun _ k => XS.aload X86.here hx rfl (hb hby at_229) rfl rfl k) ?_
      refine own_st (fun _ k => XS.iconst X86.here hx rfl (hb hby at_231) k) ?_
      refine own_st (own_ldR X86 hx hZ e86 V_b41_86 rfl (j := (3 : Int32)) (by decide) (v := (.ref b48)) rfl (g := (mkF m 232 #[.val (.int p1), .val (.int p2), .val (.int p3), .val (.int p4), .val (.long q5), .second, .val (.int p6), .val (.int fg), .val (.int fh), .val (.int (2 : Int32)), .val (.int (1 : Int32)), .val (.ref b21), .val (.ref b26), .val (.int (q5.toInt32)), .val (.int (((q5.toUInt64 >>> ((32 : Int32) &&& 0x3f).toInt64.toUInt64).toInt64).toInt32)), .val (.int (p1 ^^^ p4)), .val (.int (p2 ^^^ (-1 : Int32))), .val (.ref b31), .val (.ref b36), .val (.ref b41), .unset, .unset, .unset] [(.int (3 : Int32)), (.ref b41), (.int (3 : Int32)), (.ref b83), (.ref b83)])) rfl rfl (hb hby at_232)) ?_
      obtain ⟨T87, hp87, X87, e87, W87, Va87, st87⟩ := own_stR X86 hx hZ e86 Va86 rfl rfl (by decide) 3 (by decide) (Nat.le_of_ble_eq_true rfl) (fun cl Ar q => Sto.ofV Ar q Ov83 (Ins.of_exa Ex_b48_86 (own_w3 hw))) (g := (mkF m 233 #[.val (.int p1), .val (.int p2), .val (.int p3), .val (.int p4), .val (.long q5), .second, .val (.int p6), .val (.int fg), .val (.int fh), .val (.int (2 : Int32)), .val (.int (1 : Int32)), .val (.ref b21), .val (.ref b26), .val (.int (q5.toInt32)), .val (.int (((q5.toUInt64 >>> ((32 : Int32) &&& 0x3f).toInt64.toUInt64).toInt64).toInt32)), .val (.int (p1 ^^^ p4)), .val (.int (p2 ^^^ (-1 : Int32))), .val (.ref b31), .val (.ref b36), .val (.ref b41), .unset, .unset, .unset] [(.ref b48), (.int (3 : Int32)), (.ref b83), (.ref b83)])) rfl rfl (hb hby at_233)
      have O87 := own_extw O86 W87 s_b83
      have V_b21_87 := V_b21_86.other W87 (Nat.ne_of_lt lt_b21_b83)
      have V_b26_87 := V_b26_86.other W87 (Nat.ne_of_lt lt_b26_b83)
      have V_b31_87 := V_b31_86.other W87 (Nat.ne_of_lt lt_b31_b83)
      have V_b36_87 := V_b36_86.other W87 (Nat.ne_of_lt lt_b36_b83)
      have V_b41_87 := V_b41_86.other W87 (Nat.ne_of_lt lt_b41_b83)
      have V_b42_87 := V_b42_86.other W87 (Nat.ne_of_lt lt_b42_b83)
      have V_b44_87 := V_b44_86.other W87 (Nat.ne_of_lt lt_b44_b83)
      have V_b46_87 := V_b46_86.other W87 (Nat.ne_of_lt lt_b46_b83)
      have V_b48_87 := V_b48_86.other W87 (Nat.ne_of_lt lt_b48_b83)
      have Ex_b21_87 := Ex_b21_86.wr W87
      have Ex_b26_87 := Ex_b26_86.wr W87
      have Ex_b31_87 := Ex_b31_86.wr W87
      have Ex_b36_87 := Ex_b36_86.wr W87
      have Ex_b42_87 := Ex_b42_86.wr W87
      have Ex_b44_87 := Ex_b44_86.wr W87
      have Ex_b46_87 := Ex_b46_86.wr W87
      have Ex_b48_87 := Ex_b48_86.wr W87
      have Va87 : Arv Z hp87 b83 kk83 (.object "java/lang/Object") (4 : Int32) [(.ref b42), .null, (.ref b46), (.ref b48)] .null := Va87
      have N87 := Fr.snoc X87 N86 g_b83
      refine own_st st87 ?_
      show own_Go _ _ _ _ T87 (mkF m 234 #[.val (.int p1), .val (.int p2), .val (.int p3), .val (.int p4), .val (.long q5), .second, .val (.int p6), .val (.int fg), .val (.int fh), .val (.int (2 : Int32)), .val (.int (1 : Int32)), .val (.ref b21), .val (.ref b26), .val (.int (q5.toInt32)), .val (.int (((q5.toUInt64 >>> ((32 : Int32) &&& 0x3f).toInt64.toUInt64).toInt64).toInt32)), .val (.int (p1 ^^^ p4)), .val (.int (p2 ^^^ (-1 : Int32))), .val (.ref b31), .val (.ref b36), .val (.ref b41), .unset, .unset, .unset] [(.ref b83)])
      refine own_st (fun _ k => XS.astore X87.here hx rfl (hb hby at_234) rfl rfl (l' := #[.val (.int p1), .val (.int p2), .val (.int p3), .val (.int p4), .val (.long q5), .second, .val (.int p6), .val (.int fg), .val (.int fh), .val (.int (2 : Int32)), .val (.int (1 : Int32)), .val (.ref b21), .val (.ref b26), .val (.int (q5.toInt32)), .val (.int (((q5.toUInt64 >>> ((32 : Int32) &&& 0x3f).toInt64.toUInt64).toInt64).toInt32)), .val (.int (p1 ^^^ p4)), .val (.int (p2 ^^^ (-1 : Int32))), .val (.ref b31), .val (.ref b36), .val (.ref b41), .val (.ref b83), .unset, .unset]) rfl k) ?_
      obtain ⟨T88, hp88, X88, e88, Et88, A88, D88, -, st88⟩ := newO X87 hx hZ hown (own_w4 hw) (own_w5 hw) (own_w6 hw) e87 (g := (mkF m 236 #[.val (.int p1), .val (.int p2), .val (.int p3), .val (.int p4), .val (.long q5), .second, .val (.int p6), .val (.int fg), .val (.int fh), .val (.int (2 : Int32)), .val (.int (1 : Int32)), .val (.ref b21), .val (.ref b26), .val (.int (q5.toInt32)), .val (.int (((q5.toUInt64 >>> ((32 : Int32) &&& 0x3f).toInt64.toUInt64).toInt64).toInt32)), .val (.int (p1 ^^^ p4)), .val (.int (p2 ^^^ (-1 : Int32))), .val (.ref b31), .val (.ref b36), .val (.ref b41), .val (.ref b83), .unset, .unset] [])) rfl (hb hby at_236) (by decide) (by decide)
      obtain ⟨b88, g88⟩ : ∃ z, z = hp87.size := ⟨_, rfl⟩
      rw [← g88] at A88 D88 st88
      have s_b88 : h0.size ≤ b88 := Nat.le_trans O87.1 (Nat.le_of_eq g88.symm)
      have g_b88 : n0 ≤ b88 := Nat.le_trans Z0 s_b88
      have lt_b21_b88 : b21 < b88 := Nat.lt_of_lt_of_le V_b21_87.lt (Nat.le_of_eq g88.symm)
      have lt_b26_b88 : b26 < b88 := Nat.lt_of_lt_of_le V_b26_87.lt (Nat.le_of_eq g88.symm)
      have lt_b31_b88 : b31 < b88 := Nat.lt_of_lt_of_le V_b31_87.lt (Nat.le_of_eq g88.symm)
      have lt_b36_b88 : b36 < b88 := Nat.lt_of_lt_of_le V_b36_87.lt (Nat.le_of_eq g88.symm)
      have lt_b41_b88 : b41 < b88 := Nat.lt_of_lt_of_le V_b41_87.lt (Nat.le_of_eq g88.symm)
      have lt_b42_b88 : b42 < b88 := Nat.lt_of_lt_of_le V_b42_87.lt (Nat.le_of_eq g88.symm)
      have lt_b44_b88 : b44 < b88 := Nat.lt_of_lt_of_le V_b44_87.lt (Nat.le_of_eq g88.symm)
      have lt_b46_b88 : b46 < b88 := Nat.lt_of_lt_of_le V_b46_87.lt (Nat.le_of_eq g88.symm)
      have lt_b48_b88 : b48 < b88 := Nat.lt_of_lt_of_le V_b48_87.lt (Nat.le_of_eq g88.symm)
      have lt_b83_b88 : b83 < b88 := Nat.lt_of_lt_of_le Va87.lt (Nat.le_of_eq g88.symm)
      have O88 := own_extt O87 Et88
      have V_b21_88 := V_b21_87.ext Et88
      have V_b26_88 := V_b26_87.ext Et88
      have V_b31_88 := V_b31_87.ext Et88
      have V_b36_88 := V_b36_87.ext Et88
      have V_b41_88 := V_b41_87.ext Et88
      have V_b42_88 := V_b42_87.ext Et88
      have V_b44_88 := V_b44_87.ext Et88
      have V_b46_88 := V_b46_87.ext Et88
      have V_b48_88 := V_b48_87.ext Et88
      have V_b83_88 := Va87.ext Et88
      have Ex_b21_88 := Ex_b21_87.ext Et88
      have Ex_b26_88 := Ex_b26_87.ext Et88
      have Ex_b31_88 := Ex_b31_87.ext Et88
      have Ex_b36_88 := Ex_b36_87.ext Et88
      have Ex_b42_88 := Ex_b42_87.ext Et88
      have Ex_b44_88 := Ex_b44_87.ext Et88
      have Ex_b46_88 := Ex_b46_87.ext Et88
      have Ex_b48_88 := Ex_b48_87.ext Et88
      have F_keys_b88 : Fld Z hp88 b88 "com/example/sheaf/sheaf/CompactHash" "keys" "[Ljava/lang/Object;" .null := D88 (Or.inl (own_w21 hw)) (ty := (.array (.object "java/lang/Object"))) (by decide)
      have F_index_b88 : Fld Z hp88 b88 "com/example/sheaf/sheaf/CompactHash" "index" "[I" .null := D88 (Or.inl (own_w25 hw)) (ty := (.array .int)) (by decide)
      have F_counts_b88 : Fld Z hp88 b88 "com/example/sheaf/sheaf/CountedKeys" "counts" "[I" .null := D88 (Or.inl (own_w29 hw)) (ty := (.array .int)) (by decide)
      have F_heads_b88 : Fld Z hp88 b88 "com/example/sheaf/sheaf/CountedKeys" "heads" "[I" .null := D88 (Or.inl (own_w32 hw)) (ty := (.array .int)) (by decide)
      have F_groups_b88 : Fld Z hp88 b88 "com/example/sheaf/sheaf/CountedKeys" "groups" "[Ljava/lang/Object;" .null := D88 (Or.inl (own_w39 hw)) (ty := (.array (.object "java/lang/Object"))) (by decide)
      refine own_st st88 ?_
      refine own_st (fun _ k => XS.dup X88.here hx rfl (hb hby at_239) rfl rfl k) ?_
      obtain ⟨v89, T89, L89, hQ89, X89, st89⟩ := own_callI X88 hx hZ (y := (⟨"com/example/sheaf/sheaf/CountedKeys", "<init>", "()V"⟩ : MethodName)) rfl hown (own_w7 hw) (own_w8 hw) (own_w6 hw) (own_w9 hw) (by decide) (own_ck l hw [] b88 wo wi hp88 n0 (Nat.le_trans Z0 O88.1) (So.ext O88) (Si.ext O88) g_b88 A88 F_keys_b88 F_index_b88 F_counts_b88 F_groups_b88 F_heads_b88) e88 (g := (mkF m 240 #[.val (.int p1), .val (.int p2), .val (.int p3), .val (.int p4), .val (.long q5), .second, .val (.int p6), .val (.int fg), .val (.int fh), .val (.int (2 : Int32)), .val (.int (1 : Int32)), .val (.ref b21), .val (.ref b26), .val (.int (q5.toInt32)), .val (.int (((q5.toUInt64 >>> ((32 : Int32) &&& 0x3f).toInt64.toUInt64).toInt64).toInt32)), .val (.int (p1 ^^^ p4)), .val (.int (p2 ^^^ (-1 : Int32))), .val (.ref b31), .val (.ref b36), .val (.ref b41), .val (.ref b83), .unset, .unset] [(.ref b88), (.ref b88)])) rfl (by rw [hml]; rfl) (argsL := []) (rest := [(.ref b88)]) (lenOf own_pd0 rfl) rfl rfl (W := 1) (Nat.le_of_eq rfl) (hb hby at_240) (by decide) (by decide) (by decide) (by decide)
      obtain ⟨rfl, N89, K89, Fc89, Fg89, Fh89⟩ := hQ89
      have O89 := own_extk O88 K89 s_b88
      have V_b21_89 := V_b21_88.keep K89 (ninS (Nat.ne_of_lt lt_b21_b88) nin0)
      have V_b26_89 := V_b26_88.keep K89 (ninS (Nat.ne_of_lt lt_b26_b88) nin0)
      have V_b31_89 := V_b31_88.keep K89 (ninS (Nat.ne_of_lt lt_b31_b88) nin0)
      have V_b36_89 := V_b36_88.keep K89 (ninS (Nat.ne_of_lt lt_b36_b88) nin0)
      have V_b41_89 := V_b41_88.keep K89 (ninS (Nat.ne_of_lt lt_b41_b88) nin0)
      have V_b42_89 := V_b42_88.keep K89 (ninS (Nat.ne_of_lt lt_b42_b88) nin0)
      have V_b44_89 := V_b44_88.keep K89 (ninS (Nat.ne_of_lt lt_b44_b88) nin0)
      have V_b46_89 := V_b46_88.keep K89 (ninS (Nat.ne_of_lt lt_b46_b88) nin0)
      have V_b48_89 := V_b48_88.keep K89 (ninS (Nat.ne_of_lt lt_b48_b88) nin0)
      have V_b83_89 := V_b83_88.keep K89 (ninS (Nat.ne_of_lt lt_b83_b88) nin0)
      have Ex_b21_89 := Ex_b21_88.keep K89
      have Ex_b26_89 := Ex_b26_88.keep K89
      have Ex_b31_89 := Ex_b31_88.keep K89
      have Ex_b36_89 := Ex_b36_88.keep K89
      have Ex_b42_89 := Ex_b42_88.keep K89
      have Ex_b44_89 := Ex_b44_88.keep K89
      have Ex_b46_89 := Ex_b46_88.keep K89
      have Ex_b48_89 := Ex_b48_88.keep K89
      have Ex_b88_89 := A88.keep K89
      have N89' := Fr.app N87 N89
      refine own_st st89 ?_
      refine own_st (fun _ k => XS.astore X89.here hx rfl (hb hby at_243) rfl rfl (l' := #[.val (.int p1), .val (.int p2), .val (.int p3), .val (.int p4), .val (.long q5), .second, .val (.int p6), .val (.int fg), .val (.int fh), .val (.int (2 : Int32)), .val (.int (1 : Int32)), .val (.ref b21), .val (.ref b26), .val (.int (q5.toInt32)), .val (.int (((q5.toUInt64 >>> ((32 : Int32) &&& 0x3f).toInt64.toUInt64).toInt64).toInt32)), .val (.int (p1 ^^^ p4)), .val (.int (p2 ^^^ (-1 : Int32))), .val (.ref b31), .val (.ref b36), .val (.ref b41), .val (.ref b83), .val (.ref b88), .unset]) rfl k) ?_
      refine own_st (fun _ k => XS.aload X89.here hx rfl (hb hby at_245) rfl rfl k) ?_
      show own_Go _ _ _ _ T89 (mkF m 247 #[.val (.int p1), .val (.int p2), .val (.int p3), .val (.int p4), .val (.long q5), .second, .val (.int p6), .val (.int fg), .val (.int fh), .val (.int (2 : Int32)), .val (.int (1 : Int32)), .val (.ref b21), .val (.ref b26), .val (.int (q5.toInt32)), .val (.int (((q5.toUInt64 >>> ((32 : Int32) &&& 0x3f).toInt64.toUInt64).toInt64).toInt32)), .val (.int (p1 ^^^ p4)), .val (.int (p2 ^^^ (-1 : Int32))), .val (.ref b31), .val (.ref b36), .val (.ref b41), .val (.ref b83), .val (.ref b88), .unset] [(.ref b88)])
      refine own_st (fun _ k => XS.aload X89.here hx rfl (hb hby at_247) rfl rfl k) ?_
      obtain ⟨T90, hp90, X90, e90, W90, st90⟩ := putF X89 hx hZ hown (host := "") (Or.inl (own_w30 hw)) Via.refl rfl Fc89 Ex_b88_89 (Or.inl (own_w29 hw)) (own_w5 hw) (ty := (.array .int)) (by decide) rfl rfl (g := (mkF m 249 #[.val (.int p1), .val (.int p2), .val (.int p3), .val (.int p4), .val (.long q5), .second, .val (.int p6), .val (.int fg), .val (.int fh), .val (.int (2 : Int32)), .val (.int (1 : Int32)), .val (.ref b21), .val (.ref b26), .val (.int (q5.toInt32)), .val (.int (((q5.toUInt64 >>> ((32 : Int32) &&& 0x3f).toInt64.toUInt64).toInt64).toInt32)), .val (.int (p1 ^^^ p4)), .val (.int (p2 ^^^ (-1 : Int32))), .val (.ref b31), .val (.ref b36), .val (.ref b41), .val (.ref b83), .val (.ref b88), .unset] [(.ref b26), (.ref b88)])) rfl rfl (hb hby at_249)
      have O90 := own_extw O89 W90 s_b88
      have V_b21_90 := V_b21_89.other W90 (Nat.ne_of_lt lt_b21_b88)
      have V_b26_90 := V_b26_89.other W90 (Nat.ne_of_lt lt_b26_b88)
      have V_b31_90 := V_b31_89.other W90 (Nat.ne_of_lt lt_b31_b88)
      have V_b36_90 := V_b36_89.other W90 (Nat.ne_of_lt lt_b36_b88)
      have V_b41_90 := V_b41_89.other W90 (Nat.ne_of_lt lt_b41_b88)
      have V_b42_90 := V_b42_89.other W90 (Nat.ne_of_lt lt_b42_b88)
      have V_b44_90 := V_b44_89.other W90 (Nat.ne_of_lt lt_b44_b88)
      have V_b46_90 := V_b46_89.other W90 (Nat.ne_of_lt lt_b46_b88)
      have V_b48_90 := V_b48_89.other W90 (Nat.ne_of_lt lt_b48_b88)
      have V_b83_90 := V_b83_89.other W90 (Nat.ne_of_lt lt_b83_b88)
      have Ex_b21_90 := Ex_b21_89.wr W90
      have Ex_b26_90 := Ex_b26_89.wr W90
      have Ex_b31_90 := Ex_b31_89.wr W90
      have Ex_b36_90 := Ex_b36_89.wr W90
      have Ex_b42_90 := Ex_b42_89.wr W90
      have Ex_b44_90 := Ex_b44_89.wr W90
      have Ex_b46_90 := Ex_b46_89.wr W90
      have Ex_b48_90 := Ex_b48_89.wr W90
      have Ex_b88_90 := Ex_b88_89.wr W90
      have F_groups_b88_90 := Fg89.other W90 (Or.inr (slot_ne (Or.inl (own_w39 hw)) (Or.inl (own_w29 hw)) (by decide) (t := (.array (.object "java/lang/Object"))) (t' := (.array .int)) (by decide) (by decide)))
      have F_heads_b88_90 := Fh89.other W90 (Or.inr (slot_ne (Or.inl (own_w32 hw)) (Or.inl (own_w29 hw)) (by decide) (t := (.array .int)) (t' := (.array .int)) (by decide) (by decide)))
      have F_counts_b88_90 := Fc89.same W90
      have N90 := Fr.snoc X90 N89' g_b88
      refine own_st st90 ?_
      refine own_st (fun _ k => XS.iload X90.here hx rfl (hb hby at_252) rfl k) ?_
      rcases hfg with rfl | rfl
      · show own_Go _ _ _ _ T90 (mkF m 254 #[.val (.int p1), .val (.int p2), .val (.int p3), .val (.int p4), .val (.long q5), .second, .val (.int p6), .val (.int (0 : Int32)), .val (.int fh), .val (.int (2 : Int32)), .val (.int (1 : Int32)), .val (.ref b21), .val (.ref b26), .val (.int (q5.toInt32)), .val (.int (((q5.toUInt64 >>> ((32 : Int32) &&& 0x3f).toInt64.toUInt64).toInt64).toInt32)), .val (.int (p1 ^^^ p4)), .val (.int (p2 ^^^ (-1 : Int32))), .val (.ref b31), .val (.ref b36), .val (.ref b41), .val (.ref b83), .val (.ref b88), .unset] [(.int (0 : Int32))])
        refine own_st (fun _ k => XS.ifYes X90.here hx rfl (pc0 := 254) (pc' := 264) rfl (hb hby at_254) rfl ((if0 _ _).trans (teq (by decide : (0 : Int32) = (0 : Int32))).1) (by decide) (by decide) k) ?_
        refine own_st (fun _ k => XS.iload X90.here hx rfl (hb hby at_264) rfl k) ?_
        rcases hfh with rfl | rfl
        · show own_Go _ _ _ _ T90 (mkF m 266 #[.val (.int p1), .val (.int p2), .val (.int p3), .val (.int p4), .val (.long q5), .second, .val (.int p6), .val (.int (0 : Int32)), .val (.int (0 : Int32)), .val (.int (2 : Int32)), .val (.int (1 : Int32)), .val (.ref b21), .val (.ref b26), .val (.int (q5.toInt32)), .val (.int (((q5.toUInt64 >>> ((32 : Int32) &&& 0x3f).toInt64.toUInt64).toInt64).toInt32)), .val (.int (p1 ^^^ p4)), .val (.int (p2 ^^^ (-1 : Int32))), .val (.ref b31), .val (.ref b36), .val (.ref b41), .val (.ref b83), .val (.ref b88), .unset] [(.int (0 : Int32))])
          refine own_st (fun _ k => XS.ifYes X90.here hx rfl (pc0 := 266) (pc' := 276) rfl (hb hby at_266) rfl ((if0 _ _).trans (teq (by decide : (0 : Int32) = (0 : Int32))).1) (by decide) (by decide) k) ?_
          refine own_st (fun _ k => XS.aload X90.here hx rfl (hb hby at_276) rfl rfl k) ?_
          refine own_st (fun _ k => XS.iload X90.here hx rfl (hb hby at_278) rfl k) ?_
          refine own_st (fun _ k => XS.iload X90.here hx rfl (hb hby at_280) rfl k) ?_
          obtain ⟨v91, T91, L91, hQ91, X91, st91⟩ := own_callV X90 hx hZ (y := (⟨"com/example/sheaf/sheaf/CountedKeys", "move", "(II)V"⟩ : MethodName)) hown (own_w33 hw) (own_w34 hw) (own_w36 hw) (own_w35 hw) (own_w6 hw) (own_w37 hw) (by decide) (own_mv00 l hw [] b88 b26 b83 b36 (2 : Int32) (1 : Int32) p3 (p1 ^^^ p4) (.ref b46) kk26 kk83 kk36 [(.int p1), (.int p2), (.int p3), (.int p4)] [(.ref b42), .null, (.ref b46), (.ref b48)] [(.int (q5.toInt32)), (.int (((q5.toUInt64 >>> ((32 : Int32) &&& 0x3f).toInt64.toUInt64).toInt64).toInt32)), (.int (p1 ^^^ p4)), (.int (p2 ^^^ (-1 : Int32)))] hp90 n0 (Nat.le_trans Z0 O90.1) (by decide) (by decide) (Nat.le_of_ble_eq_true rfl) g_b26 V_b26_90 rfl (Nat.ne_of_gt lt_b26_b88) F_counts_b88_90 F_groups_b88_90 F_heads_b88_90) e90 Ex_b88_90 (g := (mkF m 282 #[.val (.int p1), .val (.int p2), .val (.int p3), .val (.int p4), .val (.long q5), .second, .val (.int p6), .val (.int (0 : Int32)), .val (.int (0 : Int32)), .val (.int (2 : Int32)), .val (.int (1 : Int32)), .val (.ref b21), .val (.ref b26), .val (.int (q5.toInt32)), .val (.int (((q5.toUInt64 >>> ((32 : Int32) &&& 0x3f).toInt64.toUInt64).toInt64).toInt32)), .val (.int (p1 ^^^ p4)), .val (.int (p2 ^^^ (-1 : Int32))), .val (.ref b31), .val (.ref b36), .val (.ref b41), .val (.ref b83), .val (.ref b88), .unset] [(.int (1 : Int32)), (.int (2 : Int32)), (.ref b88)])) rfl (by rw [hml]; rfl) (argsL := [(.int (2 : Int32)), (.int (1 : Int32))]) (rest := []) (lenOf own_pd5 rfl) rfl rfl (W := 0) (Nat.le_of_eq rfl) (hb hby at_282) (by decide) (by decide) (by decide) (by decide)
          obtain ⟨rfl, N91, K91, Vc91⟩ := hQ91
          have Vc91 : Arv Z T91.heap b26 kk26 .int 4 [(.int p1), (.int p3), (.int p3), (.int p4)] (.int (0 : Int32)) := Vc91
          have O91 : Ext h0 T91.heap := ⟨Nat.le_trans O90.1 K91.1, fun x c r => K91.2.1 x c (O90.2 x c r) (fun z => by
            have q := (Array.getElem?_eq_some_iff.mp r).1
            simp only [List.mem_cons, List.not_mem_nil, or_false] at z
            rcases z with rfl
            exact absurd q (Nat.not_lt.mpr s_b26))⟩
          have V_b21_91 := V_b21_90.keep K91 (ninS (Nat.ne_of_lt lt_b21_b26) nin0)
          have V_b31_91 := V_b31_90.keep K91 (ninS (Nat.ne_of_gt lt_b26_b31) nin0)
          have V_b36_91 := V_b36_90.keep K91 (ninS (Nat.ne_of_gt lt_b26_b36) nin0)
          have V_b41_91 := V_b41_90.keep K91 (ninS (Nat.ne_of_gt lt_b26_b41) nin0)
          have V_b42_91 := V_b42_90.keep K91 (ninS (Nat.ne_of_gt lt_b26_b42) nin0)
          have V_b44_91 := V_b44_90.keep K91 (ninS (Nat.ne_of_gt lt_b26_b44) nin0)
          have V_b46_91 := V_b46_90.keep K91 (ninS (Nat.ne_of_gt lt_b26_b46) nin0)
          have V_b48_91 := V_b48_90.keep K91 (ninS (Nat.ne_of_gt lt_b26_b48) nin0)
          have V_b83_91 := V_b83_90.keep K91 (ninS (Nat.ne_of_gt lt_b26_b83) nin0)
          have Ex_b21_91 := Ex_b21_90.keep K91
          have Ex_b26_91 := Ex_b26_90.keep K91
          have Ex_b31_91 := Ex_b31_90.keep K91
          have Ex_b36_91 := Ex_b36_90.keep K91
          have Ex_b42_91 := Ex_b42_90.keep K91
          have Ex_b44_91 := Ex_b44_90.keep K91
          have Ex_b46_91 := Ex_b46_90.keep K91
          have Ex_b48_91 := Ex_b48_90.keep K91
          have Ex_b88_91 := Ex_b88_90.keep K91
          have F_counts_b88_91 := F_counts_b88_90.keep K91 (ninS (Nat.ne_of_gt lt_b26_b88) nin0)
          have F_groups_b88_91 := F_groups_b88_90.keep K91 (ninS (Nat.ne_of_gt lt_b26_b88) nin0)
          have F_heads_b88_91 := F_heads_b88_90.keep K91 (ninS (Nat.ne_of_gt lt_b26_b88) nin0)
          have N91' := Fr.app N90 N91
          refine own_st st91 ?_
          show own_Go _ _ _ _ T91 (mkF m 285 #[.val (.int p1), .val (.int p2), .val (.int p3), .val (.int p4), .val (.long q5), .second, .val (.int p6), .val (.int (0 : Int32)), .val (.int (0 : Int32)), .val (.int (2 : Int32)), .val (.int (1 : Int32)), .val (.ref b21), .val (.ref b26), .val (.int (q5.toInt32)), .val (.int (((q5.toUInt64 >>> ((32 : Int32) &&& 0x3f).toInt64.toUInt64).toInt64).toInt32)), .val (.int (p1 ^^^ p4)), .val (.int (p2 ^^^ (-1 : Int32))), .val (.ref b31), .val (.ref b36), .val (.ref b41), .val (.ref b83), .val (.ref b88), .unset] [])
          exact tl00 _ _ _ X91 N91' rfl O91 _ _ _ _ _ _ _ _ _ _ _ _ _ F_counts_b88_91 F_groups_b88_91 F_heads_b88_91 (own_im21 l hw [] b26 b21 (2 : Int32) (1 : Int32) kk26 kk21 p1 p2 p3 p4 T91.heap n0 (Nat.le_trans Z0 O91.1) rfl rfl Vc91 V_b21_91)
        · show own_Go _ _ _ _ T90 (mkF m 266 #[.val (.int p1), .val (.int p2), .val (.int p3), .val (.int p4), .val (.long q5), .second, .val (.int p6), .val (.int (0 : Int32)), .val (.int (1 : Int32)), .val (.int (2 : Int32)), .val (.int (1 : Int32)), .val (.ref b21), .val (.ref b26), .val (.int (q5.toInt32)), .val (.int (((q5.toUInt64 >>> ((32 : Int32) &&& 0x3f).toInt64.toUInt64).toInt64).toInt32)), .val (.int (p1 ^^^ p4)), .val (.int (p2 ^^^ (-1 : Int32))), .val (.ref b31), .val (.ref b36), .val (.ref b41), .val (.ref b83), .val (.ref b88), .unset] [(.int (1 : Int32))])
          refine own_st (fun _ k => XS.ifNo X90.here hx rfl (hb hby at_266) rfl ((if0 _ _).trans (feq (by decide : ¬ ((1 : Int32) = (0 : Int32)))).1) k) ?_
          refine own_st (fun _ k => XS.aload X90.here hx rfl (hb hby at_269) rfl rfl k) ?_
          refine own_st (fun _ k => XS.aload X90.here hx rfl (hb hby at_271) rfl rfl k) ?_
          obtain ⟨T92, hp92, X92, e92, W92, st92⟩ := putF X90 hx hZ hown (host := "") (Or.inl (own_w31 hw)) Via.refl e90 F_heads_b88_90 Ex_b88_90 (Or.inl (own_w32 hw)) (own_w5 hw) (ty := (.array .int)) (by decide) rfl rfl (g := (mkF m 273 #[.val (.int p1), .val (.int p2), .val (.int p3), .val (.int p4), .val (.long q5), .second, .val (.int p6), .val (.int (0 : Int32)), .val (.int (1 : Int32)), .val (.int (2 : Int32)), .val (.int (1 : Int32)), .val (.ref b21), .val (.ref b26), .val (.int (q5.toInt32)), .val (.int (((q5.toUInt64 >>> ((32 : Int32) &&& 0x3f).toInt64.toUInt64).toInt64).toInt32)), .val (.int (p1 ^^^ p4)), .val (.int (p2 ^^^ (-1 : Int32))), .val (.ref b31), .val (.ref b36), .val (.ref b41), .val (.ref b83), .val (.ref b88), .unset] [(.ref b36), (.ref b88)])) rfl rfl (hb hby at_273)
          have O92 := own_extw O90 W92 s_b88
          have V_b21_92 := V_b21_90.other W92 (Nat.ne_of_lt lt_b21_b88)
          have V_b26_92 := V_b26_90.other W92 (Nat.ne_of_lt lt_b26_b88)
          have V_b31_92 := V_b31_90.other W92 (Nat.ne_of_lt lt_b31_b88)
          have V_b36_92 := V_b36_90.other W92 (Nat.ne_of_lt lt_b36_b88)
          have V_b41_92 := V_b41_90.other W92 (Nat.ne_of_lt lt_b41_b88)
          have V_b42_92 := V_b42_90.other W92 (Nat.ne_of_lt lt_b42_b88)
          have V_b44_92 := V_b44_90.other W92 (Nat.ne_of_lt lt_b44_b88)
          have V_b46_92 := V_b46_90.other W92 (Nat.ne_of_lt lt_b46_b88)
          have V_b48_92 := V_b48_90.other W92 (Nat.ne_of_lt lt_b48_b88)
          have V_b83_92 := V_b83_90.other W92 (Nat.ne_of_lt lt_b83_b88)
          have Ex_b21_92 := Ex_b21_90.wr W92
          have Ex_b26_92 := Ex_b26_90.wr W92
          have Ex_b31_92 := Ex_b31_90.wr W92
          have Ex_b36_92 := Ex_b36_90.wr W92
          have Ex_b42_92 := Ex_b42_90.wr W92
          have Ex_b44_92 := Ex_b44_90.wr W92
          have Ex_b46_92 := Ex_b46_90.wr W92
          have Ex_b48_92 := Ex_b48_90.wr W92
          have Ex_b88_92 := Ex_b88_90.wr W92
          have F_counts_b88_92 := F_counts_b88_90.other W92 (Or.inr (slot_ne (Or.inl (own_w29 hw)) (Or.inl (own_w32 hw)) (by decide) (t := (.array .int)) (t' := (.array .int)) (by decide) (by decide)))
          have F_groups_b88_92 := F_groups_b88_90.other W92 (Or.inr (slot_ne (Or.inl (own_w39 hw)) (Or.inl (own_w32 hw)) (by decide) (t := (.array (.object "java/lang/Object"))) (t' := (.array .int)) (by decide) (by decide)))
          have F_heads_b88_92 := F_heads_b88_90.same W92
          have N92 := Fr.snoc X92 N90 g_b88
          refine own_st st92 ?_
          refine own_st (fun _ k => XS.aload X92.here hx rfl (hb hby at_276) rfl rfl k) ?_
          refine own_st (fun _ k => XS.iload X92.here hx rfl (hb hby at_278) rfl k) ?_
          show own_Go _ _ _ _ T92 (mkF m 280 #[.val (.int p1), .val (.int p2), .val (.int p3), .val (.int p4), .val (.long q5), .second, .val (.int p6), .val (.int (0 : Int32)), .val (.int (1 : Int32)), .val (.int (2 : Int32)), .val (.int (1 : Int32)), .val (.ref b21), .val (.ref b26), .val (.int (q5.toInt32)), .val (.int (((q5.toUInt64 >>> ((32 : Int32) &&& 0x3f).toInt64.toUInt64).toInt64).toInt32)), .val (.int (p1 ^^^ p4)), .val (.int (p2 ^^^ (-1 : Int32))), .val (.ref b31), .val (.ref b36), .val (.ref b41), .val (.ref b83), .val (.ref b88), .unset] [(.int (2 : Int32)), (.ref b88)])
          refine own_st (fun _ k => XS.iload X92.here hx rfl (hb hby at_280) rfl k) ?_
          obtain ⟨v93, T93, L93, hQ93, X93, st93⟩ := own_callV X92 hx hZ (y := (⟨"com/example/sheaf/sheaf/CountedKeys", "move", "(II)V"⟩ : MethodName)) hown (own_w33 hw) (own_w34 hw) (own_w36 hw) (own_w35 hw) (own_w6 hw) (own_w37 hw) (by decide) (own_mv01 l hw [] b88 b26 b83 b36 (2 : Int32) (1 : Int32) p3 (p1 ^^^ p4) (.ref b46) kk26 kk83 kk36 [(.int p1), (.int p2), (.int p3), (.int p4)] [(.ref b42), .null, (.ref b46), (.ref b48)] [(.int (q5.toInt32)), (.int (((q5.toUInt64 >>> ((32 : Int32) &&& 0x3f).toInt64.toUInt64).toInt64).toInt32)), (.int (p1 ^^^ p4)), (.int (p2 ^^^ (-1 : Int32)))] hp92 n0 (Nat.le_trans Z0 O92.1) (by decide) (by decide) (Nat.le_of_ble_eq_true rfl) g_b26 V_b26_92 rfl (Nat.ne_of_gt lt_b26_b88) F_counts_b88_92 F_groups_b88_92 F_heads_b88_92 (Nat.le_of_ble_eq_true rfl) g_b36 V_b36_92 rfl (Nat.ne_of_gt lt_b36_b88) (Nat.ne_of_lt lt_b26_b36)) e92 Ex_b88_92 (g := (mkF m 282 #[.val (.int p1), .val (.int p2), .val (.int p3), .val (.int p4), .val (.long q5), .second, .val (.int p6), .val (.int (0 : Int32)), .val (.int (1 : Int32)), .val (.int (2 : Int32)), .val (.int (1 : Int32)), .val (.ref b21), .val (.ref b26), .val (.int (q5.toInt32)), .val (.int (((q5.toUInt64 >>> ((32 : Int32) &&& 0x3f).toInt64.toUInt64).toInt64).toInt32)), .val (.int (p1 ^^^ p4)), .val (.int (p2 ^^^ (-1 : Int32))), .val (.ref b31), .val (.ref b36), .val (.ref b41), .val (.ref b83), .val (.ref b88), .unset] [(.int (1 : Int32)), (.int (2 : Int32)), (.ref b88)])) rfl (by rw [hml]; rfl) (argsL := [(.int (2 : Int32)), (.int (1 : Int32))]) (rest := []) (lenOf own_pd5 rfl) rfl rfl (W := 0) (Nat.le_of_eq rfl) (hb hby at_282) (by decide) (by decide) (by decide) (by decide)
          obtain ⟨rfl, N93, K93, Vc93, Vh93⟩ := hQ93
          have Vc93 : Arv Z T93.heap b26 kk26 .int 4 [(.int p1), (.int p3), (.int p3), (.int p4)] (.int (0 : Int32)) := Vc93
          have Vh93 : Arv Z T93.heap b36 kk36 .int 4 [(.int (q5.toInt32)), (.int (p1 ^^^ p4)), (.int (p1 ^^^ p4)), (.int (p2 ^^^ (-1 : Int32)))] (.int (0 : Int32)) := Vh93
          have O93 : Ext h0 T93.heap := ⟨Nat.le_trans O92.1 K93.1, fun x c r => K93.2.1 x c (O92.2 x c r) (fun z => by
            have q := (Array.getElem?_eq_some_iff.mp r).1
            simp only [List.mem_cons, List.not_mem_nil, or_false] at z
            rcases z with rfl | rfl
            · exact absurd q (Nat.not_lt.mpr s_b26)
            · exact absurd q (Nat.not_lt.mpr s_b36))⟩
          have V_b21_93 := V_b21_92.keep K93 (ninS (Nat.ne_of_lt lt_b21_b26) (ninS (Nat.ne_of_lt lt_b21_b36) nin0))
          have V_b31_93 := V_b31_92.keep K93 (ninS (Nat.ne_of_gt lt_b26_b31) (ninS (Nat.ne_of_lt lt_b31_b36) nin0))
          have V_b41_93 := V_b41_92.keep K93 (ninS (Nat.ne_of_gt lt_b26_b41) (ninS (Nat.ne_of_gt lt_b36_b41) nin0))
          have V_b42_93 := V_b42_92.keep K93 (ninS (Nat.ne_of_gt lt_b26_b42) (ninS (Nat.ne_of_gt lt_b36_b42) nin0))
          have V_b44_93 := V_b44_92.keep K93 (ninS (Nat.ne_of_gt lt_b26_b44) (ninS (Nat.ne_of_gt lt_b36_b44) nin0))
          have V_b46_93 := V_b46_92.keep K93 (ninS (Nat.ne_of_gt lt_b26_b46) (ninS (Nat.ne_of_gt lt_b36_b46) nin0))
          have V_b48_93 := V_b48_92.keep K93 (ninS (Nat.ne_of_gt lt_b26_b48) (ninS (Nat.ne_of_gt lt_b36_b48) nin0))
          have V_b83_93 := V_b83_92.keep K93 (ninS (Nat.ne_of_gt lt_b26_b83) (ninS (Nat.ne_of_gt lt_b36_b83) nin0))
          have Ex_b21_93 := Ex_b21_92.keep K93
          have Ex_b26_93 := Ex_b26_92.keep K93
          have Ex_b31_93 := Ex_b31_92.keep K93
          have Ex_b36_93 := Ex_b36_92.keep K93
          have Ex_b42_93 := Ex_b42_92.keep K93
          have Ex_b44_93 := Ex_b44_92.keep K93
          have Ex_b46_93 := Ex_b46_92.keep K93
          have Ex_b48_93 := Ex_b48_92.keep K93
          have Ex_b88_93 := Ex_b88_92.keep K93
          have F_counts_b88_93 := F_counts_b88_92.keep K93 (ninS (Nat.ne_of_gt lt_b26_b88) (ninS (Nat.ne_of_gt lt_b36_b88) nin0))
          have F_groups_b88_93 := F_groups_b88_92.keep K93 (ninS (Nat.ne_of_gt lt_b26_b88) (ninS (Nat.ne_of_gt lt_b36_b88) nin0))
          have F_heads_b88_93 := F_heads_b88_92.keep K93 (ninS (Nat.ne_of_gt lt_b26_b88) (ninS (Nat.ne_of_gt lt_b36_b88) nin0))
          have N93' := Fr.app N92 N93
          refine own_st st93 ?_
          show own_Go _ _ _ _ T93 (mkF m 285 #[.val (.int p1), .val (.int p2), .val (.int p3), .val (.int p4), .val (.long q5), .second, .val (.int p6), .val (.int (0 : Int32)), .val (.int (1 : Int32)), .val (.int (2 : Int32)), .val (.int (1 : Int32)), .val (.ref b21), .val (.ref b26), .val (.int (q5.toInt32)), .val (.int (((q5.toUInt64 >>> ((32 : Int32) &&& 0x3f).toInt64.toUInt64).toInt64).toInt32)), .val (.int (p1 ^^^ p4)), .val (.int (p2 ^^^ (-1 : Int32))), .val (.ref b31), .val (.ref b36), .val (.ref b41), .val (.ref b83), .val (.ref b88), .unset] [])
          exact tl01 _ _ _ X93 N93' rfl O93 _ _ _ _ _ _ _ _ _ _ _ _ _ F_counts_b88_93 F_groups_b88_93 F_heads_b88_93 (own_im21 l hw [] b26 b21 (2 : Int32) (1 : Int32) kk26 kk21 p1 p2 p3 p4 T93.heap n0 (Nat.le_trans Z0 O93.1) rfl rfl Vc93 V_b21_93) (own_im21 l hw [] b36 b31 (2 : Int32) (1 : Int32) kk36 kk31 (q5.toInt32) (((q5.toUInt64 >>> ((32 : Int32) &&& 0x3f).toInt64.toUInt64).toInt64).toInt32) (p1 ^^^ p4) (p2 ^^^ (-1 : Int32)) T93.heap n0 (Nat.le_trans Z0 O93.1) rfl rfl Vh93 V_b31_93)
      · show own_Go _ _ _ _ T90 (mkF m 254 #[.val (.int p1), .val (.int p2), .val (.int p3), .val (.int p4), .val (.long q5), .second, .val (.int p6), .val (.int (1 : Int32)), .val (.int fh), .val (.int (2 : Int32)), .val (.int (1 : Int32)), .val (.ref b21), .val (.ref b26), .val (.int (q5.toInt32)), .val (.int (((q5.toUInt64 >>> ((32 : Int32) &&& 0x3f).toInt64.toUInt64).toInt64).toInt32)), .val (.int (p1 ^^^ p4)), .val (.int (p2 ^^^ (-1 : Int32))), .val (.ref b31), .val (.ref b36), .val (.ref b41), .val (.ref b83), .val (.ref b88), .unset] [(.int (1 : Int32))])
        refine own_st (fun _ k => XS.ifNo X90.here hx rfl (hb hby at_254) rfl ((if0 _ _).trans (feq (by decide : ¬ ((1 : Int32) = (0 : Int32)))).1) k) ?_
        refine own_st (fun _ k => XS.aload X90.here hx rfl (hb hby at_257) rfl rfl k) ?_
        refine own_st (fun _ k => XS.aload X90.here hx rfl (hb hby at_259) rfl rfl k) ?_
        obtain ⟨T94, hp94, X94, e94, W94, st94⟩ := putF X90 hx hZ hown (host := "") (Or.inl (own_w48 hw)) Via.refl e90 F_groups_b88_90 Ex_b88_90 (Or.inl (own_w39 hw)) (own_w5 hw) (ty := (.array (.object "java/lang/Object"))) (by decide) rfl rfl (g := (mkF m 261 #[.val (.int p1), .val (.int p2), .val (.int p3), .val (.int p4), .val (.long q5), .second, .val (.int p6), .val (.int (1 : Int32)), .val (.int fh), .val (.int (2 : Int32)), .val (.int (1 : Int32)), .val (.ref b21), .val (.ref b26), .val (.int (q5.toInt32)), .val (.int (((q5.toUInt64 >>> ((32 : Int32) &&& 0x3f).toInt64.toUInt64).toInt64).toInt32)), .val (.int (p1 ^^^ p4)), .val (.int (p2 ^^^ (-1 : Int32))), .val (.ref b31), .val (.ref b36), .val (.ref b41), .val (.ref b83), .val (.ref b88), .unset] [(.ref b83), (.ref b88)])) rfl rfl (hb hby at_261)
        have O94 := own_extw O90 W94 s_b88
        have V_b21_94 := V_b21_90.other W94 (Nat.ne_of_lt lt_b21_b88)
        have V_b26_94 := V_b26_90.other W94 (Nat.ne_of_lt lt_b26_b88)
        have V_b31_94 := V_b31_90.other W94 (Nat.ne_of_lt lt_b31_b88)
        have V_b36_94 := V_b36_90.other W94 (Nat.ne_of_lt lt_b36_b88)
        have V_b41_94 := V_b41_90.other W94 (Nat.ne_of_lt lt_b41_b88)
        have V_b42_94 := V_b42_90.other W94 (Nat.ne_of_lt lt_b42_b88)
        have V_b44_94 := V_b44_90.other W94 (Nat.ne_of_lt lt_b44_b88)
        have V_b46_94 := V_b46_90.other W94 (Nat.ne_of_lt lt_b46_b88)
        have V_b48_94 := V_b48_90.other W94 (Nat.ne_of_lt lt_b48_b88)
        have V_b83_94 := V_b83_90.other W94 (Nat.ne_of_lt lt_b83_b88)
        have Ex_b21_94 := Ex_b21_90.wr W94
        have Ex_b26_94 := Ex_b26_90.wr W94
        have Ex_b31_94 := Ex_b31_90.wr W94
        have Ex_b36_94 := Ex_b36_90.wr W94
        have Ex_b42_94 := Ex_b42_90.wr W94
        have Ex_b44_94 := Ex_b44_90.wr W94
        have Ex_b46_94 := Ex_b46_90.wr W94
        have Ex_b48_94 := Ex_b48_90.wr W94
        have Ex_b88_94 := Ex_b88_90.wr W94
        have F_counts_b88_94 := F_counts_b88_90.other W94 (Or.inr (slot_ne (Or.inl (own_w29 hw)) (Or.inl (own_w39 hw)) (by decide) (t := (.array .int)) (t' := (.array (.object "java/lang/Object"))) (by decide) (by decide)))
        have F_heads_b88_94 := F_heads_b88_90.other W94 (Or.inr (slot_ne (Or.inl (own_w32 hw)) (Or.inl (own_w39 hw)) (by decide) (t := (.array .int)) (t' := (.array (.object "java/lang/Object"))) (by decide) (by decide)))
        have F_groups_b88_94 := F_groups_b88_90.same W94
        have N94 := Fr.snoc X94 N90 g_b88
        refine own_st st94 ?_
        refine own_st (fun _ k => XS.iload X94.here hx rfl (hb hby at_264) rfl k) ?_
        rcases hfh with rfl | rfl
        · show own_Go _ _ _ _ T94 (mkF m 266 #[.val (.int p1), .val (.int p2), .val (.int p3), .val (.int p4), .val (.long q5), .second, .val (.int p6), .val (.int (1 : Int32)), .val (.int (0 : Int32)), .val (.int (2 : Int32)), .val (.int (1 : Int32)), .val (.ref b21), .val (.ref b26), .val (.int (q5.toInt32)), .val (.int (((q5.toUInt64 >>> ((32 : Int32) &&& 0x3f).toInt64.toUInt64).toInt64).toInt32)), .val (.int (p1 ^^^ p4)), .val (.int (p2 ^^^ (-1 : Int32))), .val (.ref b31), .val (.ref b36), .val (.ref b41), .val (.ref b83), .val (.ref b88), .unset] [(.int (0 : Int32))])
          refine own_st (fun _ k => XS.ifYes X94.here hx rfl (pc0 := 266) (pc' := 276) rfl (hb hby at_266) rfl ((if0 _ _).trans (teq (by decide : (0 : Int32) = (0 : Int32))).1) (by decide) (by decide) k) ?_
          refine own_st (fun _ k => XS.aload X94.here hx rfl (hb hby at_276) rfl rfl k) ?_
          refine own_st (fun _ k => XS.iload X94.here hx rfl (hb hby at_278) rfl k) ?_
          refine own_st (fun _ k => XS.iload X94.here hx rfl (hb hby at_280) rfl k) ?_
          obtain ⟨v95, T95, L95, hQ95, X95, st95⟩ := own_callV X94 hx hZ (y := (⟨"com/example/sheaf/sheaf/CountedKeys", "move", "(II)V"⟩ : MethodName)) hown (own_w33 hw) (own_w34 hw) (own_w36 hw) (own_w35 hw) (own_w6 hw) (own_w37 hw) (by decide) (own_mv10 l hw [] b88 b26 b83 b36 (2 : Int32) (1 : Int32) p3 (p1 ^^^ p4) (.ref b46) kk26 kk83 kk36 [(.int p1), (.int p2), (.int p3), (.int p4)] [(.ref b42), .null, (.ref b46), (.ref b48)] [(.int (q5.toInt32)), (.int (((q5.toUInt64 >>> ((32 : Int32) &&& 0x3f).toInt64.toUInt64).toInt64).toInt32)), (.int (p1 ^^^ p4)), (.int (p2 ^^^ (-1 : Int32)))] hp94 n0 (Nat.le_trans Z0 O94.1) (by decide) (by decide) (Nat.le_of_ble_eq_true rfl) g_b26 V_b26_94 rfl (Nat.ne_of_gt lt_b26_b88) F_counts_b88_94 F_groups_b88_94 F_heads_b88_94 (Nat.le_of_ble_eq_true rfl) (Nat.le_of_ble_eq_true rfl) g_b83 V_b83_94 rfl rfl (by obtain ⟨cl', A', q', _⟩ := V_b83_94; exact Sto.ofV A' q' Ov83 (Ins.of_exa Ex_b46_94 (own_w3 hw))) (Nat.ne_of_gt lt_b83_b88) (Nat.ne_of_lt lt_b26_b83)) e94 Ex_b88_94 (g := (mkF m 282 #[.val (.int p1), .val (.int p2), .val (.int p3), .val (.int p4), .val (.long q5), .second, .val (.int p6), .val (.int (1 : Int32)), .val (.int (0 : Int32)), .val (.int (2 : Int32)), .val (.int (1 : Int32)), .val (.ref b21), .val (.ref b26), .val (.int (q5.toInt32)), .val (.int (((q5.toUInt64 >>> ((32 : Int32) &&& 0x3f).toInt64.toUInt64).toInt64).toInt32)), .val (.int (p1 ^^^ p4)), .val (.int (p2 ^^^ (-1 : Int32))), .val (.ref b31), .val (.ref b36), .val (.ref b41), .val (.ref b83), .val (.ref b88), .unset] [(.int (1 : Int32)), (.int (2 : Int32)), (.ref b88)])) rfl (by rw [hml]; rfl) (argsL := [(.int (2 : Int32)), (.int (1 : Int32))]) (rest := []) (lenOf own_pd5 rfl) rfl rfl (W := 0) (Nat.le_of_eq rfl) (hb hby at_282) (by decide) (by decide) (by decide) (by decide)
          obtain ⟨rfl, N95, K95, Vc95, Vg95⟩ := hQ95
          have Vc95 : Arv Z T95.heap b26 kk26 .int 4 [(.int p1), (.int p3), (.int p3), (.int p4)] (.int (0 : Int32)) := Vc95
          have Vg95 : Arv Z T95.heap b83 kk83 (.object "java/lang/Object") 4 [(.ref b42), (.ref b46), .null, (.ref b48)] .null := Vg95
          have O95 : Ext h0 T95.heap := ⟨Nat.le_trans O94.1 K95.1, fun x c r => K95.2.1 x c (O94.2 x c r) (fun z => by
            have q := (Array.getElem?_eq_some_iff.mp r).1
            simp only [List.mem_cons, List.not_mem_nil, or_false] at z
            rcases z with rfl | rfl
            · exact absurd q (Nat.not_lt.mpr s_b26)
            · exact absurd q (Nat.not_lt.mpr s_b83))⟩
          have V_b21_95 := V_b21_94.keep K95 (ninS (Nat.ne_of_lt lt_b21_b26) (ninS (Nat.ne_of_lt lt_b21_b83) nin0))
          have V_b31_95 := V_b31_94.keep K95 (ninS (Nat.ne_of_gt lt_b26_b31) (ninS (Nat.ne_of_lt lt_b31_b83) nin0))
          have V_b36_95 := V_b36_94.keep K95 (ninS (Nat.ne_of_gt lt_b26_b36) (ninS (Nat.ne_of_lt lt_b36_b83) nin0))
          have V_b41_95 := V_b41_94.keep K95 (ninS (Nat.ne_of_gt lt_b26_b41) (ninS (Nat.ne_of_lt lt_b41_b83) nin0))
          have V_b42_95 := V_b42_94.keep K95 (ninS (Nat.ne_of_gt lt_b26_b42) (ninS (Nat.ne_of_lt lt_b42_b83) nin0))
          have V_b44_95 := V_b44_94.keep K95 (ninS (Nat.ne_of_gt lt_b26_b44) (ninS (Nat.ne_of_lt lt_b44_b83) nin0))
          have V_b46_95 := V_b46_94.keep K95 (ninS (Nat.ne_of_gt lt_b26_b46) (ninS (Nat.ne_of_lt lt_b46_b83) nin0))
          have V_b48_95 := V_b48_94.keep K95 (ninS (Nat.ne_of_gt lt_b26_b48) (ninS (Nat.ne_of_lt lt_b48_b83) nin0))
          have Ex_b21_95 := Ex_b21_94.keep K95
          have Ex_b26_95 := Ex_b26_94.keep K95
          have Ex_b31_95 := Ex_b31_94.keep K95
          have Ex_b36_95 := Ex_b36_94.keep K95
          have Ex_b42_95 := Ex_b42_94.keep K95
          have Ex_b44_95 := Ex_b44_94.keep K95
          have Ex_b46_95 := Ex_b46_94.keep K95
          have Ex_b48_95 := Ex_b48_94.keep K95
          have Ex_b88_95 := Ex_b88_94.keep K95
          have F_counts_b88_95 := F_counts_b88_94.keep K95 (ninS (Nat.ne_of_gt lt_b26_b88) (ninS (Nat.ne_of_gt lt_b83_b88) nin0))
          have F_groups_b88_95 := F_groups_b88_94.keep K95 (ninS (Nat.ne_of_gt lt_b26_b88) (ninS (Nat.ne_of_gt lt_b83_b88) nin0))
          have F_heads_b88_95 := F_heads_b88_94.keep K95 (ninS (Nat.ne_of_gt lt_b26_b88) (ninS (Nat.ne_of_gt lt_b83_b88) nin0))
          have N95' := Fr.app N94 N95
          refine own_st st95 ?_
          show own_Go _ _ _ _ T95 (mkF m 285 #[.val (.int p1), .val (.int p2), .val (.int p3), .val (.int p4), .val (.long q5), .second, .val (.int p6), .val (.int (1 : Int32)), .val (.int (0 : Int32)), .val (.int (2 : Int32)), .val (.int (1 : Int32)), .val (.ref b21), .val (.ref b26), .val (.int (q5.toInt32)), .val (.int (((q5.toUInt64 >>> ((32 : Int32) &&& 0x3f).toInt64.toUInt64).toInt64).toInt32)), .val (.int (p1 ^^^ p4)), .val (.int (p2 ^^^ (-1 : Int32))), .val (.ref b31), .val (.ref b36), .val (.ref b41), .val (.ref b83), .val (.ref b88), .unset] [])
          exact tl10 _ _ _ X95 N95' rfl O95 _ _ _ _ _ _ _ _ _ _ _ _ _ F_counts_b88_95 F_groups_b88_95 F_heads_b88_95 (own_im21 l hw [] b26 b21 (2 : Int32) (1 : Int32) kk26 kk21 p1 p2 p3 p4 T95.heap n0 (Nat.le_trans Z0 O95.1) rfl rfl Vc95 V_b21_95) (own_rm21 l hw [] b83 b41 (2 : Int32) (1 : Int32) kk83 kk41 b42 b44 b46 b48 T95.heap n0 (Nat.le_trans Z0 O95.1) rfl rfl Vg95 V_b41_95)
        · show own_Go _ _ _ _ T94 (mkF m 266 #[.val (.int p1), .val (.int p2), .val (.int p3), .val (.int p4), .val (.long q5), .second, .val (.int p6), .val (.int (1 : Int32)), .val (.int (1 : Int32)), .val (.int (2 : Int32)), .val (.int (1 : Int32)), .val (.ref b21), .val (.ref b26), .val (.int (q5.toInt32)), .val (.int (((q5.toUInt64 >>> ((32 : Int32) &&& 0x3f).toInt64.toUInt64).toInt64).toInt32)), .val (.int (p1 ^^^ p4)), .val (.int (p2 ^^^ (-1 : Int32))), .val (.ref b31), .val (.ref b36), .val (.ref b41), .val (.ref b83), .val (.ref b88), .unset] [(.int (1 : Int32))])
          refine own_st (fun _ k => XS.ifNo X94.here hx rfl (hb hby at_266) rfl ((if0 _ _).trans (feq (by decide : ¬ ((1 : Int32) = (0 : Int32)))).1) k) ?_
          refine own_st (fun _ k => XS.aload X94.here hx rfl (hb hby at_269) rfl rfl k) ?_
          refine own_st (fun _ k => XS.aload X94.here hx rfl (hb hby at_271) rfl rfl k) ?_
          obtain ⟨T96, hp96, X96, e96, W96, st96⟩ := putF X94 hx hZ hown (host := "") (Or.inl (own_w31 hw)) Via.refl e94 F_heads_b88_94 Ex_b88_94 (Or.inl (own_w32 hw)) (own_w5 hw) (ty := (.array .int)) (by decide) rfl rfl (g := (mkF m 273 #[.val (.int p1), .val (.int p2), .val (.int p3), .val (.int p4), .val (.long q5), .second, .val (.int p6), .val (.int (1 : Int32)), .val (.int (1 : Int32)), .val (.int (2 : Int32)), .val (.int (1 : Int32)), .val (.ref b21), .val (.ref b26), .val (.int (q5.toInt32)), .val (.int (((q5.toUInt64 >>> ((32 : Int32) &&& 0x3f).toInt64.toUInt64).toInt64).toInt32)), .val (.int (p1 ^^^ p4)), .val (.int (p2 ^^^ (-1 : Int32))), .val (.ref b31), .val (.ref b36), .val (.ref b41), .val (.ref b83), .val (.ref b88), .unset] [(.ref b36), (.ref b88)])) rfl rfl (hb hby at_273)
          have O96 := own_extw O94 W96 s_b88
          have V_b21_96 := V_b21_94.other W96 (Nat.ne_of_lt lt_b21_b88)
          have V_b26_96 := V_b26_94.other W96 (Nat.ne_of_lt lt_b26_b88)
          have V_b31_96 := V_b31_94.other W96 (Nat.ne_of_lt lt_b31_b88)
          have V_b36_96 := V_b36_94.other W96 (Nat.ne_of_lt lt_b36_b88)
          have V_b41_96 := V_b41_94.other W96 (Nat.ne_of_lt lt_b41_b88)
          have V_b42_96 := V_b42_94.other W96 (Nat.ne_of_lt lt_b42_b88)
          have V_b44_96 := V_b44_94.other W96 (Nat.ne_of_lt lt_b44_b88)
          have V_b46_96 := V_b46_94.other W96 (Nat.ne_of_lt lt_b46_b88)
          have V_b48_96 := V_b48_94.other W96 (Nat.ne_of_lt lt_b48_b88)
          have V_b83_96 := V_b83_94.other W96 (Nat.ne_of_lt lt_b83_b88)
          have Ex_b21_96 := Ex_b21_94.wr W96
          have Ex_b26_96 := Ex_b26_94.wr W96
          have Ex_b31_96 := Ex_b31_94.wr W96
          have Ex_b36_96 := Ex_b36_94.wr W96
          have Ex_b42_96 := Ex_b42_94.wr W96
          have Ex_b44_96 := Ex_b44_94.wr W96
          have Ex_b46_96 := Ex_b46_94.wr W96
          have Ex_b48_96 := Ex_b48_94.wr W96
          have Ex_b88_96 := Ex_b88_94.wr W96
          have F_counts_b88_96 := F_counts_b88_94.other W96 (Or.inr (slot_ne (Or.inl (own_w29 hw)) (Or.inl (own_w32 hw)) (by decide) (t := (.array .int)) (t' := (.array .int)) (by decide) (by decide)))
          have F_groups_b88_96 := F_groups_b88_94.other W96 (Or.inr (slot_ne (Or.inl (own_w39 hw)) (Or.inl (own_w32 hw)) (by decide) (t := (.array (.object "java/lang/Object"))) (t' := (.array .int)) (by decide) (by decide)))
          have F_heads_b88_96 := F_heads_b88_94.same W96
          have N96 := Fr.snoc X96 N94 g_b88
          refine own_st st96 ?_
          refine own_st (fun _ k => XS.aload X96.here hx rfl (hb hby at_276) rfl rfl k) ?_
          refine own_st (fun _ k => XS.iload X96.here hx rfl (hb hby at_278) rfl k) ?_
          show own_Go _ _ _ _ T96 (mkF m 280 #[.val (.int p1), .val (.int p2), .val (.int p3), .val (.int p4), .val (.long q5), .second, .val (.int p6), .val (.int (1 : Int32)), .val (.int (1 : Int32)), .val (.int (2 : Int32)), .val (.int (1 : Int32)), .val (.ref b21), .val (.ref b26), .val (.int (q5.toInt32)), .val (.int (((q5.toUInt64 >>> ((32 : Int32) &&& 0x3f).toInt64.toUInt64).toInt64).toInt32)), .val (.int (p1 ^^^ p4)), .val (.int (p2 ^^^ (-1 : Int32))), .val (.ref b31), .val (.ref b36), .val (.ref b41), .val (.ref b83), .val (.ref b88), .unset] [(.int (2 : Int32)), (.ref b88)])
          refine own_st (fun _ k => XS.iload X96.here hx rfl (hb hby at_280) rfl k) ?_
          obtain ⟨v97, T97, L97, hQ97, X97, st97⟩ := own_callV X96 hx hZ (y := (⟨"com/example/sheaf/sheaf/CountedKeys", "move", "(II)V"⟩ : MethodName)) hown (own_w33 hw) (own_w34 hw) (own_w36 hw) (own_w35 hw) (own_w6 hw) (own_w37 hw) (by decide) (own_mv11 l hw [] b88 b26 b83 b36 (2 : Int32) (1 : Int32) p3 (p1 ^^^ p4) (.ref b46) kk26 kk83 kk36 [(.int p1), (.int p2), (.int p3), (.int p4)] [(.ref b42), .null, (.ref b46), (.ref b48)] [(.int (q5.toInt32)), (.int (((q5.toUInt64 >>> ((32 : Int32) &&& 0x3f).toInt64.toUInt64).toInt64).toInt32)), (.int (p1 ^^^ p4)), (.int (p2 ^^^ (-1 : Int32)))] hp96 n0 (Nat.le_trans Z0 O96.1) (by decide) (by decide) (Nat.le_of_ble_eq_true rfl) g_b26 V_b26_96 rfl (Nat.ne_of_gt lt_b26_b88) F_counts_b88_96 F_groups_b88_96 F_heads_b88_96 (Nat.le_of_ble_eq_true rfl) (Nat.le_of_ble_eq_true rfl) g_b83 V_b83_96 rfl rfl (by obtain ⟨cl', A', q', _⟩ := V_b83_96; exact Sto.ofV A' q' Ov83 (Ins.of_exa Ex_b46_96 (own_w3 hw))) (Nat.ne_of_gt lt_b83_b88) (Nat.ne_of_lt lt_b26_b83) (Nat.le_of_ble_eq_true rfl) g_b36 V_b36_96 rfl (Nat.ne_of_gt lt_b36_b88) (Nat.ne_of_lt lt_b26_b36) (Nat.ne_of_gt lt_b36_b83)) e96 Ex_b88_96 (g := (mkF m 282 #[.val (.int p1), .val (.int p2), .val (.int p3), .val (.int p4), .val (.long q5), .second, .val (.int p6), .val (.int (1 : Int32)), .val (.int (1 : Int32)), .val (.int (2 : Int32)), .val (.int (1 : Int32)), .val (.ref b21), .val (.ref b26), .val (.int (q5.toInt32)), .val (.int (((q5.toUInt64 >>> ((32 : Int32) &&& 0x3f).toInt64.toUInt64).toInt64).toInt32)), .val (.int (p1 ^^^ p4)), .val (.int (p2 ^^^ (-1 : Int32))), .val (.ref b31), .val (.ref b36), .val (.ref b41), .val (.ref b83), .val (.ref b88), .unset] [(.int (1 : Int32)), (.int (2 : Int32)), (.ref b88)])) rfl (by rw [hml]; rfl) (argsL := [(.int (2 : Int32)), (.int (1 : Int32))]) (rest := []) (lenOf own_pd5 rfl) rfl rfl (W := 0) (Nat.le_of_eq rfl) (hb hby at_282) (by decide) (by decide) (by decide) (by decide)
          obtain ⟨rfl, N97, K97, Vc97, Vg97, Vh97⟩ := hQ97
          have Vc97 : Arv Z T97.heap b26 kk26 .int 4 [(.int p1), (.int p3), (.int p3), (.int p4)] (.int (0 : Int32)) := Vc97
          have Vg97 : Arv Z T97.heap b83 kk83 (.object "java/lang/Object") 4 [(.ref b42), (.ref b46), .null, (.ref b48)] .null := Vg97
          have Vh97 : Arv Z T97.heap b36 kk36 .int 4 [(.int (q5.toInt32)), (.int (p1 ^^^ p4)), (.int (p1 ^^^ p4)), (.int (p2 ^^^ (-1 : Int32)))] (.int (0 : Int32)) := Vh97
          have O97 : Ext h0 T97.heap := ⟨Nat.le_trans O96.1 K97.1, fun x c r => K97.2.1 x c (O96.2 x c r) (fun z => by
            have q := (Array.getElem?_eq_some_iff.mp r).1
            simp only [List.mem_cons, List.not_mem_nil, or_false] at z
            rcases z with rfl | rfl | rfl
            · exact absurd q (Nat.not_lt.mpr s_b26)
            · exact absurd q (Nat.not_lt.mpr s_b83)
            · exact absurd q (Nat.not_lt.mpr s_b36))⟩
          have V_b21_97 := V_b21_96.keep K97 (ninS (Nat.ne_of_lt lt_b21_b26) (ninS (Nat.ne_of_lt lt_b21_b83) (ninS (Nat.ne_of_lt lt_b21_b36) nin0)))
          have V_b31_97 := V_b31_96.keep K97 (ninS (Nat.ne_of_gt lt_b26_b31) (ninS (Nat.ne_of_lt lt_b31_b83) (ninS (Nat.ne_of_lt lt_b31_b36) nin0)))
          have V_b41_97 := V_b41_96.keep K97 (ninS (Nat.ne_of_gt lt_b26_b41) (ninS (Nat.ne_of_lt lt_b41_b83) (ninS (Nat.ne_of_gt lt_b36_b41) nin0)))
          have V_b42_97 := V_b42_96.keep K97 (ninS (Nat.ne_of_gt lt_b26_b42) (ninS (Nat.ne_of_lt lt_b42_b83) (ninS (Nat.ne_of_gt lt_b36_b42) nin0)))
          have V_b44_97 := V_b44_96.keep K97 (ninS (Nat.ne_of_gt lt_b26_b44) (ninS (Nat.ne_of_lt lt_b44_b83) (ninS (Nat.ne_of_gt lt_b36_b44) nin0)))
          have V_b46_97 := V_b46_96.keep K97 (ninS (Nat.ne_of_gt lt_b26_b46) (ninS (Nat.ne_of_lt lt_b46_b83) (ninS (Nat.ne_of_gt lt_b36_b46) nin0)))
          have V_b48_97 := V_b48_96.keep K97 (ninS (Nat.ne_of_gt lt_b26_b48) (ninS (Nat.ne_of_lt lt_b48_b83) (ninS (Nat.ne_of_gt lt_b36_b48) nin0)))
          have Ex_b21_97 := Ex_b21_96.keep K97
          have Ex_b26_97 := Ex_b26_96.keep K97
          have Ex_b31_97 := Ex_b31_96.keep K97
          have Ex_b36_97 := Ex_b36_96.keep K97
          have Ex_b42_97 := Ex_b42_96.keep K97
          have Ex_b44_97 := Ex_b44_96.keep K97
          have Ex_b46_97 := Ex_b46_96.keep K97
          have Ex_b48_97 := Ex_b48_96.keep K97
          have Ex_b88_97 := Ex_b88_96.keep K97
          have F_counts_b88_97 := F_counts_b88_96.keep K97 (ninS (Nat.ne_of_gt lt_b26_b88) (ninS (Nat.ne_of_gt lt_b83_b88) (ninS (Nat.ne_of_gt lt_b36_b88) nin0)))
          have F_groups_b88_97 := F_groups_b88_96.keep K97 (ninS (Nat.ne_of_gt lt_b26_b88) (ninS (Nat.ne_of_gt lt_b83_b88) (ninS (Nat.ne_of_gt lt_b36_b88) nin0)))
          have F_heads_b88_97 := F_heads_b88_96.keep K97 (ninS (Nat.ne_of_gt lt_b26_b88) (ninS (Nat.ne_of_gt lt_b83_b88) (ninS (Nat.ne_of_gt lt_b36_b88) nin0)))
          have N97' := Fr.app N96 N97
          refine own_st st97 ?_
          show own_Go _ _ _ _ T97 (mkF m 285 #[.val (.int p1), .val (.int p2), .val (.int p3), .val (.int p4), .val (.long q5), .second, .val (.int p6), .val (.int (1 : Int32)), .val (.int (1 : Int32)), .val (.int (2 : Int32)), .val (.int (1 : Int32)), .val (.ref b21), .val (.ref b26), .val (.int (q5.toInt32)), .val (.int (((q5.toUInt64 >>> ((32 : Int32) &&& 0x3f).toInt64.toUInt64).toInt64).toInt32)), .val (.int (p1 ^^^ p4)), .val (.int (p2 ^^^ (-1 : Int32))), .val (.ref b31), .val (.ref b36), .val (.ref b41), .val (.ref b83), .val (.ref b88), .unset] [])
          exact tl11 _ _ _ X97 N97' rfl O97 _ _ _ _ _ _ _ _ _ _ _ _ _ F_counts_b88_97 F_groups_b88_97 F_heads_b88_97 (own_im21 l hw [] b26 b21 (2 : Int32) (1 : Int32) kk26 kk21 p1 p2 p3 p4 T97.heap n0 (Nat.le_trans Z0 O97.1) rfl rfl Vc97 V_b21_97) (own_rm21 l hw [] b83 b41 (2 : Int32) (1 : Int32) kk83 kk41 b42 b44 b46 b48 T97.heap n0 (Nat.le_trans Z0 O97.1) rfl rfl Vg97 V_b41_97) (own_im21 l hw [] b36 b31 (2 : Int32) (1 : Int32) kk36 kk31 (q5.toInt32) (((q5.toUInt64 >>> ((32 : Int32) &&& 0x3f).toInt64.toUInt64).toInt64).toInt32) (p1 ^^^ p4) (p2 ^^^ (-1 : Int32)) T97.heap n0 (Nat.le_trans Z0 O97.1) rfl rfl Vh97 V_b31_97)
    · show own_Go _ _ _ _ T49 (mkF m 196 #[.val (.int p1), .val (.int p2), .val (.int p3), .val (.int p4), .val (.long q5), .second, .val (.int p6), .val (.int fg), .val (.int fh), .val (.int (3 : Int32)), .val (.int (0 : Int32)), .val (.ref b21), .val (.ref b26), .val (.int (q5.toInt32)), .val (.int (((q5.toUInt64 >>> ((32 : Int32) &&& 0x3f).toInt64.toUInt64).toInt64).toInt32)), .val (.int (p1 ^^^ p4)), .val (.int (p2 ^^^ (-1 : Int32))), .val (.ref b31), .val (.ref b36), .val (.ref b41), .unset, .unset, .unset] [])
      refine own_st (fun _ k => XS.aload X49.here hx rfl (hb hby at_196) rfl rfl k) ?_
      refine own_st (fun _ k => XS.iload X49.here hx rfl (hb hby at_198) rfl k) ?_
      refine own_st (fun _ k => XS.aconstNull X49.here hx rfl (hb hby at_200) k) ?_
      obtain ⟨T98, hp98, X98, e98, W98, Va98, st98⟩ := own_stR X49 hx hZ e49 Va49 rfl rfl (by decide) 0 (by decide) (Nat.le_of_ble_eq_true rfl) (fun _ _ _ => Or.inl rfl) (g := (mkF m 201 #[.val (.int p1), .val (.int p2), .val (.int p3), .val (.int p4), .val (.long q5), .second, .val (.int p6), .val (.int fg), .val (.int fh), .val (.int (3 : Int32)), .val (.int (0 : Int32)), .val (.ref b21), .val (.ref b26), .val (.int (q5.toInt32)), .val (.int (((q5.toUInt64 >>> ((32 : Int32) &&& 0x3f).toInt64.toUInt64).toInt64).toInt32)), .val (.int (p1 ^^^ p4)), .val (.int (p2 ^^^ (-1 : Int32))), .val (.ref b31), .val (.ref b36), .val (.ref b41), .unset, .unset, .unset] [.null, (.int (0 : Int32)), (.ref b41)])) rfl rfl (hb hby at_201)
      have O98 := own_extw O49 W98 s_b41
      have V_b21_98 := V_b21_49.other W98 (Nat.ne_of_lt lt_b21_b41)
      have V_b26_98 := V_b26_49.other W98 (Nat.ne_of_lt lt_b26_b41)
      have V_b31_98 := V_b31_49.other W98 (Nat.ne_of_lt lt_b31_b41)
      have V_b36_98 := V_b36_49.other W98 (Nat.ne_of_lt lt_b36_b41)
      have V_b42_98 := V_b42_49.other W98 (Nat.ne_of_gt lt_b41_b42)
      have V_b44_98 := V_b44_49.other W98 (Nat.ne_of_gt lt_b41_b44)
      have V_b46_98 := V_b46_49.other W98 (Nat.ne_of_gt lt_b41_b46)
      have V_b48_98 := V_b48_49.other W98 (Nat.ne_of_gt lt_b41_b48)
      have Ex_b21_98 := Ex_b21_49.wr W98
      have Ex_b26_98 := Ex_b26_49.wr W98
      have Ex_b31_98 := Ex_b31_49.wr W98
      have Ex_b36_98 := Ex_b36_49.wr W98
      have Ex_b42_98 := Ex_b42_49.wr W98
      have Ex_b44_98 := Ex_b44_49.wr W98
      have Ex_b46_98 := Ex_b46_49.wr W98
      have Ex_b48_98 := Ex_b48_49.wr W98
      have Va98 : Arv Z hp98 b41 kk41 (.object "java/lang/Object") (4 : Int32) [.null, (.ref b44), (.ref b46), (.ref b48)] .null := Va98
      have N98 := Fr.snoc X98 N49 g_b41
      refine own_st st98 ?_
      refine own_st (fun _ k => XS.iconst X98.here hx rfl (hb hby at_202) k) ?_
      obtain ⟨T99, hp99, kk99, X99, e99, Et99, A99, Ov99, st99⟩ := newR X98 hx hZ hown (own_w1 hw) (own_w2 hw) e98 (g := (mkF m 203 #[.val (.int p1), .val (.int p2), .val (.int p3), .val (.int p4), .val (.long q5), .second, .val (.int p6), .val (.int fg), .val (.int fh), .val (.int (3 : Int32)), .val (.int (0 : Int32)), .val (.ref b21), .val (.ref b26), .val (.int (q5.toInt32)), .val (.int (((q5.toUInt64 >>> ((32 : Int32) &&& 0x3f).toInt64.toUInt64).toInt64).toInt32)), .val (.int (p1 ^^^ p4)), .val (.int (p2 ^^^ (-1 : Int32))), .val (.ref b31), .val (.ref b36), .val (.ref b41), .unset, .unset, .unset] [(.int (4 : Int32))])) rfl (hb hby at_203) rfl (by decide) (cap := 4) (by decide) (by decide) (by decide) (by decide)
      obtain ⟨b99, g99⟩ : ∃ z, z = hp98.size := ⟨_, rfl⟩
      rw [← g99] at A99 st99
      have s_b99 : h0.size ≤ b99 := Nat.le_trans O98.1 (Nat.le_of_eq g99.symm)
      have g_b99 : n0 ≤ b99 := Nat.le_trans Z0 s_b99
      have lt_b21_b99 : b21 < b99 := Nat.lt_of_lt_of_le V_b21_98.lt (Nat.le_of_eq g99.symm)
      have lt_b26_b99 : b26 < b99 := Nat.lt_of_lt_of_le V_b26_98.lt (Nat.le_of_eq g99.symm)
      have lt_b31_b99 : b31 < b99 := Nat.lt_of_lt_of_le V_b31_98.lt (Nat.le_of_eq g99.symm)
      have lt_b36_b99 : b36 < b99 := Nat.lt_of_lt_of_le V_b36_98.lt (Nat.le_of_eq g99.symm)
      have lt_b41_b99 : b41 < b99 := Nat.lt_of_lt_of_le Va98.lt (Nat.le_of_eq g99.symm)
      have lt_b42_b99 : b42 < b99 := Nat.lt_of_lt_of_le V_b42_98.lt (Nat.le_of_eq g99.symm)
      have lt_b44_b99 : b44 < b99 := Nat.lt_of_lt_of_le V_b44_98.lt (Nat.le_of_eq g99.symm)
      have lt_b46_b99 : b46 < b99 := Nat.lt_of_lt_of_le V_b46_98.lt (Nat.le_of_eq g99.symm)
      have lt_b48_b99 : b48 < b99 := Nat.lt_of_lt_of_le V_b48_98.lt (Nat.le_of_eq g99.symm)
      have O99 := own_extt O98 Et99
      have V_b21_99 := V_b21_98.ext Et99
      have V_b26_99 := V_b26_98.ext Et99
      have V_b31_99 := V_b31_98.ext Et99
      have V_b36_99 := V_b36_98.ext Et99
      have V_b41_99 := Va98.ext Et99
      have V_b42_99 := V_b42_98.ext Et99
      have V_b44_99 := V_b44_98.ext Et99
      have V_b46_99 := V_b46_98.ext Et99
      have V_b48_99 := V_b48_98.ext Et99
      have Ex_b21_99 := Ex_b21_98.ext Et99
      have Ex_b26_99 := Ex_b26_98.ext Et99
      have Ex_b31_99 := Ex_b31_98.ext Et99
      have Ex_b36_99 := Ex_b36_98.ext Et99
      have Ex_b42_99 := Ex_b42_98.ext Et99
      have Ex_b44_99 := Ex_b44_98.ext Et99
      have Ex_b46_99 := Ex_b46_98.ext Et99
      have Ex_b48_99 := Ex_b48_98.ext Et99
      have Va99 : Arv Z hp99 b99 kk99 (.object "java/lang/Object") (4 : Int32) [.null, .null, .null, .null] .null := (Arv.new A99 (by decide)).pad (pad_rep [] .null 4)
      refine own_st st99 ?_
      show own_Go _ _ _ _ T99 (mkF m 206 #[.val (.int p1), .val (.int p2), .val (.int p3), .val (.int p4), .val (.long q5), .second, .val (.int p6), .val (.int fg), .val (.int fh), .val (.int (3 : Int32)), .val (.int (0 : Int32)), .val (.ref b21), .val (.ref b26), .val (.int (q5.toInt32)), .val (.int (((q5.toUInt64 >>> ((32 : Int32) &&& 0x3f).toInt64.toUInt64).toInt64).toInt32)), .val (.int (p1 ^^^ p4)), .val (.int (p2 ^^^ (-1 : Int32))), .val (.ref b31), .val (.ref b36), .val (.ref b41), .unset, .unset, .unset] [(.ref b99)])
      refine own_st (fun _ k => XS.dup X99.here hx rfl (hb hby at_206) rfl rfl k) ?_
      refine own_st (fun _ k => XS.iconst X99.here hx rfl (hb hby at_207) k) ?_
      refine own_st (fun _ k => XS.aload X99.here hx rfl (hb hby at_208) rfl rfl k) ?_
      refine own_st (fun _ k => XS.iconst X99.here hx rfl (hb hby at_210) k) ?_
      refine own_st (own_ldR X99 hx hZ e99 V_b41_99 rfl (j := (0 : Int32)) (by decide) (v := .null) rfl (g := (mkF m 211 #[.val (.int p1), .val (.int p2), .val (.int p3), .val (.int p4), .val (.long q5), .second, .val (.int p6), .val (.int fg), .val (.int fh), .val (.int (3 : Int32)), .val (.int (0 : Int32)), .val (.ref b21), .val (.ref b26), .val (.int (q5.toInt32)), .val (.int (((q5.toUInt64 >>> ((32 : Int32) &&& 0x3f).toInt64.toUInt64).toInt64).toInt32)), .val (.int (p1 ^^^ p4)), .val (.int (p2 ^^^ (-1 : Int32))), .val (.ref b31), .val (.ref b36), .val (.ref b41), .unset, .unset, .unset] [(.int (0 : Int32)), (.ref b41), (.int (0 : Int32)), (.ref b99), (.ref b99)])) rfl rfl (hb hby at_211)) ?_
      obtain ⟨T100, hp100, X100, e100, W100, Va100, st100⟩ := own_stR X99 hx hZ e99 Va99 rfl rfl (by decide) 0 (by decide) (Nat.le_of_ble_eq_true rfl) (fun _ _ _ => Or.inl rfl) (g := (mkF m 212 #[.val (.int p1), .val (.int p2), .val (.int p3), .val (.int p4), .val (.long q5), .second, .val (.int p6), .val (.int fg), .val (.int fh), .val (.int (3 : Int32)), .val (.int (0 : Int32)), .val (.ref b21), .val (.ref b26), .val (.int (q5.toInt32)), .val (.int (((q5.toUInt64 >>> ((32 : Int32) &&& 0x3f).toInt64.toUInt64).toInt64).toInt32)), .val (.int (p1 ^^^ p4)), .val (.int (p2 ^^^ (-1 : Int32))), .val (.ref b31), .val (.ref b36), .val (.ref b41), .unset, .unset, .unset] [.null, (.int (0 : Int32)), (.ref b99), (.ref b99)])) rfl rfl (hb hby at_212)
      have O100 := own_extw O99 W100 s_b99
      have V_b21_100 := V_b21_99.other W100 (Nat.ne_of_lt lt_b21_b99)
      have V_b26_100 := V_b26_99.other W100 (Nat.ne_of_lt lt_b26_b99)
      have V_b31_100 := V_b31_99.other W100 (Nat.ne_of_lt lt_b31_b99)
      have V_b36_100 := V_b36_99.other W100 (Nat.ne_of_lt lt_b36_b99)
      have V_b41_100 := V_b41_99.other W100 (Nat.ne_of_lt lt_b41_b99)
      have V_b42_100 := V_b42_99.other W100 (Nat.ne_of_lt lt_b42_b99)
      have V_b44_100 := V_b44_99.other W100 (Nat.ne_of_lt lt_b44_b99)
      have V_b46_100 := V_b46_99.other W100 (Nat.ne_of_lt lt_b46_b99)
      have V_b48_100 := V_b48_99.other W100 (Nat.ne_of_lt lt_b48_b99)
      have Ex_b21_100 := Ex_b21_99.wr W100
      have Ex_b26_100 := Ex_b26_99.wr W100
      have Ex_b31_100 := Ex_b31_99.wr W100
      have Ex_b36_100 := Ex_b36_99.wr W100
      have Ex_b42_100 := Ex_b42_99.wr W100
      have Ex_b44_100 := Ex_b44_99.wr W100
      have Ex_b46_100 := Ex_b46_99.wr W100
      have Ex_b48_100 := Ex_b48_99.wr W100
      have Va100 : Arv Z hp100 b99 kk99 (.object "java/lang/Object") (4 : Int32) [.null, .null, .null, .null] .null := Va100
      have N100 := Fr.snoc X100 N98 g_b99
      refine own_st st100 ?_
      show own_Go _ _ _ _ T100 (mkF m 213 #[.val (.int p1), .val (.int p2), .val (.int p3), .val (.int p4), .val (.long q5), .second, .val (.int p6), .val (.int fg), .val (.int fh), .val (.int (3 : Int32)), .val (.int (0 : Int32)), .val (.ref b21), .val (.ref b26), .val (.int (q5.toInt32)), .val (.int (((q5.toUInt64 >>> ((32 : Int32) &&& 0x3f).toInt64.toUInt64).toInt64).toInt32)), .val (.int (p1 ^^^ p4)), .val (.int (p2 ^^^ (-1 : Int32))), .val (.ref b31), .val (.ref b36), .val (.ref b41), .unset, .unset, .unset] [(.ref b99)])
      refine own_st (fun _ k => XS.dup X100.here hx rfl (hb hby at_213) rfl rfl k) ?_
      refine own_st (fun _ k => XS.iconst X100.here hx rfl (hb hby at_214) k) ?_
      refine own_st (fun _ k => XS.aload X100.here hx rfl (hb hby at_215) rfl rfl k) ?_
      refine own_st (fun _ k => XS.iconst X100.here hx rfl (hb hby at_217) k) ?_
      refine own_st (own_ldR X100 hx hZ e100 V_b41_100 rfl (j := (1 : Int32)) (by decide) (v := (.ref b44)) rfl (g := (mkF m 218 #[.val (.int p1), .val (.int p2), .val (.int p3), .val (.int p4), .val (.long q5), .second, .val (.int p6), .val (.int fg), .val (.int fh), .val (.int (3 : Int32)), .val (.int (0 : Int32)), .val (.ref b21), .val (.ref b26), .val (.int (q5.toInt32)), .val (.int (((q5.toUInt64 >>> ((32 : Int32) &&& 0x3f).toInt64.toUInt64).toInt64).toInt32)), .val (.int (p1 ^^^ p4)), .val (.int (p2 ^^^ (-1 : Int32))), .val (.ref b31), .val (.ref b36), .val (.ref b41), .unset, .unset, .unset] [(.int (1 : Int32)), (.ref b41), (.int (1 : Int32)), (.ref b99), (.ref b99)])) rfl rfl (hb hby at_218)) ?_
      obtain ⟨T101, hp101, X101, e101, W101, Va101, st101⟩ := own_stR X100 hx hZ e100 Va100 rfl rfl (by decide) 1 (by decide) (Nat.le_of_ble_eq_true rfl) (fun cl Ar q => Sto.ofV Ar q Ov99 (Ins.of_exa Ex_b44_100 (own_w3 hw))) (g := (mkF m 219 #[.val (.int p1), .val (.int p2), .val (.int p3), .val (.int p4), .val (.long q5), .second, .val (.int p6), .val (.int fg), .val (.int fh), .val (.int (3 : Int32)), .val (.int (0 : Int32)), .val (.ref b21), .val (.ref b26), .val (.int (q5.toInt32)), .val (.int (((q5.toUInt64 >>> ((32 : Int32) &&& 0x3f).toInt64.toUInt64).toInt64).toInt32)), .val (.int (p1 ^^^ p4)), .val (.int (p2 ^^^ (-1 : Int32))), .val (.ref b31), .val (.ref b36), .val (.ref b41), .unset, .unset, .unset] [(.ref b44), (.int (1 : Int32)), (.ref b99), (.ref b99)])) rfl rfl (hb hby at_219)
      have O101 := own_extw O100 W101 s_b99
      have V_b21_101 := V_b21_100.other W101 (Nat.ne_of_lt lt_b21_b99)
      have V_b26_101 := V_b26_100.other W101 (Nat.ne_of_lt lt_b26_b99)
      have V_b31_101 := V_b31_100.other W101 (Nat.ne_of_lt lt_b31_b99)
      have V_b36_101 := V_b36_100.other W101 (Nat.ne_of_lt lt_b36_b99)
      have V_b41_101 := V_b41_100.other W101 (Nat.ne_of_lt lt_b41_b99)
      have V_b42_101 := V_b42_100.other W101 (Nat.ne_of_lt lt_b42_b99)
      have V_b44_101 := V_b44_100.other W101 (Nat.ne_of_lt lt_b44_b99)
      have V_b46_101 := V_b46_100.other W101 (Nat.ne_of_lt lt_b46_b99)
      have V_b48_101 := V_b48_100.other W101 (Nat.ne_of_lt lt_b48_b99)
      have Ex_b21_101 := Ex_b21_100.wr W101
      have Ex_b26_101 := Ex_b26_100.wr W101
      have Ex_b31_101 := Ex_b31_100.wr W101
      have Ex_b36_101 := Ex_b36_100.wr W101
      have Ex_b42_101 := Ex_b42_100.wr W101
      have Ex_b44_101 := Ex_b44_100.wr W101
      have Ex_b46_101 := Ex_b46_100.wr W101
      have Ex_b48_101 := Ex_b48_100.wr W101
      have Va101 : Arv Z hp101 b99 kk99 (.object "java/lang/Object") (4 : Int32) [.null, (.ref b44), .null, .null] .null := Va101
      have N101 := Fr.snoc X101 N100 g_b99
      refine own_st st101 ?_
      show own_Go _ _ _ _ T101 (mkF m 220 #[.val (.int p1), .val (.int p2), .val (.int p3), .val (.int p4), .val (.long q5), .second, .val (.int p6), .val (.int fg), .val (.int fh), .val (.int (3 : Int32)), .val (.int (0 : Int32)), .val (.ref b21), .val (.ref b26), .val (.int (q5.toInt32)), .val (.int (((q5.toUInt64 >>> ((32 : Int32) &&& 0x3f).toInt64.toUInt64).toInt64).toInt32)), .val (.int (p1 ^^^ p4)), .val (.int (p2 ^^^ (-1 : Int32))), .val (.ref b31), .val (.ref b36), .val (.ref b41), .unset, .unset, .unset] [(.ref b99)])
      refine own_st (fun _ k => XS.dup X101.here hx rfl (hb hby at_220) rfl rfl k) ?_
      refine own_st (fun _ k => XS.iconst X101.here hx rfl (hb hby at_221) k) ?_
      refine own_st (fun _ k => XS.aload X101.here hx rfl (hb hby at_222) rfl rfl k) ?_
      refine own_st (fun _ k => XS.iconst X101.here hx rfl (hb hby at_224) k) ?_
      refine own_st (own_ldR X101 hx hZ e101 V_b41_101 rfl (j := (2 : Int32)) (by decide) (v := (.ref b46)) rfl (g := (mkF m 225 #[.val (.int p1), .val (.int p2), .val (.int p3), .val (.int p4), .val (.long q5), .second, .val (.int p6), .val (.int fg), .val (.int fh), .val (.int (3 : Int32)), .val (.int (0 : Int32)), .val (.ref b21), .val (.ref b26), .val (.int (q5.toInt32)), .val (.int (((q5.toUInt64 >>> ((32 : Int32) &&& 0x3f).toInt64.toUInt64).toInt64).toInt32)), .val (.int (p1 ^^^ p4)), .val (.int (p2 ^^^ (-1 : Int32))), .val (.ref b31), .val (.ref b36), .val (.ref b41), .unset, .unset, .unset] [(.int (2 : Int32)), (.ref b41), (.int (2 : Int32)), (.ref b99), (.ref b99)])) rfl rfl (hb hby at_225)) ?_
      obtain ⟨T102, hp102, X102, e102, W102, Va102, st102⟩ := own_stR X101 hx hZ e101 Va101 rfl rfl (by decide) 2 (by decide) (Nat.le_of_ble_eq_true rfl) (fun cl Ar q => Sto.ofV Ar q Ov99 (Ins.of_exa Ex_b46_101 (own_w3 hw))) (g := (mkF m 226 #[.val (.int p1), .val (.int p2), .val (.int p3), .val (.int p4), .val (.long q5), .second, .val (.int p6), .val (.int fg), .val (.int fh), .val (.int (3 : Int32)), .val (.int (0 : Int32)), .val (.ref b21), .val (.ref b26), .val (.int (q5.toInt32)), .val (.int (((q5.toUInt64 >>> ((32 : Int32) &&& 0x3f).toInt64.toUInt64).toInt64).toInt32)), .val (.int (p1 ^^^ p4)), .val (.int (p2 ^^^ (-1 : Int32))), .val (.ref b31), .val (.ref b36), .val (.ref b41), .unset, .unset, .unset] [(.ref b46), (.int (2 : Int32)), (.ref b99), (.ref b99)])) rfl rfl (hb hby at_226)
      have O102 := own_extw O101 W102 s_b99
      have V_b21_102 := V_b21_101.other W102 (Nat.ne_of_lt lt_b21_b99)
      have V_b26_102 := V_b26_101.other W102 (Nat.ne_of_lt lt_b26_b99)
      have V_b31_102 := V_b31_101.other W102 (Nat.ne_of_lt lt_b31_b99)
      have V_b36_102 := V_b36_101.other W102 (Nat.ne_of_lt lt_b36_b99)
      have V_b41_102 := V_b41_101.other W102 (Nat.ne_of_lt lt_b41_b99)
      have V_b42_102 := V_b42_101.other W102 (Nat.ne_of_lt lt_b42_b99)
      have V_b44_102 := V_b44_101.other W102 (Nat.ne_of_lt lt_b44_b99)
      have V_b46_102 := V_b46_101.other W102 (Nat.ne_of_lt lt_b46_b99)
      have V_b48_102 := V_b48_101.other W102 (Nat.ne_of_lt lt_b48_b99)
      have Ex_b21_102 := Ex_b21_101.wr W102
      have Ex_b26_102 := Ex_b26_101.wr W102
      have Ex_b31_102 := Ex_b31_101.wr W102
      have Ex_b36_102 := Ex_b36_101.wr W102
      have Ex_b42_102 := Ex_b42_101.wr W102
      have Ex_b44_102 := Ex_b44_101.wr W102
      have Ex_b46_102 := Ex_b46_101.wr W102
      have Ex_b48_102 := Ex_b48_101.wr W102
      have Va102 : Arv Z hp102 b99 kk99 (.object "java/lang/Object") (4 : Int32) [.null, (.ref b44), (.ref b46), .null] .null := Va102
      have N102 := Fr.snoc X102 N101 g_b99
      refine own_st st102 ?_
      show own_Go _ _ _ _ T102 (mkF m 227 #[.val (.int p1), .val (.int p2), .val (.int p3), .val (.int p4), .val (.long q5), .second, .val (.int p6), .val (.int fg), .val (.int fh), .val (.int (3 : Int32)), .val (.int (0 : Int32)), .val (.ref b21), .val (.ref b26), .val (.int (q5.toInt32)), .val (.int (((q5.toUInt64 >>> ((32 : Int32) &&& 0x3f).toInt64.toUInt64).toInt64).toInt32)), .val (.int (p1 ^^^ p4)), .val (.int (p2 ^^^ (-1 : Int32))), .val (.ref b31), .val (.ref b36), .val (.ref b41), .unset, .unset, .unset] [(.ref b99)])
      refine own_st (fun _ k => XS.dup X102.here hx rfl (hb hby at_227) rfl rfl k) ?_
      refine own_st (fun _ k => XS.iconst X102.here hx rfl (hb hby at_228) k) ?_
      refine own_st (fun _ k => XS.aload X102.here hx rfl (hb hby at_229) rfl rfl k) ?_
      refine own_st (fun _ k => XS.iconst X102.here hx rfl (hb hby at_231) k) ?_
      refine own_st (own_ldR X102 hx hZ e102 V_b41_102 rfl (j := (3 : Int32)) (by decide) (v := (.ref b48)) rfl (g := (mkF m 232 #[.val (.int p1), .val (.int p2), .val (.int p3), .val (.int p4), .val (.long q5), .second, .val (.int p6), .val (.int fg), .val (.int fh), .val (.int (3 : Int32)), .val (.int (0 : Int32)), .val (.ref b21), .val (.ref b26), .val (.int (q5.toInt32)), .val (.int (((q5.toUInt64 >>> ((32 : Int32) &&& 0x3f).toInt64.toUInt64).toInt64).toInt32)), .val (.int (p1 ^^^ p4)), .val (.int (p2 ^^^ (-1 : Int32))), .val (.ref b31), .val (.ref b36), .val (.ref b41), .unset, .unset, .unset] [(.int (3 : Int32)), (.ref b41), (.int (3 : Int32)), (.ref b99), (.ref b99)])) rfl rfl (hb hby at_232)) ?_
      obtain ⟨T103, hp103, X103, e103, W103, Va103, st103⟩ := own_stR X102 hx hZ e102 Va102 rfl rfl (by decide) 3 (by decide) (Nat.le_of_ble_eq_true rfl) (fun cl Ar q => Sto.ofV Ar q Ov99 (Ins.of_exa Ex_b48_102 (own_w3 hw))) (g := (mkF m 233 #[.val (.int p1), .val (.int p2), .val (.int p3), .val (.int p4), .val (.long q5), .second, .val (.int p6), .val (.int fg), .val (.int fh), .val (.int (3 : Int32)), .val (.int (0 : Int32)), .val (.ref b21), .val (.ref b26), .val (.int (q5.toInt32)), .val (.int (((q5.toUInt64 >>> ((32 : Int32) &&& 0x3f).toInt64.toUInt64).toInt64).toInt32)), .val (.int (p1 ^^^ p4)), .val (.int (p2 ^^^ (-1 : Int32))), .val (.ref b31), .val (.ref b36), .val (.ref b41), .unset, .unset, .unset] [(.ref b48), (.int (3 : Int32)), (.ref b99), (.ref b99)])) rfl rfl (hb hby at_233)
      have O103 := own_extw O102 W103 s_b99
      have V_b21_103 := V_b21_102.other W103 (Nat.ne_of_lt lt_b21_b99)
      have V_b26_103 := V_b26_102.other W103 (Nat.ne_of_lt lt_b26_b99)
      have V_b31_103 := V_b31_102.other W103 (Nat.ne_of_lt lt_b31_b99)
      have V_b36_103 := V_b36_102.other W103 (Nat.ne_of_lt lt_b36_b99)
      have V_b41_103 := V_b41_102.other W103 (Nat.ne_of_lt lt_b41_b99)
      have V_b42_103 := V_b42_102.other W103 (Nat.ne_of_lt lt_b42_b99)
      have V_b44_103 := V_b44_102.other W103 (Nat.ne_of_lt lt_b44_b99)
      have V_b46_103 := V_b46_102.other W103 (Nat.ne_of_lt lt_b46_b99)
      have V_b48_103 := V_b48_102.other W103 (Nat.ne_of_lt lt_b48_b99)
      have Ex_b21_103 := Ex_b21_102.wr W103
      have Ex_b26_103 := Ex_b26_102.wr W103
      have Ex_b31_103 := Ex_b31_102.wr W103
      have Ex_b36_103 := Ex_b36_102.wr W103
      have Ex_b42_103 := Ex_b42_102.wr W103
      have Ex_b44_103 := Ex_b44_102.wr W103
      have Ex_b46_103 := Ex_b46_102.wr W103
      have Ex_b48_103 := Ex_b48_102.wr W103
      have Va103 : Arv Z hp103 b99 kk99 (.object "java/lang/Object") (4 : Int32) [.null, (.ref b44), (.ref b46), (.ref b48)] .null := Va103
      have N103 := Fr.snoc X103 N102 g_b99
      refine own_st st103 ?_
      show own_Go _ _ _ _ T103 (mkF m 234 #[.val (.int p1), .val (.int p2), .val (.int p3), .val (.int p4), .val (.long q5), .second, .val (.int p6), .val (.int fg), .val (.int fh), .val (.int (3 : Int32)), .val (.int (0 : Int32)), .val (.ref b21), .val (.ref b26), .val (.int (q5.toInt32)), .val (.int (((q5.toUInt64 >>> ((32 : Int32) &&& 0x3f).toInt64.toUInt64).toInt64).toInt32)), .val (.int (p1 ^^^ p4)), .val (.int (p2 ^^^ (-1 : Int32))), .val (.ref b31), .val (.ref b36), .val (.ref b41), .unset, .unset, .unset] [(.ref b99)])
      refine own_st (fun _ k => XS.astore X103.here hx rfl (hb hby at_234) rfl rfl (l' := #[.val (.int p1), .val (.int p2), .val (.int p3), .val (.int p4), .val (.long q5), .second, .val (.int p6), .val (.int fg), .val (.int fh), .val (.int (3 : Int32)), .val (.int (0 : Int32)), .val (.ref b21), .val (.ref b26), .val (.int (q5.toInt32)), .val (.int (((q5.toUInt64 >>> ((32 : Int32) &&& 0x3f).toInt64.toUInt64).toInt64).toInt32)), .val (.int (p1 ^^^ p4)), .val (.int (p2 ^^^ (-1 : Int32))), .val (.ref b31), .val (.ref b36), .val (.ref b41), .val (.ref b99), .unset, .unset]) rfl k) ?_
      obtain ⟨T104, hp104, X104, e104, Et104, A104, D104, -, st104⟩ := newO X103 hx hZ hown (own_w4 hw) (own_w5 hw) (own_w6 hw) e103 (g := (mkF m 236 #[.val (.int p1), .val (.int p2), .val (.int p3), .val (.int p4), .val (.long q5), .second, .val (.int p6), .val (.int fg), .val (.int fh), .val (.int (3 : Int32)), .val (.int (0 : Int32)), .val (.ref b21), .val (.ref b26), .val (.int (q5.toInt32)), .val (.int (((q5.toUInt64 >>> ((32 : Int32) &&& 0x3f).toInt64.toUInt64).toInt64).toInt32)), .val (.int (p1 ^^^ p4)), .val (.int (p2 ^^^ (-1 : Int32))), .val (.ref b31), .val (.ref b36), .val (.ref b41), .val (.ref b99), .unset, .unset] [])) rfl (hb hby at_236) (by decide) (by decide)
      obtain ⟨b104, g104⟩ : ∃ z, z = hp103.size := ⟨_, rfl⟩
      rw [← g104] at A104 D104 st104
      have s_b104 : h0.size ≤ b104 := Nat.le_trans O103.1 (Nat.le_of_eq g104.symm)
      have g_b104 : n0 ≤ b104 := Nat.le_trans Z0 s_b104
      have lt_b21_b104 : b21 < b104 := Nat.lt_of_lt_of_le V_b21_103.lt (Nat.le_of_eq g104.symm)
      have lt_b26_b104 : b26 < b104 := Nat.lt_of_lt_of_le V_b26_103.lt (Nat.le_of_eq g104.symm)
      have lt_b31_b104 : b31 < b104 := Nat.lt_of_lt_of_le V_b31_103.lt (Nat.le_of_eq g104.symm)
      have lt_b36_b104 : b36 < b104 := Nat.lt_of_lt_of_le V_b36_103.lt (Nat.le_of_eq g104.symm)
      have lt_b41_b104 : b41 < b104 := Nat.lt_of_lt_of_le V_b41_103.lt (Nat.le_of_eq g104.symm)
      have lt_b42_b104 : b42 < b104 := Nat.lt_of_lt_of_le V_b42_103.lt (Nat.le_of_eq g104.symm)
      have lt_b44_b104 : b44 < b104 := Nat.lt_of_lt_of_le V_b44_103.lt (Nat.le_of_eq g104.symm)
      have lt_b46_b104 : b46 < b104 := Nat.lt_of_lt_of_le V_b46_103.lt (Nat.le_of_eq g104.symm)
      have lt_b48_b104 : b48 < b104 := Nat.lt_of_lt_of_le V_b48_103.lt (Nat.le_of_eq g104.symm)
      have lt_b99_b104 : b99 < b104 := Nat.lt_of_lt_of_le Va103.lt (Nat.le_of_eq g104.symm)
      have O104 := own_extt O103 Et104
      have V_b21_104 := V_b21_103.ext Et104
      have V_b26_104 := V_b26_103.ext Et104
      have V_b31_104 := V_b31_103.ext Et104
      have V_b36_104 := V_b36_103.ext Et104
      have V_b41_104 := V_b41_103.ext Et104
      have V_b42_104 := V_b42_103.ext Et104
      have V_b44_104 := V_b44_103.ext Et104
      have V_b46_104 := V_b46_103.ext Et104
      have V_b48_104 := V_b48_103.ext Et104
      have V_b99_104 := Va103.ext Et104
      have Ex_b21_104 := Ex_b21_103.ext Et104
      have Ex_b26_104 := Ex_b26_103.ext Et104
      have Ex_b31_104 := Ex_b31_103.ext Et104
      have Ex_b36_104 := Ex_b36_103.ext Et104
      have Ex_b42_104 := Ex_b42_103.ext Et104
      have Ex_b44_104 := Ex_b44_103.ext Et104
      have Ex_b46_104 := Ex_b46_103.ext Et104
      have Ex_b48_104 := Ex_b48_103.ext Et104
      have F_keys_b104 : Fld Z hp104 b104 "com/example/sheaf/sheaf/CompactHash" "keys" "[Ljava/lang/Object;" .null := D104 (Or.inl (own_w21 hw)) (ty := (.array (.object "java/lang/Object"))) (by decide)
      have F_index_b104 : Fld Z hp104 b104 "com/example/sheaf/sheaf/CompactHash" "index" "[I" .null := D104 (Or.inl (own_w25 hw)) (ty := (.array .int)) (by decide)
      have F_counts_b104 : Fld Z hp104 b104 "com/example/sheaf/sheaf/CountedKeys" "counts" "[I" .null := D104 (Or.inl (own_w29 hw)) (ty := (.array .int)) (by decide)
      have F_heads_b104 : Fld Z hp104 b104 "com/example/sheaf/sheaf/CountedKeys" "heads" "[I" .null := D104 (Or.inl (own_w32 hw)) (ty := (.array .int)) (by decide)
      have F_groups_b104 : Fld Z hp104 b104 "com/example/sheaf/sheaf/CountedKeys" "groups" "[Ljava/lang/Object;" .null := D104 (Or.inl (own_w39 hw)) (ty := (.array (.object "java/lang/Object"))) (by decide)
      refine own_st st104 ?_
      refine own_st (fun _ k => XS.dup X104.here hx rfl (hb hby at_239) rfl rfl k) ?_
      obtain ⟨v105, T105, L105, hQ105, X105, st105⟩ := own_callI X104 hx hZ (y := (⟨"com/example/sheaf/sheaf/CountedKeys", "<init>", "()V"⟩ : MethodName)) rfl hown (own_w7 hw) (own_w8 hw) (own_w6 hw) (own_w9 hw) (by decide) (own_ck l hw [] b104 wo wi hp104 n0 (Nat.le_trans Z0 O104.1) (So.ext O104) (Si.ext O104) g_b104 A104 F_keys_b104 F_index_b104 F_counts_b104 F_groups_b104 F_heads_b104) e104 (g := (mkF m 240 #[.val (.int p1), .val (.int p2), .val (.int p3), .val (.int p4), .val (.long q5), .second, .val (.int p6), .val (.int fg), .val (.int fh), .val (.int (3 : Int32)), .val (.int (0 : Int32)), .val (.ref b21), .val (.ref b26), .val (.int (q5.toInt32)), .val (.int (((q5.toUInt64 >>> ((32 : Int32) &&& 0x3f).toInt64.toUInt64).toInt64).toInt32)), .val (.int (p1 ^^^ p4)), .val (.int (p2 ^^^ (-1 : Int32))), .val (.ref b31), .val (.ref b36), .val (.ref b41), .val (.ref b99), .unset, .unset] [(.ref b104), (.ref b104)])) rfl (by rw [hml]; rfl) (argsL := []) (rest := [(.ref b104)]) (lenOf own_pd0 rfl) rfl rfl (W := 1) (Nat.le_of_eq rfl) (hb hby at_240) (by decide) (by decide) (by decide) (by decide)
      obtain ⟨rfl, N105, K105, Fc105, Fg105, Fh105⟩ := hQ105
      have O105 := own_extk O104 K105 s_b104
      have V_b21_105 := V_b21_104.keep K105 (ninS (Nat.ne_of_lt lt_b21_b104) nin0)
      have V_b26_105 := V_b26_104.keep K105 (ninS (Nat.ne_of_lt lt_b26_b104) nin0)
      have V_b31_105 := V_b31_104.keep K105 (ninS (Nat.ne_of_lt lt_b31_b104) nin0)
      have V_b36_105 := V_b36_104.keep K105 (ninS (Nat.ne_of_lt lt_b36_b104) nin0)
      have V_b41_105 := V_b41_104.keep K105 (ninS (Nat.ne_of_lt lt_b41_b104) nin0)
      have V_b42_105 := V_b42_104.keep K105 (ninS (Nat.ne_of_lt lt_b42_b104) nin0)
      have V_b44_105 := V_b44_104.keep K105 (ninS (Nat.ne_of_lt lt_b44_b104) nin0)
      have V_b46_105 := V_b46_104.keep K105 (ninS (Nat.ne_of_lt lt_b46_b104) nin0)
      have V_b48_105 := V_b48_104.keep K105 (ninS (Nat.ne_of_lt lt_b48_b104) nin0)
      have V_b99_105 := V_b99_104.keep K105 (ninS (Nat.ne_of_lt lt_b99_b104) nin0)
      have Ex_b21_105 := Ex_b21_104.keep K105
      have Ex_b26_105 := Ex_b26_104.keep K105
      have Ex_b31_105 := Ex_b31_104.keep K105
      have Ex_b36_105 := Ex_b36_104.keep K105
      have Ex_b42_105 := Ex_b42_104.keep K105
      have Ex_b44_105 := Ex_b44_104.keep K105
      have Ex_b46_105 := Ex_b46_104.keep K105
      have Ex_b48_105 := Ex_b48_104.keep K105
      have Ex_b104_105 := A104.keep K105
      have N105' := Fr.app N103 N105
      refine own_st st105 ?_
      refine own_st (fun _ k => XS.astore X105.here hx rfl (hb hby at_243) rfl rfl (l' := #[.val (.int p1), .val (.int p2), .val (.int p3), .val (.int p4), .val (.long q5), .second, .val (.int p6), .val (.int fg), .val (.int fh), .val (.int (3 : Int32)), .val (.int (0 : Int32)), .val (.ref b21), .val (.ref b26), .val (.int (q5.toInt32)), .val (.int (((q5.toUInt64 >>> ((32 : Int32) &&& 0x3f).toInt64.toUInt64).toInt64).toInt32)), .val (.int (p1 ^^^ p4)), .val (.int (p2 ^^^ (-1 : Int32))), .val (.ref b31), .val (.ref b36), .val (.ref b41), .val (.ref b99), .val (.ref b104), .unset]) rfl k) ?_
      refine own_st (fun _ k => XS.aload X105.here hx rfl (hb hby at_245) rfl rfl k) ?_
      show own_Go _ _ _ _ T105 (mkF m 247 #[.val (.int p1), .val (.int p2), .val (.int p3), .val (.int p4), .val (.long q5), .second, .val (.int p6), .val (.int fg), .val (.int fh), .val (.int (3 : Int32)), .val (.int (0 : Int32)), .val (.ref b21), .val (.ref b26), .val (.int (q5.toInt32)), .val (.int (((q5.toUInt64 >>> ((32 : Int32) &&& 0x3f).toInt64.toUInt64).toInt64).toInt32)), .val (.int (p1 ^^^ p4)), .val (.int (p2 ^^^ (-1 : Int32))), .val (.ref b31), .val (.ref b36), .val (.ref b41), .val (.ref b99), .val (.ref b104), .unset] [(.ref b104)])
      refine own_st (fun _ k => XS.aload X105.here hx rfl (hb hby at_247) rfl rfl k) ?_
      obtain ⟨T106, hp106, X106, e106, W106, st106⟩ := putF X105 hx hZ hown (host := "") (Or.inl (own_w30 hw)) Via.refl rfl Fc105 Ex_b104_105 (Or.inl (own_w29 hw)) (own_w5 hw) (ty := (.array .int)) (by decide) rfl rfl (g := (mkF m 249 #[.val (.int p1), .val (.int p2), .val (.int p3), .val (.int p4), .val (.long q5), .second, .val (.int p6), .val (.int fg), .val (.int fh), .val (.int (3 : Int32)), .val (.int (0 : Int32)), .val (.ref b21), .val (.ref b26), .val (.int (q5.toInt32)), .val (.int (((q5.toUInt64 >>> ((32 : Int32) &&& 0x3f).toInt64.toUInt64).toInt64).toInt32)), .val (.int (p1 ^^^ p4)), .val (.int (p2 ^^^ (-1 : Int32))), .val (.ref b31), .val (.ref b36), .val (.ref b41), .val (.ref b99), .val (.ref b104), .unset] [(.ref b26), (.ref b104)])) rfl rfl (hb hby at_249)
      have O106 := own_extw O105 W106 s_b104
      have V_b21_106 := V_b21_105.other W106 (Nat.ne_of_lt lt_b21_b104)
      have V_b26_106 := V_b26_105.other W106 (Nat.ne_of_lt lt_b26_b104)
      have V_b31_106 := V_b31_105.other W106 (Nat.ne_of_lt lt_b31_b104)
      have V_b36_106 := V_b36_105.other W106 (Nat.ne_of_lt lt_b36_b104)
      have V_b41_106 := V_b41_105.other W106 (Nat.ne_of_lt lt_b41_b104)
      have V_b42_106 := V_b42_105.other W106 (Nat.ne_of_lt lt_b42_b104)
      have V_b44_106 := V_b44_105.other W106 (Nat.ne_of_lt lt_b44_b104)
      have V_b46_106 := V_b46_105.other W106 (Nat.ne_of_lt lt_b46_b104)
      have V_b48_106 := V_b48_105.other W106 (Nat.ne_of_lt lt_b48_b104)
      have V_b99_106 := V_b99_105.other W106 (Nat.ne_of_lt lt_b99_b104)
      have Ex_b21_106 := Ex_b21_105.wr W106
      have Ex_b26_106 := Ex_b26_105.wr W106
      have Ex_b31_106 := Ex_b31_105.wr W106
      have Ex_b36_106 := Ex_b36_105.wr W106
      have Ex_b42_106 := Ex_b42_105.wr W106
      have Ex_b44_106 := Ex_b44_105.wr W106
      have Ex_b46_106 := Ex_b46_105.wr W106
      have Ex_b48_106 := Ex_b48_105.wr W106
      have Ex_b104_106 := Ex_b104_105.wr W106
      have F_groups_b104_106 := Fg105.other W106 (Or.inr (slot_ne (Or.inl (own_w39 hw)) (Or.inl (own_w29 hw)) (by decide) (t := (.array (.object "java/lang/Object"))) (t' := (.array .int)) (by decide) (by decide)))
      have F_heads_b104_106 := Fh105.other W106 (Or.inr (slot_ne (Or.inl (own_w32 hw)) (Or.inl (own_w29 hw)) (by decide) (t := (.array .int)) (t' := (.array .int)) (by decide) (by decide)))
      have F_counts_b104_106 := Fc105.same W106
      have N106 := Fr.snoc X106 N105' g_b104
      refine own_st st106 ?_
      refine own_st (fun _ k => XS.iload X106.here hx rfl (hb hby at_252) rfl k) ?_
      rcases hfg with rfl | rfl
      · show own_Go _ _ _ _ T106 (mkF m 254 #[.val (.int p1), .val (.int p2), .val (.int p3), .val (.int p4), .val (.long q5), .second, .val (.int p6), .val (.int (0 : Int32)), .val (.int fh), .val (.int (3 : Int32)), .val (.int (0 : Int32)), .val (.ref b21), .val (.ref b26), .val (.int (q5.toInt32)), .val (.int (((q5.toUInt64 >>> ((32 : Int32) &&& 0x3f).toInt64.toUInt64).toInt64).toInt32)), .val (.int (p1 ^^^ p4)), .val (.int (p2 ^^^ (-1 : Int32))), .val (.ref b31), .val (.ref b36), .val (.ref b41), .val (.ref b99), .val (.ref b104), .unset] [(.int (0 : Int32))])
        refine own_st (fun _ k => XS.ifYes X106.here hx rfl (pc0 := 254) (pc' := 264) rfl (hb hby at_254) rfl ((if0 _ _).trans (teq (by decide : (0 : Int32) = (0 : Int32))).1) (by decide) (by decide) k) ?_
        refine own_st (fun _ k => XS.iload X106.here hx rfl (hb hby at_264) rfl k) ?_
        rcases hfh with rfl | rfl
        · show own_Go _ _ _ _ T106 (mkF m 266 #[.val (.int p1), .val (.int p2), .val (.int p3), .val (.int p4), .val (.long q5), .second, .val (.int p6), .val (.int (0 : Int32)), .val (.int (0 : Int32)), .val (.int (3 : Int32)), .val (.int (0 : Int32)), .val (.ref b21), .val (.ref b26), .val (.int (q5.toInt32)), .val (.int (((q5.toUInt64 >>> ((32 : Int32) &&& 0x3f).toInt64.toUInt64).toInt64).toInt32)), .val (.int (p1 ^^^ p4)), .val (.int (p2 ^^^ (-1 : Int32))), .val (.ref b31), .val (.ref b36), .val (.ref b41), .val (.ref b99), .val (.ref b104), .unset] [(.int (0 : Int32))])
          refine own_st (fun _ k => XS.ifYes X106.here hx rfl (pc0 := 266) (pc' := 276) rfl (hb hby at_266) rfl ((if0 _ _).trans (teq (by decide : (0 : Int32) = (0 : Int32))).1) (by decide) (by decide) k) ?_
          refine own_st (fun _ k => XS.aload X106.here hx rfl (hb hby at_276) rfl rfl k) ?_
          refine own_st (fun _ k => XS.iload X106.here hx rfl (hb hby at_278) rfl k) ?_
          refine own_st (fun _ k => XS.iload X106.here hx rfl (hb hby at_280) rfl k) ?_
          obtain ⟨v107, T107, L107, hQ107, X107, st107⟩ := own_callV X106 hx hZ (y := (⟨"com/example/sheaf/sheaf/CountedKeys", "move", "(II)V"⟩ : MethodName)) hown (own_w33 hw) (own_w34 hw) (own_w36 hw) (own_w35 hw) (own_w6 hw) (own_w37 hw) (by decide) (own_mv00 l hw [] b104 b26 b99 b36 (3 : Int32) (0 : Int32) p4 (p2 ^^^ (-1 : Int32)) (.ref b48) kk26 kk99 kk36 [(.int p1), (.int p2), (.int p3), (.int p4)] [.null, (.ref b44), (.ref b46), (.ref b48)] [(.int (q5.toInt32)), (.int (((q5.toUInt64 >>> ((32 : Int32) &&& 0x3f).toInt64.toUInt64).toInt64).toInt32)), (.int (p1 ^^^ p4)), (.int (p2 ^^^ (-1 : Int32)))] hp106 n0 (Nat.le_trans Z0 O106.1) (by decide) (by decide) (Nat.le_of_ble_eq_true rfl) g_b26 V_b26_106 rfl (Nat.ne_of_gt lt_b26_b104) F_counts_b104_106 F_groups_b104_106 F_heads_b104_106) e106 Ex_b104_106 (g := (mkF m 282 #[.val (.int p1), .val (.int p2), .val (.int p3), .val (.int p4), .val (.long q5), .second, .val (.int p6), .val (.int (0 : Int32)), .val (.int (0 : Int32)), .val (.int (3 : Int32)), .val (.int (0 : Int32)), .val (.ref b21), .val (.ref b26), .val (.int (q5.toInt32)), .val (.int (((q5.toUInt64 >>> ((32 : Int32) &&& 0x3f).toInt64.toUInt64).toInt64).toInt32)), .val (.int (p1 ^^^ p4)), .val (.int (p2 ^^^ (-1 : Int32))), .val (.ref b31), .val (.ref b36), .val (.ref b41), .val (.ref b99), .val (.ref b104), .unset] [(.int (0 : Int32)), (.int (3 : Int32)), (.ref b104)])) rfl (by rw [hml]; rfl) (argsL := [(.int (3 : Int32)), (.int (0 : Int32))]) (rest := []) (lenOf own_pd5 rfl) rfl rfl (W := 0) (Nat.le_of_eq rfl) (hb hby at_282) (by decide) (by decide) (by decide) (by decide)
          obtain ⟨rfl, N107, K107, Vc107⟩ := hQ107
          have Vc107 : Arv Z T107.heap b26 kk26 .int 4 [(.int p4), (.int p2), (.int p3), (.int p4)] (.int (0 : Int32)) := Vc107
          have O107 : Ext h0 T107.heap := ⟨Nat.le_trans O106.1 K107.1, fun x c r => K107.2.1 x c (O106.2 x c r) (fun z => by
            have q := (Array.getElem?_eq_some_iff.mp r).1
            simp only [List.mem_cons, List.not_mem_nil, or_false] at z
            rcases z with rfl
            exact absurd q (Nat.not_lt.mpr s_b26))⟩
          have V_b21_107 := V_b21_106.keep K107 (ninS (Nat.ne_of_lt lt_b21_b26) nin0)
          have V_b31_107 := V_b31_106.keep K107 (ninS (Nat.ne_of_gt lt_b26_b31) nin0)
          have V_b36_107 := V_b36_106.keep K107 (ninS (Nat.ne_of_gt lt_b26_b36) nin0)
          have V_b41_107 := V_b41_106.keep K107 (ninS (Nat.ne_of_gt lt_b26_b41) nin0)
          have V_b42_107 := V_b42_106.keep K107 (ninS (Nat.ne_of_gt lt_b26_b42) nin0)
          have V_b44_107 := V_b44_106.keep K107 (ninS (Nat.ne_of_gt lt_b26_b44) nin0)
          have V_b46_107 := V_b46_106.keep K107 (ninS (Nat.ne_of_gt lt_b26_b46) nin0)
          have V_b48_107 := V_b48_106.keep K107 (ninS (Nat.ne_of_gt lt_b26_b48) nin0)
          have V_b99_107 := V_b99_106.keep K107 (ninS (Nat.ne_of_gt lt_b26_b99) nin0)
          have Ex_b21_107 := Ex_b21_106.keep K107
          have Ex_b26_107 := Ex_b26_106.keep K107
          have Ex_b31_107 := Ex_b31_106.keep K107
          have Ex_b36_107 := Ex_b36_106.keep K107
          have Ex_b42_107 := Ex_b42_106.keep K107
          have Ex_b44_107 := Ex_b44_106.keep K107
          have Ex_b46_107 := Ex_b46_106.keep K107
          have Ex_b48_107 := Ex_b48_106.keep K107
          have Ex_b104_107 := Ex_b104_106.keep K107
          have F_counts_b104_107 := F_counts_b104_106.keep K107 (ninS (Nat.ne_of_gt lt_b26_b104) nin0)
          have F_groups_b104_107 := F_groups_b104_106.keep K107 (ninS (Nat.ne_of_gt lt_b26_b104) nin0)
          have F_heads_b104_107 := F_heads_b104_106.keep K107 (ninS (Nat.ne_of_gt lt_b26_b104) nin0)
          have N107' := Fr.app N106 N107
          refine own_st st107 ?_
          show own_Go _ _ _ _ T107 (mkF m 285 #[.val (.int p1), .val (.int p2), .val (.int p3), .val (.int p4), .val (.long q5), .second, .val (.int p6), .val (.int (0 : Int32)), .val (.int (0 : Int32)), .val (.int (3 : Int32)), .val (.int (0 : Int32)), .val (.ref b21), .val (.ref b26), .val (.int (q5.toInt32)), .val (.int (((q5.toUInt64 >>> ((32 : Int32) &&& 0x3f).toInt64.toUInt64).toInt64).toInt32)), .val (.int (p1 ^^^ p4)), .val (.int (p2 ^^^ (-1 : Int32))), .val (.ref b31), .val (.ref b36), .val (.ref b41), .val (.ref b99), .val (.ref b104), .unset] [])
          exact tl00 _ _ _ X107 N107' rfl O107 _ _ _ _ _ _ _ _ _ _ _ _ _ F_counts_b104_107 F_groups_b104_107 F_heads_b104_107 (own_im30 l hw [] b26 b21 (3 : Int32) (0 : Int32) kk26 kk21 p1 p2 p3 p4 T107.heap n0 (Nat.le_trans Z0 O107.1) rfl rfl Vc107 V_b21_107)
        · show own_Go _ _ _ _ T106 (mkF m 266 #[.val (.int p1), .val (.int p2), .val (.int p3), .val (.int p4), .val (.long q5), .second, .val (.int p6), .val (.int (0 : Int32)), .val (.int (1 : Int32)), .val (.int (3 : Int32)), .val (.int (0 : Int32)), .val (.ref b21), .val (.ref b26), .val (.int (q5.toInt32)), .val (.int (((q5.toUInt64 >>> ((32 : Int32) &&& 0x3f).toInt64.toUInt64).toInt64).toInt32)), .val (.int (p1 ^^^ p4)), .val (.int (p2 ^^^ (-1 : Int32))), .val (.ref b31), .val (.ref b36), .val (.ref b41), .val (.ref b99), .val (.ref b104), .unset] [(.int (1 : Int32))])
          refine own_st (fun _ k => XS.ifNo X106.here hx rfl (hb hby at_266) rfl ((if0 _ _).trans (feq (by decide : ¬ ((1 : Int32) = (0 : Int32)))).1) k) ?_
          refine own_st (fun _ k => XS.aload X106.here hx rfl (hb hby at_269) rfl rfl k) ?_
          refine own_st (fun _ k => XS.aload X106.here hx rfl (hb hby at_271) rfl rfl k) ?_
          obtain ⟨T108, hp108, X108, e108, W108, st108⟩ := putF X106 hx hZ hown (host := "") (Or.inl (own_w31 hw)) Via.refl e106 F_heads_b104_106 Ex_b104_106 (Or.inl (own_w32 hw)) (own_w5 hw) (ty := (.array .int)) (by decide) rfl rfl (g := (mkF m 273 #[.val (.int p1), .val (.int p2), .val (.int p3), .val (.int p4), .val (.long q5), .second, .val (.int p6), .val (.int (0 : Int32)), .val (.int (1 : Int32)), .val (.int (3 : Int32)), .val (.int (0 : Int32)), .val (.ref b21), .val (.ref b26), .val (.int (q5.toInt32)), .val (.int (((q5.toUInt64 >>> ((32 : Int32) &&& 0x3f).toInt64.toUInt64).toInt64).toInt32)), .val (.int (p1 ^^^ p4)), .val (.int (p2 ^^^ (-1 : Int32))), .val (.ref b31), .val (.ref b36), .val (.ref b41), .val (.ref b99), .val (.ref b104), .unset] [(.ref b36), (.ref b104)])) rfl rfl (hb hby at_273)
          have O108 := own_extw O106 W108 s_b104
          have V_b21_108 := V_b21_106.other W108 (Nat.ne_of_lt lt_b21_b104)
          have V_b26_108 := V_b26_106.other W108 (Nat.ne_of_lt lt_b26_b104)
          have V_b31_108 := V_b31_106.other W108 (Nat.ne_of_lt lt_b31_b104)
          have V_b36_108 := V_b36_106.other W108 (Nat.ne_of_lt lt_b36_b104)
          have V_b41_108 := V_b41_106.other W108 (Nat.ne_of_lt lt_b41_b104)
          have V_b42_108 := V_b42_106.other W108 (Nat.ne_of_lt lt_b42_b104)
          have V_b44_108 := V_b44_106.other W108 (Nat.ne_of_lt lt_b44_b104)
          have V_b46_108 := V_b46_106.other W108 (Nat.ne_of_lt lt_b46_b104)
          have V_b48_108 := V_b48_106.other W108 (Nat.ne_of_lt lt_b48_b104)
          have V_b99_108 := V_b99_106.other W108 (Nat.ne_of_lt lt_b99_b104)
          have Ex_b21_108 := Ex_b21_106.wr W108
          have Ex_b26_108 := Ex_b26_106.wr W108
          have Ex_b31_108 := Ex_b31_106.wr W108
          have Ex_b36_108 := Ex_b36_106.wr W108
          have Ex_b42_108 := Ex_b42_106.wr W108
          have Ex_b44_108 := Ex_b44_106.wr W108
          have Ex_b46_108 := Ex_b46_106.wr W108
          have Ex_b48_108 := Ex_b48_106.wr W108
          have Ex_b104_108 := Ex_b104_106.wr W108
          have F_counts_b104_108 := F_counts_b104_106.other W108 (Or.inr (slot_ne (Or.inl (own_w29 hw)) (Or.inl (own_w32 hw)) (by decide) (t := (.array .int)) (t' := (.array .int)) (by decide) (by decide)))
          have F_groups_b104_108 := F_groups_b104_106.other W108 (Or.inr (slot_ne (Or.inl (own_w39 hw)) (Or.inl (own_w32 hw)) (by decide) (t := (.array (.object "java/lang/Object"))) (t' := (.array .int)) (by decide) (by decide)))
          have F_heads_b104_108 := F_heads_b104_106.same W108
          have N108 := Fr.snoc X108 N106 g_b104
          refine own_st st108 ?_
          refine own_st (fun _ k => XS.aload X108.here hx rfl (hb hby at_276) rfl rfl k) ?_
          refine own_st (fun _ k => XS.iload X108.here hx rfl (hb hby at_278) rfl k) ?_
          show own_Go _ _ _ _ T108 (mkF m 280 #[.val (.int p1), .val (.int p2), .val (.int p3), .val (.int p4), .val (.long q5), .second, .val (.int p6), .val (.int (0 : Int32)), .val (.int (1 : Int32)), .val (.int (3 : Int32)), .val (.int (0 : Int32)), .val (.ref b21), .val (.ref b26), .val (.int (q5.toInt32)), .val (.int (((q5.toUInt64 >>> ((32 : Int32) &&& 0x3f).toInt64.toUInt64).toInt64).toInt32)), .val (.int (p1 ^^^ p4)), .val (.int (p2 ^^^ (-1 : Int32))), .val (.ref b31), .val (.ref b36), .val (.ref b41), .val (.ref b99), .val (.ref b104), .unset] [(.int (3 : Int32)), (.ref b104)])
          refine own_st (fun _ k => XS.iload X108.here hx rfl (hb hby at_280) rfl k) ?_
          obtain ⟨v109, T109, L109, hQ109, X109, st109⟩ := own_callV X108 hx hZ (y := (⟨"com/example/sheaf/sheaf/CountedKeys", "move", "(II)V"⟩ : MethodName)) hown (own_w33 hw) (own_w34 hw) (own_w36 hw) (own_w35 hw) (own_w6 hw) (own_w37 hw) (by decide) (own_mv01 l hw [] b104 b26 b99 b36 (3 : Int32) (0 : Int32) p4 (p2 ^^^ (-1 : Int32)) (.ref b48) kk26 kk99 kk36 [(.int p1), (.int p2), (.int p3), (.int p4)] [.null, (.ref b44), (.ref b46), (.ref b48)] [(.int (q5.toInt32)), (.int (((q5.toUInt64 >>> ((32 : Int32) &&& 0x3f).toInt64.toUInt64).toInt64).toInt32)), (.int (p1 ^^^ p4)), (.int (p2 ^^^ (-1 : Int32)))] hp108 n0 (Nat.le_trans Z0 O108.1) (by decide) (by decide) (Nat.le_of_ble_eq_true rfl) g_b26 V_b26_108 rfl (Nat.ne_of_gt lt_b26_b104) F_counts_b104_108 F_groups_b104_108 F_heads_b104_108 (Nat.le_of_ble_eq_true rfl) g_b36 V_b36_108 rfl (Nat.ne_of_gt lt_b36_b104) (Nat.ne_of_lt lt_b26_b36)) e108 Ex_b104_108 (g := (mkF m 282 #[.val (.int p1), .val (.int p2), .val (.int p3), .val (.int p4), .val (.long q5), .second, .val (.int p6), .val (.int (0 : Int32)), .val (.int (1 : Int32)), .val (.int (3 : Int32)), .val (.int (0 : Int32)), .val (.ref b21), .val (.ref b26), .val (.int (q5.toInt32)), .val (.int (((q5.toUInt64 >>> ((32 : Int32) &&& 0x3f).toInt64.toUInt64).toInt64).toInt32)), .val (.int (p1 ^^^ p4)), .val (.int (p2 ^^^ (-1 : Int32))), .val (.ref b31), .val (.ref b36), .val (.ref b41), .val (.ref b99), .val (.ref b104), .unset] [(.int (0 : Int32)), (.int (3 : Int32)), (.ref b104)])) rfl (by rw [hml]; rfl) (argsL := [(.int (3 : Int32)), (.int (0 : Int32))]) (rest := []) (lenOf own_pd5 rfl) rfl rfl (W := 0) (Nat.le_of_eq rfl) (hb hby at_282) (by decide) (by decide) (by decide) (by decide)
          obtain ⟨rfl, N109, K109, Vc109, Vh109⟩ := hQ109
          have Vc109 : Arv Z T109.heap b26 kk26 .int 4 [(.int p4), (.int p2), (.int p3), (.int p4)] (.int (0 : Int32)) := Vc109
          have Vh109 : Arv Z T109.heap b36 kk36 .int 4 [(.int (p2 ^^^ (-1 : Int32))), (.int (((q5.toUInt64 >>> ((32 : Int32) &&& 0x3f).toInt64.toUInt64).toInt64).toInt32)), (.int (p1 ^^^ p4)), (.int (p2 ^^^ (-1 : Int32)))] (.int (0 : Int32)) := Vh109
          have O109 : Ext h0 T109.heap := ⟨Nat.le_trans O108.1 K109.1, fun x c r => K109.2.1 x c (O108.2 x c r) (fun z => by
            have q := (Array.getElem?_eq_some_iff.mp r).1
            simp only [List.mem_cons, List.not_mem_nil, or_false] at z
            rcases z with rfl | rfl
            · exact absurd q (Nat.not_lt.mpr s_b26)
            · exact absurd q (Nat.not_lt.mpr s_b36))⟩
          have V_b21_109 := V_b21_108.keep K109 (ninS (Nat.ne_of_lt lt_b21_b26) (ninS (Nat.ne_of_lt lt_b21_b36) nin0))
          have V_b31_109 := V_b31_108.keep K109 (ninS (Nat.ne_of_gt lt_b26_b31) (ninS (Nat.ne_of_lt lt_b31_b36) nin0))
          have V_b41_109 := V_b41_108.keep K109 (ninS (Nat.ne_of_gt lt_b26_b41) (ninS (Nat.ne_of_gt lt_b36_b41) nin0))
          have V_b42_109 := V_b42_108.keep K109 (ninS (Nat.ne_of_gt lt_b26_b42) (ninS (Nat.ne_of_gt lt_b36_b42) nin0))
          have V_b44_109 := V_b44_108.keep K109 (ninS (Nat.ne_of_gt lt_b26_b44) (ninS (Nat.ne_of_gt lt_b36_b44) nin0))
          have V_b46_109 := V_b46_108.keep K109 (ninS (Nat.ne_of_gt lt_b26_b46) (ninS (Nat.ne_of_gt lt_b36_b46) nin0))
          have V_b48_109 := V_b48_108.keep K109 (ninS (Nat.ne_of_gt lt_b26_b48) (ninS (Nat.ne_of_gt lt_b36_b48) nin0))
          have V_b99_109 := V_b99_108.keep K109 (ninS (Nat.ne_of_gt lt_b26_b99) (ninS (Nat.ne_of_gt lt_b36_b99) nin0))
          have Ex_b21_109 := Ex_b21_108.keep K109
          have Ex_b26_109 := Ex_b26_108.keep K109
          have Ex_b31_109 := Ex_b31_108.keep K109
          have Ex_b36_109 := Ex_b36_108.keep K109
          have Ex_b42_109 := Ex_b42_108.keep K109
          have Ex_b44_109 := Ex_b44_108.keep K109
          have Ex_b46_109 := Ex_b46_108.keep K109
          have Ex_b48_109 := Ex_b48_108.keep K109
          have Ex_b104_109 := Ex_b104_108.keep K109
          have F_counts_b104_109 := F_counts_b104_108.keep K109 (ninS (Nat.ne_of_gt lt_b26_b104) (ninS (Nat.ne_of_gt lt_b36_b104) nin0))
          have F_groups_b104_109 := F_groups_b104_108.keep K109 (ninS (Nat.ne_of_gt lt_b26_b104) (ninS (Nat.ne_of_gt lt_b36_b104) nin0))
          have F_heads_b104_109 := F_heads_b104_108.keep K109 (ninS (Nat.ne_of_gt lt_b26_b104) (ninS (Nat.ne_of_gt lt_b36_b104) nin0))
          have N109' := Fr.app N108 N109
          refine own_st st109 ?_
          show own_Go _ _ _ _ T109 (mkF m 285 #[.val (.int p1), .val (.int p2), .val (.int p3), .val (.int p4), .val (.long q5), .second, .val (.int p6), .val (.int (0 : Int32)), .val (.int (1 : Int32)), .val (.int (3 : Int32)), .val (.int (0 : Int32)), .val (.ref b21), .val (.ref b26), .val (.int (q5.toInt32)), .val (.int (((q5.toUInt64 >>> ((32 : Int32) &&& 0x3f).toInt64.toUInt64).toInt64).toInt32)), .val (.int (p1 ^^^ p4)), .val (.int (p2 ^^^ (-1 : Int32))), .val (.ref b31), .val (.ref b36), .val (.ref b41), .val (.ref b99), .val (.ref b104), .unset] [])
          exact tl01 _ _ _ X109 N109' rfl O109 _ _ _ _ _ _ _ _ _ _ _ _ _ F_counts_b104_109 F_groups_b104_109 F_heads_b104_109 (own_im30 l hw [] b26 b21 (3 : Int32) (0 : Int32) kk26 kk21 p1 p2 p3 p4 T109.heap n0 (Nat.le_trans Z0 O109.1) rfl rfl Vc109 V_b21_109) (own_im30 l hw [] b36 b31 (3 : Int32) (0 : Int32) kk36 kk31 (q5.toInt32) (((q5.toUInt64 >>> ((32 : Int32) &&& 0x3f).toInt64.toUInt64).toInt64).toInt32) (p1 ^^^ p4) (p2 ^^^ (-1 : Int32)) T109.heap n0 (Nat.le_trans Z0 O109.1) rfl rfl Vh109 V_b31_109)
      · show own_Go _ _ _ _ T106 (mkF m 254 #[.val (.int p1), .val (.int p2), .val (.int p3), .val (.int p4), .val (.long q5), .second, .val (.int p6), .val (.int (1 : Int32)), .val (.int fh), .val (.int (3 : Int32)), .val (.int (0 : Int32)), .val (.ref b21), .val (.ref b26), .val (.int (q5.toInt32)), .val (.int (((q5.toUInt64 >>> ((32 : Int32) &&& 0x3f).toInt64.toUInt64).toInt64).toInt32)), .val (.int (p1 ^^^ p4)), .val (.int (p2 ^^^ (-1 : Int32))), .val (.ref b31), .val (.ref b36), .val (.ref b41), .val (.ref b99), .val (.ref b104), .unset] [(.int (1 : Int32))])
        refine own_st (fun _ k => XS.ifNo X106.here hx rfl (hb hby at_254) rfl ((if0 _ _).trans (feq (by decide : ¬ ((1 : Int32) = (0 : Int32)))).1) k) ?_
        refine own_st (fun _ k => XS.aload X106.here hx rfl (hb hby at_257) rfl rfl k) ?_
        refine own_st (fun _ k => XS.aload X106.here hx rfl (hb hby at_259) rfl rfl k) ?_
        obtain ⟨T110, hp110, X110, e110, W110, st110⟩ := putF X106 hx hZ hown (host := "") (Or.inl (own_w48 hw)) Via.refl e106 F_groups_b104_106 Ex_b104_106 (Or.inl (own_w39 hw)) (own_w5 hw) (ty := (.array (.object "java/lang/Object"))) (by decide) rfl rfl (g := (mkF m 261 #[.val (.int p1), .val (.int p2), .val (.int p3), .val (.int p4), .val (.long q5), .second, .val (.int p6), .val (.int (1 : Int32)), .val (.int fh), .val (.int (3 : Int32)), .val (.int (0 : Int32)), .val (.ref b21), .val (.ref b26), .val (.int (q5.toInt32)), .val (.int (((q5.toUInt64 >>> ((32 : Int32) &&& 0x3f).toInt64.toUInt64).toInt64).toInt32)), .val (.int (p1 ^^^ p4)), .val (.int (p2 ^^^ (-1 : Int32))), .val (.ref b31), .val (.ref b36), .val (.ref b41), .val (.ref b99), .val (.ref b104), .unset] [(.ref b99), (.ref b104)])) rfl rfl (hb hby at_261)
        have O110 := own_extw O106 W110 s_b104
        have V_b21_110 := V_b21_106.other W110 (Nat.ne_of_lt lt_b21_b104)
        have V_b26_110 := V_b26_106.other W110 (Nat.ne_of_lt lt_b26_b104)
        have V_b31_110 := V_b31_106.other W110 (Nat.ne_of_lt lt_b31_b104)
        have V_b36_110 := V_b36_106.other W110 (Nat.ne_of_lt lt_b36_b104)
        have V_b41_110 := V_b41_106.other W110 (Nat.ne_of_lt lt_b41_b104)
        have V_b42_110 := V_b42_106.other W110 (Nat.ne_of_lt lt_b42_b104)
        have V_b44_110 := V_b44_106.other W110 (Nat.ne_of_lt lt_b44_b104)
        have V_b46_110 := V_b46_106.other W110 (Nat.ne_of_lt lt_b46_b104)
        have V_b48_110 := V_b48_106.other W110 (Nat.ne_of_lt lt_b48_b104)
        have V_b99_110 := V_b99_106.other W110 (Nat.ne_of_lt lt_b99_b104)
        have Ex_b21_110 := Ex_b21_106.wr W110
        have Ex_b26_110 := Ex_b26_106.wr W110
        have Ex_b31_110 := Ex_b31_106.wr W110
        have Ex_b36_110 := Ex_b36_106.wr W110
        have Ex_b42_110 := Ex_b42_106.wr W110
        have Ex_b44_110 := Ex_b44_106.wr W110
        have Ex_b46_110 := Ex_b46_106.wr W110
        have Ex_b48_110 := Ex_b48_106.wr W110
        have Ex_b104_110 := Ex_b104_106.wr W110
        have F_counts_b104_110 := F_counts_b104_106.other W110 (Or.inr (slot_ne (Or.inl (own_w29 hw)) (Or.inl (own_w39 hw)) (by decide) (t := (.array .int)) (t' := (.array (.object "java/lang/Object"))) (by decide) (by decide)))
        have F_heads_b104_110 := F_heads_b104_106.other W110 (Or.inr (slot_ne (Or.inl (own_w32 hw)) (Or.inl (own_w39 hw)) (by decide) (t := (.array .int)) (t' := (.array (.object "java/lang/Object"))) (by decide) (by decide)))
        have F_groups_b104_110 := F_groups_b104_106.same W110
        have N110 := Fr.snoc X110 N106 g_b104
        refine own_st st110 ?_
        refine own_st (fun _ k => XS.iload X110.here hx rfl (hb hby at_264) rfl k) ?_
        rcases hfh with rfl | rfl
        · show own_Go _ _ _ _ T110 (mkF m 266 #[.val (.int p1), .val (.int p2), .val (.int p3), .val (.int p4), .val (.long q5), .second, .val (.int p6), .val (.int (1 : Int32)), .val (.int (0 : Int32)), .val (.int (3 : Int32)), .val (.int (0 : Int32)), .val (.ref b21), .val (.ref b26), .val (.int (q5.toInt32)), .val (.int (((q5.toUInt64 >>> ((32 : Int32) &&& 0x3f).toInt64.toUInt64).toInt64).toInt32)), .val (.int (p1 ^^^ p4)), .val (.int (p2 ^^^ (-1 : Int32))), .val (.ref b31), .val (.ref b36), .val (.ref b41), .val (.ref b99), .val (.ref b104), .unset] [(.int (0 : Int32))])
          refine own_st (fun _ k => XS.ifYes X110.here hx rfl (pc0 := 266) (pc' := 276) rfl (hb hby at_266) rfl ((if0 _ _).trans (teq (by decide : (0 : Int32) = (0 : Int32))).1) (by decide) (by decide) k) ?_
          refine own_st (fun _ k => XS.aload X110.here hx rfl (hb hby at_276) rfl rfl k) ?_
          refine own_st (fun _ k => XS.iload X110.here hx rfl (hb hby at_278) rfl k) ?_
          refine own_st (fun _ k => XS.iload X110.here hx rfl (hb hby at_280) rfl k) ?_
          obtain ⟨v111, T111, L111, hQ111, X111, st111⟩ := own_callV X110 hx hZ (y := (⟨"com/example/sheaf/sheaf/CountedKeys", "move", "(II)V"⟩ : MethodName)) hown (own_w33 hw) (own_w34 hw) (own_w36 hw) (own_w35 hw) (own_w6 hw) (own_w37 hw) (by decide) (own_mv10 l hw [] b104 b26 b99 b36 (3 : Int32) (0 : Int32) p4 (p2 ^^^ (-1 : Int32)) (.ref b48) kk26 kk99 kk36 [(.int p1), (.int p2), (.int p3), (.int p4)] [.null, (.ref b44), (.ref b46), (.ref b48)] [(.int (q5.toInt32)), (.int (((q5.toUInt64 >>> ((32 : Int32) &&& 0x3f).toInt64.toUInt64).toInt64).toInt32)), (.int (p1 ^^^ p4)), (.int (p2 ^^^ (-1 : Int32)))] hp110 n0 (Nat.le_trans Z0 O110.1) (by decide) (by decide) (Nat.le_of_ble_eq_true rfl) g_b26 V_b26_110 rfl (Nat.ne_of_gt lt_b26_b104) F_counts_b104_110 F_groups_b104_110 F_heads_b104_110 (Nat.le_of_ble_eq_true rfl) (Nat.le_of_ble_eq_true rfl) g_b99 V_b99_110 rfl rfl (by obtain ⟨cl', A', q', _⟩ := V_b99_110; exact Sto.ofV A' q' Ov99 (Ins.of_exa Ex_b48_110 (own_w3 hw))) (Nat.ne_of_gt lt_b99_b104) (Nat.ne_of_lt lt_b26_b99)) e110 Ex_b104_110 (g := (mkF m 282 #[.val (.int p1), .val (.int p2), .val (.int p3), .val (.int p4), .val (.long q5), .second, .val (.int p6), .val (.int (1 : Int32)), .val (.int (0 : Int32)), .val (.int (3 : Int32)), .val (.int (0 : Int32)), .val (.ref b21), .val (.ref b26), .val (.int (q5.toInt32)), .val (.int (((q5.toUInt64 >>> ((32 : Int32) &&& 0x3f).toInt64.toUInt64).toInt64).toInt32)), .val (.int (p1 ^^^ p4)), .val (.int (p2 ^^^ (-1 : Int32))), .val (.ref b31), .val (.ref b36), .val (.ref b41), .val (.ref b99), .val (.ref b104), .unset] [(.int (0 : Int32)), (.int (3 : Int32)), (.ref b104)])) rfl (by rw [hml]; rfl) (argsL := [(.int (3 : Int32)), (.int (0 : Int32))]) (rest := []) (lenOf own_pd5 rfl) rfl rfl (W := 0) (Nat.le_of_eq rfl) (hb hby at_282) (by decide) (by decide) (by decide) (by decide)
          obtain ⟨rfl, N111, K111, Vc111, Vg111⟩ := hQ111
          have Vc111 : Arv Z T111.heap b26 kk26 .int 4 [(.int p4), (.int p2), (.int p3), (.int p4)] (.int (0 : Int32)) := Vc111
          have Vg111 : Arv Z T111.heap b99 kk99 (.object "java/lang/Object") 4 [(.ref b48), (.ref b44), (.ref b46), .null] .null := Vg111
          have O111 : Ext h0 T111.heap := ⟨Nat.le_trans O110.1 K111.1, fun x c r => K111.2.1 x c (O110.2 x c r) (fun z => by
            have q := (Array.getElem?_eq_some_iff.mp r).1
            simp only [List.mem_cons, List.not_mem_nil, or_false] at z
            rcases z with rfl | rfl
            · exact absurd q (Nat.not_lt.mpr s_b26)
            · exact absurd q (Nat.not_lt.mpr s_b99))⟩
          have V_b21_111 := V_b21_110.keep K111 (ninS (Nat.ne_of_lt lt_b21_b26) (ninS (Nat.ne_of_lt lt_b21_b99) nin0))
          have V_b31_111 := V_b31_110.keep K111 (ninS (Nat.ne_of_gt lt_b26_b31) (ninS (Nat.ne_of_lt lt_b31_b99) nin0))
          have V_b36_111 := V_b36_110.keep K111 (ninS (Nat.ne_of_gt lt_b26_b36) (ninS (Nat.ne_of_lt lt_b36_b99) nin0))
          have V_b41_111 := V_b41_110.keep K111 (ninS (Nat.ne_of_gt lt_b26_b41) (ninS (Nat.ne_of_lt lt_b41_b99) nin0))
          have V_b42_111 := V_b42_110.keep K111 (ninS (Nat.ne_of_gt lt_b26_b42) (ninS (Nat.ne_of_lt lt_b42_b99) nin0))
          have V_b44_111 := V_b44_110.keep K111 (ninS (Nat.ne_of_gt lt_b26_b44) (ninS (Nat.ne_of_lt lt_b44_b99) nin0))
          have V_b46_111 := V_b46_110.keep K111 (ninS (Nat.ne_of_gt lt_b26_b46) (ninS (Nat.ne_of_lt lt_b46_b99) nin0))
          have V_b48_111 := V_b48_110.keep K111 (ninS (Nat.ne_of_gt lt_b26_b48) (ninS (Nat.ne_of_lt lt_b48_b99) nin0))
          have Ex_b21_111 := Ex_b21_110.keep K111
          have Ex_b26_111 := Ex_b26_110.keep K111
          have Ex_b31_111 := Ex_b31_110.keep K111
          have Ex_b36_111 := Ex_b36_110.keep K111
          have Ex_b42_111 := Ex_b42_110.keep K111
          have Ex_b44_111 := Ex_b44_110.keep K111
          have Ex_b46_111 := Ex_b46_110.keep K111
          have Ex_b48_111 := Ex_b48_110.keep K111
          have Ex_b104_111 := Ex_b104_110.keep K111
          have F_counts_b104_111 := F_counts_b104_110.keep K111 (ninS (Nat.ne_of_gt lt_b26_b104) (ninS (Nat.ne_of_gt lt_b99_b104) nin0))
          have F_groups_b104_111 := F_groups_b104_110.keep K111 (ninS (Nat.ne_of_gt lt_b26_b104) (ninS (Nat.ne_of_gt lt_b99_b104) nin0))
          have F_heads_b104_111 := F_heads_b104_110.keep K111 (ninS (Nat.ne_of_gt lt_b26_b104) (ninS (Nat.ne_of_gt lt_b99_b104) nin0))
          have N111' := Fr.app N110 N111
          refine own_st st111 ?_
          show own_Go _ _ _ _ T111 (mkF m 285 #[.val (.int p1), .val (.int p2), .val (.int p3), .val (.int p4), .val (.long q5), .second, .val (.int p6), .val (.int (1 : Int32)), .val (.int (0 : Int32)), .val (.int (3 : Int32)), .val (.int (0 : Int32)), .val (.ref b21), .val (.ref b26), .val (.int (q5.toInt32)), .val (.int (((q5.toUInt64 >>> ((32 : Int32) &&& 0x3f).toInt64.toUInt64).toInt64).toInt32)), .val (.int (p1 ^^^ p4)), .val (.int (p2 ^^^ (-1 : Int32))), .val (.ref b31), .val (.ref b36), .val (.ref b41), .val (.ref b99), .val (.ref b104), .unset] [])
          exact tl10 _ _ _ X111 N111' rfl O111 _ _ _ _ _ _ _ _ _ _ _ _ _ F_counts_b104_111 F_groups_b104_111 F_heads_b104_111 (own_im30 l hw [] b26 b21 (3 : Int32) (0 : Int32) kk26 kk21 p1 p2 p3 p4 T111.heap n0 (Nat.le_trans Z0 O111.1) rfl rfl Vc111 V_b21_111) (own_rm30 l hw [] b99 b41 (3 : Int32) (0 : Int32) kk99 kk41 b42 b44 b46 b48 T111.heap n0 (Nat.le_trans Z0 O111.1) rfl rfl Vg111 V_b41_111)
        · show own_Go _ _ _ _ T110 (mkF m 266 #[.val (.int p1), .val (.int p2), .val (.int p3), .val (.int p4), .val (.long q5), .second, .val (.int p6), .val (.int (1 : Int32)), .val (.int (1 : Int32)), .val (.int (3 : Int32)), .val (.int (0 : Int32)), .val (.ref b21), .val (.ref b26), .val (.int (q5.toInt32)), .val (.int (((q5.toUInt64 >>> ((32 : Int32) &&& 0x3f).toInt64.toUInt64).toInt64).toInt32)), .val (.int (p1 ^^^ p4)), .val (.int (p2 ^^^ (-1 : Int32))), .val (.ref b31), .val (.ref b36), .val (.ref b41), .val (.ref b99), .val (.ref b104), .unset] [(.int (1 : Int32))])
          refine own_st (fun _ k => XS.ifNo X110.here hx rfl (hb hby at_266) rfl ((if0 _ _).trans (feq (by decide : ¬ ((1 : Int32) = (0 : Int32)))).1) k) ?_
          refine own_st (fun _ k => XS.aload X110.here hx rfl (hb hby at_269) rfl rfl k) ?_
          refine own_st (fun _ k => XS.aload X110.here hx rfl (hb hby at_271) rfl rfl k) ?_
          obtain ⟨T112, hp112, X112, e112, W112, st112⟩ := putF X110 hx hZ hown (host := "") (Or.inl (own_w31 hw)) Via.refl e110 F_heads_b104_110 Ex_b104_110 (Or.inl (own_w32 hw)) (own_w5 hw) (ty := (.array .int)) (by decide) rfl rfl (g := (mkF m 273 #[.val (.int p1), .val (.int p2), .val (.int p3), .val (.int p4), .val (.long q5), .second, .val (.int p6), .val (.int (1 : Int32)), .val (.int (1 : Int32)), .val (.int (3 : Int32)), .val (.int (0 : Int32)), .val (.ref b21), .val (.ref b26), .val (.int (q5.toInt32)), .val (.int (((q5.toUInt64 >>> ((32 : Int32) &&& 0x3f).toInt64.toUInt64).toInt64).toInt32)), .val (.int (p1 ^^^ p4)), .val (.int (p2 ^^^ (-1 : Int32))), .val (.ref b31), .val (.ref b36), .val (.ref b41), .val (.ref b99), .val (.ref b104), .unset] [(.ref b36), (.ref b104)])) rfl rfl (hb hby at_273)
          have O112 := own_extw O110 W112 s_b104
          have V_b21_112 := V_b21_110.other W112 (Nat.ne_of_lt lt_b21_b104)
          have V_b26_112 := V_b26_110.other W112 (Nat.ne_of_lt lt_b26_b104)
          have V_b31_112 := V_b31_110.other W112 (Nat.ne_of_lt lt_b31_b104)
          have V_b36_112 := V_b36_110.other W112 (Nat.ne_of_lt lt_b36_b104)
          have V_b41_112 := V_b41_110.other W112 (Nat.ne_of_lt lt_b41_b104)
          have V_b42_112 := V_b42_110.other W112 (Nat.ne_of_lt lt_b42_b104)
          have V_b44_112 := V_b44_110.other W112 (Nat.ne_of_lt lt_b44_b104)
          have V_b46_112 := V_b46_110.other W112 (Nat.ne_of_lt lt_b46_b104)
          have V_b48_112 := V_b48_110.other W112 (Nat.ne_of_lt lt_b48_b104)
          have V_b99_112 := V_b99_110.other W112 (Nat.ne_of_lt lt_b99_b104)
          have Ex_b21_112 := Ex_b21_110.wr W112
          have Ex_b26_112 := Ex_b26_110.wr W112
          have Ex_b31_112 := Ex_b31_110.wr W112
          have Ex_b36_112 := Ex_b36_110.wr W112
          have Ex_b42_112 := Ex_b42_110.wr W112
          have Ex_b44_112 := Ex_b44_110.wr W112
          have Ex_b46_112 := Ex_b46_110.wr W112
          have Ex_b48_112 := Ex_b48_110.wr W112
          have Ex_b104_112 := Ex_b104_110.wr W112
          have F_counts_b104_112 := F_counts_b104_110.other W112 (Or.inr (slot_ne (Or.inl (own_w29 hw)) (Or.inl (own_w32 hw)) (by decide) (t := (.array .int)) (t' := (.array .int)) (by decide) (by decide)))
          have F_groups_b104_112 := F_groups_b104_110.other W112 (Or.inr (slot_ne (Or.inl (own_w39 hw)) (Or.inl (own_w32 hw)) (by decide) (t := (.array (.object "java/lang/Object"))) (t' := (.array .int)) (by decide) (by decide)))
          have F_heads_b104_112 := F_heads_b104_110.same W112
          have N112 := Fr.snoc X112 N110 g_b104
          refine own_st st112 ?_
          refine own_st (fun _ k => XS.aload X112.here hx rfl (hb hby at_276) rfl rfl k) ?_
          refine own_st (fun _ k => XS.iload X112.here hx rfl (hb hby at_278) rfl k) ?_
          show own_Go _ _ _ _ T112 (mkF m 280 #[.val (.int p1), .val (.int p2), .val (.int p3), .val (.int p4), .val (.long q5), .second, .val (.int p6), .val (.int (1 : Int32)), .val (.int (1 : Int32)), .val (.int (3 : Int32)), .val (.int (0 : Int32)), .val (.ref b21), .val (.ref b26), .val (.int (q5.toInt32)), .val (.int (((q5.toUInt64 >>> ((32 : Int32) &&& 0x3f).toInt64.toUInt64).toInt64).toInt32)), .val (.int (p1 ^^^ p4)), .val (.int (p2 ^^^ (-1 : Int32))), .val (.ref b31), .val (.ref b36), .val (.ref b41), .val (.ref b99), .val (.ref b104), .unset] [(.int (3 : Int32)), (.ref b104)])
          refine own_st (fun _ k => XS.iload X112.here hx rfl (hb hby at_280) rfl k) ?_
          obtain ⟨v113, T113, L113, hQ113, X113, st113⟩ := own_callV X112 hx hZ (y := (⟨"com/example/sheaf/sheaf/CountedKeys", "move", "(II)V"⟩ : MethodName)) hown (own_w33 hw) (own_w34 hw) (own_w36 hw) (own_w35 hw) (own_w6 hw) (own_w37 hw) (by decide) (own_mv11 l hw [] b104 b26 b99 b36 (3 : Int32) (0 : Int32) p4 (p2 ^^^ (-1 : Int32)) (.ref b48) kk26 kk99 kk36 [(.int p1), (.int p2), (.int p3), (.int p4)] [.null, (.ref b44), (.ref b46), (.ref b48)] [(.int (q5.toInt32)), (.int (((q5.toUInt64 >>> ((32 : Int32) &&& 0x3f).toInt64.toUInt64).toInt64).toInt32)), (.int (p1 ^^^ p4)), (.int (p2 ^^^ (-1 : Int32)))] hp112 n0 (Nat.le_trans Z0 O112.1) (by decide) (by decide) (Nat.le_of_ble_eq_true rfl) g_b26 V_b26_112 rfl (Nat.ne_of_gt lt_b26_b104) F_counts_b104_112 F_groups_b104_112 F_heads_b104_112 (Nat.le_of_ble_eq_true rfl) (Nat.le_of_ble_eq_true rfl) g_b99 V_b99_112 rfl rfl (by obtain ⟨cl', A', q', _⟩ := V_b99_112; exact Sto.ofV A' q' Ov99 (Ins.of_exa Ex_b48_112 (own_w3 hw))) (Nat.ne_of_gt lt_b99_b104) (Nat.ne_of_lt lt_b26_b99) (Nat.le_of_ble_eq_true rfl) g_b36 V_b36_112 rfl (Nat.ne_of_gt lt_b36_b104) (Nat.ne_of_lt lt_b26_b36) (Nat.ne_of_gt lt_b36_b99)) e112 Ex_b104_112 (g := (mkF m 282 #[.val (.int p1), .val (.int p2), .val (.int p3), .val (.int p4), .val (.long q5), .second, .val (.int p6), .val (.int (1 : Int32)), .val (.int (1 : Int32)), .val (.int (3 : Int32)), .val (.int (0 : Int32)), .val (.ref b21), .val (.ref b26), .val (.int (q5.toInt32)), .val (.int (((q5.toUInt64 >>> ((32 : Int32) &&& 0x3f).toInt64.toUInt64).toInt64).toInt32)), .val (.int (p1 ^^^ p4)), .val (.int (p2 ^^^ (-1 : Int32))), .val (.ref b31), .val (.ref b36), .val (.ref b41), .val (.ref b99), .val (.ref b104), .unset] [(.int (0 : Int32)), (.int (3 : Int32)), (.ref b104)])) rfl (by rw [hml]; rfl) (argsL := [(.int (3 : Int32)), (.int (0 : Int32))]) (rest := []) (lenOf own_pd5 rfl) rfl rfl (W := 0) (Nat.le_of_eq rfl) (hb hby at_282) (by decide) (by decide) (by decide) (by decide)
          obtain ⟨rfl, N113, K113, Vc113, Vg113, Vh113⟩ := hQ113
          have Vc113 : Arv Z T113.heap b26 kk26 .int 4 [(.int p4), (.int p2), (.int p3), (.int p4)] (.int (0 : Int32)) := Vc113
          have Vg113 : Arv Z T113.heap b99 kk99 (.object "java/lang/Object") 4 [(.ref b48), (.ref b44), (.ref b46), .null] .null := Vg113
          have Vh113 : Arv Z T113.heap b36 kk36 .int 4 [(.int (p2 ^^^ (-1 : Int32))), (.int (((q5.toUInt64 >>> ((32 : Int32) &&& 0x3f).toInt64.toUInt64).toInt64).toInt32)), (.int (p1 ^^^ p4)), (.int (p2 ^^^ (-1 : Int32)))] (.int (0 : Int32)) := Vh113
          have O113 : Ext h0 T113.heap := ⟨Nat.le_trans O112.1 K113.1, fun x c r => K113.2.1 x c (O112.2 x c r) (fun z => by
            have q := (Array.getElem?_eq_some_iff.mp r).1
            simp only [List.mem_cons, List.not_mem_nil, or_false] at z
            rcases z with rfl | rfl | rfl
            · exact absurd q (Nat.not_lt.mpr s_b26)
            · exact absurd q (Nat.not_lt.mpr s_b99)
            · exact absurd q (Nat.not_lt.mpr s_b36))⟩
          have V_b21_113 := V_b21_112.keep K113 (ninS (Nat.ne_of_lt lt_b21_b26) (ninS (Nat.ne_of_lt lt_b21_b99) (ninS (Nat.ne_of_lt lt_b21_b36) nin0)))
          have V_b31_113 := V_b31_112.keep K113 (ninS (Nat.ne_of_gt lt_b26_b31) (ninS (Nat.ne_of_lt lt_b31_b99) (ninS (Nat.ne_of_lt lt_b31_b36) nin0)))
          have V_b41_113 := V_b41_112.keep K113 (ninS (Nat.ne_of_gt lt_b26_b41) (ninS (Nat.ne_of_lt lt_b41_b99) (ninS (Nat.ne_of_gt lt_b36_b41) nin0)))
          have V_b42_113 := V_b42_112.keep K113 (ninS (Nat.ne_of_gt lt_b26_b42) (ninS (Nat.ne_of_lt lt_b42_b99) (ninS (Nat.ne_of_gt lt_b36_b42) nin0)))
          have V_b44_113 := V_b44_112.keep K113 (ninS (Nat.ne_of_gt lt_b26_b44) (ninS (Nat.ne_of_lt lt_b44_b99) (ninS (Nat.ne_of_gt lt_b36_b44) nin0)))
          have V_b46_113 := V_b46_112.keep K113 (ninS (Nat.ne_of_gt lt_b26_b46) (ninS (Nat.ne_of_lt lt_b46_b99) (ninS (Nat.ne_of_gt lt_b36_b46) nin0)))
          have V_b48_113 := V_b48_112.keep K113 (ninS (Nat.ne_of_gt lt_b26_b48) (ninS (Nat.ne_of_lt lt_b48_b99) (ninS (Nat.ne_of_gt lt_b36_b48) nin0)))
          have Ex_b21_113 := Ex_b21_112.keep K113
          have Ex_b26_113 := Ex_b26_112.keep K113
          have Ex_b31_113 := Ex_b31_112.keep K113
          have Ex_b36_113 := Ex_b36_112.keep K113
          have Ex_b42_113 := Ex_b42_112.keep K113
          have Ex_b44_113 := Ex_b44_112.keep K113
          have Ex_b46_113 := Ex_b46_112.keep K113
          have Ex_b48_113 := Ex_b48_112.keep K113
          have Ex_b104_113 := Ex_b104_112.keep K113
          have F_counts_b104_113 := F_counts_b104_112.keep K113 (ninS (Nat.ne_of_gt lt_b26_b104) (ninS (Nat.ne_of_gt lt_b99_b104) (ninS (Nat.ne_of_gt lt_b36_b104) nin0)))
          have F_groups_b104_113 := F_groups_b104_112.keep K113 (ninS (Nat.ne_of_gt lt_b26_b104) (ninS (Nat.ne_of_gt lt_b99_b104) (ninS (Nat.ne_of_gt lt_b36_b104) nin0)))
          have F_heads_b104_113 := F_heads_b104_112.keep K113 (ninS (Nat.ne_of_gt lt_b26_b104) (ninS (Nat.ne_of_gt lt_b99_b104) (ninS (Nat.ne_of_gt lt_b36_b104) nin0)))
          have N113' := Fr.app N112 N113
          refine own_st st113 ?_
          show own_Go _ _ _ _ T113 (mkF m 285 #[.val (.int p1), .val (.int p2), .val (.int p3), .val (.int p4), .val (.long q5), .second, .val (.int p6), .val (.int (1 : Int32)), .val (.int (1 : Int32)), .val (.int (3 : Int32)), .val (.int (0 : Int32)), .val (.ref b21), .val (.ref b26), .val (.int (q5.toInt32)), .val (.int (((q5.toUInt64 >>> ((32 : Int32) &&& 0x3f).toInt64.toUInt64).toInt64).toInt32)), .val (.int (p1 ^^^ p4)), .val (.int (p2 ^^^ (-1 : Int32))), .val (.ref b31), .val (.ref b36), .val (.ref b41), .val (.ref b99), .val (.ref b104), .unset] [])
          exact tl11 _ _ _ X113 N113' rfl O113 _ _ _ _ _ _ _ _ _ _ _ _ _ F_counts_b104_113 F_groups_b104_113 F_heads_b104_113 (own_im30 l hw [] b26 b21 (3 : Int32) (0 : Int32) kk26 kk21 p1 p2 p3 p4 T113.heap n0 (Nat.le_trans Z0 O113.1) rfl rfl Vc113 V_b21_113) (own_rm30 l hw [] b99 b41 (3 : Int32) (0 : Int32) kk99 kk41 b42 b44 b46 b48 T113.heap n0 (Nat.le_trans Z0 O113.1) rfl rfl Vg113 V_b41_113) (own_im30 l hw [] b36 b31 (3 : Int32) (0 : Int32) kk36 kk31 (q5.toInt32) (((q5.toUInt64 >>> ((32 : Int32) &&& 0x3f).toInt64.toUInt64).toInt64).toInt32) (p1 ^^^ p4) (p2 ^^^ (-1 : Int32)) T113.heap n0 (Nat.le_trans Z0 O113.1) rfl rfl Vh113 V_b31_113)
    · show own_Go _ _ _ _ T49 (mkF m 196 #[.val (.int p1), .val (.int p2), .val (.int p3), .val (.int p4), .val (.long q5), .second, .val (.int p6), .val (.int fg), .val (.int fh), .val (.int (3 : Int32)), .val (.int (1 : Int32)), .val (.ref b21), .val (.ref b26), .val (.int (q5.toInt32)), .val (.int (((q5.toUInt64 >>> ((32 : Int32) &&& 0x3f).toInt64.toUInt64).toInt64).toInt32)), .val (.int (p1 ^^^ p4)), .val (.int (p2 ^^^ (-1 : Int32))), .val (.ref b31), .val (.ref b36), .val (.ref b41), .unset, .unset, .unset] [])
      refine own_st (fun _ k => XS.aload X49.here hx rfl (hb hby at_196) rfl rfl k) ?_
      refine own_st (fun _ k => XS.iload X49.here hx rfl (hb hby at_198) rfl k) ?_
      refine own_st (fun _ k => XS.aconstNull X49.here hx rfl (hb hby at_200) k) ?_
      obtain ⟨T114, hp114, X114, e114, W114, Va114, st114⟩ := own_stR X49 hx hZ e49 Va49 rfl rfl (by decide) 1 (by decide) (Nat.le_of_ble_eq_true rfl) (fun _ _ _ => Or.inl rfl) (g := (mkF m 201 #[.val (.int p1), .val (.int p2), .val (.int p3), .val (.int p4), .val (.long q5), .second, .val (.int p6), .val (.int fg), .val (.int fh), .val (.int (3 : Int32)), .val (.int (1 : Int32)), .val (.ref b21), .val (.ref b26), .val (.int (q5.toInt32)), .val (.int (((q5.toUInt64 >>> ((32 : Int32) &&& 0x3f).toInt64.toUInt64).toInt64).toInt32)), .val (.int (p1 ^^^ p4)), .val (.int (p2 ^^^ (-1 : Int32))), .val (.ref b31), .val (.ref b36), .val (.ref b41), .unset, .unset, .unset] [.null, (.int (1 : Int32)), (.ref b41)])) rfl rfl (hb hby at_201)
      have O114 := own_extw O49 W114 s_b41
      have V_b21_114 := V_b21_49.other W114 (Nat.ne_of_lt lt_b21_b41)
      have V_b26_114 := V_b26_49.other W114 (Nat.ne_of_lt lt_b26_b41)
      have V_b31_114 := V_b31_49.other W114 (Nat.ne_of_lt lt_b31_b41)
      have V_b36_114 := V_b36_49.other W114 (Nat.ne_of_lt lt_b36_b41)
      have V_b42_114 := V_b42_49.other W114 (Nat.ne_of_gt lt_b41_b42)
      have V_b44_114 := V_b44_49.other W114 (Nat.ne_of_gt lt_b41_b44)
      have V_b46_114 := V_b46_49.other W114 (Nat.ne_of_gt lt_b41_b46)
      have V_b48_114 := V_b48_49.other W114 (Nat.ne_of_gt lt_b41_b48)
      have Ex_b21_114 := Ex_b21_49.wr W114
      have Ex_b26_114 := Ex_b26_49.wr W114
      have Ex_b31_114 := Ex_b31_49.wr W114
      have Ex_b36_114 := Ex_b36_49.wr W114
      have Ex_b42_114 := Ex_b42_49.wr W114
      have Ex_b44_114 := Ex_b44_49.wr W114
      have Ex_b46_114 := Ex_b46_49.wr W114
      have Ex_b48_114 := Ex_b48_49.wr W114
      have Va114 : Arv Z hp114 b41 kk41 (.object "java/lang/Object") (4 : Int32) [(.ref b42), .null, (.ref b46), (.ref b48)] .null := Va114
      have N114 := Fr.snoc X114 N49 g_b41
      refine own_st st114 ?_
      refine own_st (fun _ k => XS.iconst X114.here hx rfl (hb hby at_202) k) ?_
      obtain ⟨T115, hp115, kk115, X115, e115, Et115, A115, Ov115, st115⟩ := newR X114 hx hZ hown (own_w1 hw) (own_w2 hw) e114 (g := (mkF m 203 #[.val (.int p1), .val (.int p2), .val (.int p3), .val (.int p4), .val (.long q5), .second, .val (.int p6), .val (.int fg), .val (.int fh), .val (.int (3 : Int32)), .val (.int (1 : Int32)), .val (.ref b21), .val (.ref b26), .val (.int (q5.toInt32)), .val (.int (((q5.toUInt64 >>> ((32 : Int32) &&& 0x3f).toInt64.toUInt64).toInt64).toInt32)), .val (.int (p1 ^^^ p4)), .val (.int (p2 ^^^ (-1 : Int32))), .val (.ref b31), .val (.ref b36), .val (.ref b41), .unset, .unset, .unset] [(.int (4 : Int32))])) rfl (hb hby at_203) rfl (by decide) (cap := 4) (by decide) (by decide) (by decide) (by decide)
      obtain ⟨b115, g115⟩ : ∃ z, z = hp114.size := ⟨_, rfl⟩
      rw [← g115] at A115 st115
      have s_b115 : h0.size ≤ b115 := Nat.le_trans O114.1 (Nat.le_of_eq g115.symm)
      have g_b115 : n0 ≤ b115 := Nat.le_trans Z0 s_b115
      have lt_b21_b115 : b21 < b115 := Nat.lt_of_lt_of_le V_b21_114.lt (Nat.le_of_eq g115.symm)
      have lt_b26_b115 : b26 < b115 := Nat.lt_of_lt_of_le V_b26_114.lt (Nat.le_of_eq g115.symm)
      have lt_b31_b115 : b31 < b115 := Nat.lt_of_lt_of_le V_b31_114.lt (Nat.le_of_eq g115.symm)
      have lt_b36_b115 : b36 < b115 := Nat.lt_of_lt_of_le V_b36_114.lt (Nat.le_of_eq g115.symm)
      have lt_b41_b115 : b41 < b115 := Nat.lt_of_lt_of_le Va114.lt (Nat.le_of_eq g115.symm)
      have lt_b42_b115 : b42 < b115 := Nat.lt_of_lt_of_le V_b42_114.lt (Nat.le_of_eq g115.symm)
      have lt_b44_b115 : b44 < b115 := Nat.lt_of_lt_of_le V_b44_114.lt (Nat.le_of_eq g115.symm)
      have lt_b46_b115 : b46 < b115 := Nat.lt_of_lt_of_le V_b46_114.lt (Nat.le_of_eq g115.symm)
      have lt_b48_b115 : b48 < b115 := Nat.lt_of_lt_of_le V_b48_114.lt (Nat.le_of_eq g115.symm)
      have O115 := own_extt O114 Et115
      have V_b21_115 := V_b21_114.ext Et115
      have V_b26_115 := V_b26_114.ext Et115
      have V_b31_115 := V_b31_114.ext Et115
      have V_b36_115 := V_b36_114.ext Et115
      have V_b41_115 := Va114.ext Et115
      have V_b42_115 := V_b42_114.ext Et115
      have V_b44_115 := V_b44_114.ext Et115
      have V_b46_115 := V_b46_114.ext Et115
      have V_b48_115 := V_b48_114.ext Et115
      have Ex_b21_115 := Ex_b21_114.ext Et115
      have Ex_b26_115 := Ex_b26_114.ext Et115
      have Ex_b31_115 := Ex_b31_114.ext Et115
      have Ex_b36_115 := Ex_b36_114.ext Et115
      have Ex_b42_115 := Ex_b42_114.ext Et115
      have Ex_b44_115 := Ex_b44_114.ext Et115
      have Ex_b46_115 := Ex_b46_114.ext Et115
      have Ex_b48_115 := Ex_b48_114.ext Et115
      have Va115 : Arv Z hp115 b115 kk115 (.object "java/lang/Object") (4 : Int32) [.null, .null, .null, .null] .null := (Arv.new A115 (by decide)).pad (pad_rep [] .null 4)
      refine own_st st115 ?_
      show own_Go _ _ _ _ T115 (mkF m 206 #[.val (.int p1), .val (.int p2), .val (.int p3), .val (.int p4), .val (.long q5), .second, .val (.int p6), .val (.int fg), .val (.int fh), .val (.int (3 : Int32)), .val (.int (1 : Int32)), .val (.ref b21), .val (.ref b26), .val (.int (q5.toInt32)), .val (.int (((q5.toUInt64 >>> ((32 : Int32) &&& 0x3f).toInt64.toUInt64).toInt64).toInt32)), .val (.int (p1 ^^^ p4)), .val (.int (p2 ^^^ (-1 : Int32))), .val (.ref b31), .val (.ref b36), .val (.ref b41), .unset, .unset, .unset] [(.ref b115)])
      refine own_st (fun _ k => XS.dup X115.here hx rfl (hb hby at_206) rfl rfl k) ?_
      refine own_st (fun _ k => XS.iconst X115.here hx rfl (hb hby at_207) k) ?_
      refine own_st (fun _ k => XS.aload X115.here hx rfl (hb hby at_208) rfl rfl k) ?_
      refine own_st (fun _ k => XS.iconst X115.here hx rfl (hb hby at_210) k) ?_
      refine own_st (own_ldR X115 hx hZ e115 V_b41_115 rfl (j := (0 : Int32)) (by decide) (v := (.ref b42)) rfl (g := (mkF m 211 #[.val (.int p1), .val (.int p2), .val (.int p3), .val (.int p4), .val (.long q5), .second, .val (.int p6), .val (.int fg), .val (.int fh), .val (.int (3 : Int32)), .val (.int (1 : Int32)), .val (.ref b21), .val (.ref b26), .val (.int (q5.toInt32)), .val (.int (((q5.toUInt64 >>> ((32 : Int32) &&& 0x3f).toInt64.toUInt64).toInt64).toInt32)), .val (.int (p1 ^^^ p4)), .val (.int (p2 ^^^ (-1 : Int32))), .val (.ref b31), .val (.ref b36), .val (.ref b41), .unset, .unset, .unset] [(.int (0 : Int32)), (.ref b41), (.int (0 : Int32)), (.ref b115), (.ref b115)])) rfl rfl (hb hby at_211)) ?_
      obtain ⟨T116, hp116, X116, e116, W116, Va116, st116⟩ := own_stR X115 hx hZ e115 Va115 rfl rfl (by decide) 0 (by decide) (Nat.le_of_ble_eq_true rfl) (fun cl Ar q => Sto.ofV Ar q Ov115 (Ins.of_exa Ex_b42_115 (own_w3 hw))) (g := (mkF m 212 #[.val (.int p1), .val (.int p2), .val (.int p3), .val (.int p4), .val (.long q5), .second, .val (.int p6), .val (.int fg), .val (.int fh), .val (.int (3 : Int32)), .val (.int (1 : Int32)), .val (.ref b21), .val (.ref b26), .val (.int (q5.toInt32)), .val (.int (((q5.toUInt64 >>> ((32 : Int32) &&& 0x3f).toInt64.toUInt64).toInt64).toInt32)), .val (.int (p1 ^^^ p4)), .val (.int (p2 ^^^ (-1 : Int32))), .val (.ref b31), .val (.ref b36), .val (.ref b41), .unset, .unset, .unset] [(.ref b42), (.int (0 : Int32)), (.ref b115), (.ref b115)])) rfl rfl (hb hby at_212)
      have O116 := own_extw O115 W116 s_b115
      have V_b21_116 := V_b21_115.other W116 (Nat.ne_of_lt lt_b21_b115)
      have V_b26_116 := V_b26_115.other W116 (Nat.ne_of_lt lt_b26_b115)
      have V_b31_116 := V_b31_115.other W116 (Nat.ne_of_lt lt_b31_b115)
      have V_b36_116 := V_b36_115.other W116 (Nat.ne_of_lt lt_b36_b115)
      have V_b41_116 := V_b41_115.other W116 (Nat.ne_of_lt lt_b41_b115)
      have V_b42_116 := V_b42_115.other W116 (Nat.ne_of_lt lt_b42_b115)
      have V_b44_116 := V_b44_115.other W116 (Nat.ne_of_lt lt_b44_b115)
      have V_b46_116 := V_b46_115.other W116 (Nat.ne_of_lt lt_b46_b115)
      have V_b48_116 := V_b48_115.other W116 (Nat.ne_of_lt lt_b48_b115)
      have Ex_b21_116 := Ex_b21_115.wr W116
      have Ex_b26_116 := Ex_b26_115.wr W116
      have Ex_b31_116 := Ex_b31_115.wr W116
      have Ex_b36_116 := Ex_b36_115.wr W116
      have Ex_b42_116 := Ex_b42_115.wr W116
      have Ex_b44_116 := Ex_b44_115.wr W116
      have Ex_b46_116 := Ex_b46_115.wr W116
      have Ex_b48_116 := Ex_b48_115.wr W116
      have Va116 : Arv Z hp116 b115 kk115 (.object "java/lang/Object") (4 : Int32) [(.ref b42), .null, .null, .null] .null := Va116
      have N116 := Fr.snoc X116 N114 g_b115
      refine own_st st116 ?_
      show own_Go _ _ _ _ T116 (mkF m 213 #[.val (.int p1), .val (.int p2), .val (.int p3), .val (.int p4), .val (.long q5), .second, .val (.int p6), .val (.int fg), .val (.int fh), .val (.int (3 : Int32)), .val (.int (1 : Int32)), .val (.ref b21), .val (.ref b26), .val (.int (q5.toInt32)), .val (.int (((q5.toUInt64 >>> ((32 : Int32) &&& 0x3f).toInt64.toUInt64).toInt64).toInt32)), .val (.int (p1 ^^^ p4)), .val (.int (p2 ^^^ (-1 : Int32))), .val (.ref b31), .val (.ref b36), .val (.ref b41), .unset, .unset, .unset] [(.ref b115)])
      refine own_st (fun _ k => XS.dup X116.here hx rfl (hb hby at_213) rfl rfl k) ?_
      refine own_st (fun _ k => XS.iconst X116.here hx rfl (hb hby at_214) k) ?_
      refine own_st (fun _ k => XS.aload X116.here hx rfl (hb hby at_215) rfl rfl k) ?_
      refine own_st (fun _ k => XS.iconst X116.here hx rfl (hb hby at_217) k) ?_
      refine own_st (own_ldR X116 hx hZ e116 V_b41_116 rfl (j := (1 : Int32)) (by decide) (v := .null) rfl (g := (mkF m 218 #[.val (.int p1), .val (.int p2), .val (.int p3), .val (.int p4), .val (.long q5), .second, .val (.int p6), .val (.int fg), .val (.int fh), .val (.int (3 : Int32)), .val (.int (1 : Int32)), .val (.ref b21), .val (.ref b26), .val (.int (q5.toInt32)), .val (.int (((q5.toUInt64 >>> ((32 : Int32) &&& 0x3f).toInt64.toUInt64).toInt64).toInt32)), .val (.int (p1 ^^^ p4)), .val (.int (p2 ^^^ (-1 : Int32))), .val (.ref b31), .val (.ref b36), .val (.ref b41), .unset, .unset, .unset] [(.int (1 : Int32)), (.ref b41), (.int (1 : Int32)), (.ref b115), (.ref b115)])) rfl rfl (hb hby at_218)) ?_
      obtain ⟨T117, hp117, X117, e117, W117, Va117, st117⟩ := own_stR X116 hx hZ e116 Va116 rfl rfl (by decide) 1 (by decide) (Nat.le_of_ble_eq_true rfl) (fun _ _ _ => Or.inl rfl) (g := (mkF m 219 #[.val (.int p1), .val (.int p2), .val (.int p3), .val (.int p4), .val (.long q5), .second, .val (.int p6), .val (.int fg), .val (.int fh), .val (.int (3 : Int32)), .val (.int (1 : Int32)), .val (.ref b21), .val (.ref b26), .val (.int (q5.toInt32)), .val (.int (((q5.toUInt64 >>> ((32 : Int32) &&& 0x3f).toInt64.toUInt64).toInt64).toInt32)), .val (.int (p1 ^^^ p4)), .val (.int (p2 ^^^ (-1 : Int32))), .val (.ref b31), .val (.ref b36), .val (.ref b41), .unset, .unset, .unset] [.null, (.int (1 : Int32)), (.ref b115), (.ref b115)])) rfl rfl (hb hby at_219)
      have O117 := own_extw O116 W117 s_b115
      have V_b21_117 := V_b21_116.other W117 (Nat.ne_of_lt lt_b21_b115)
      have V_b26_117 := V_b26_116.other W117 (Nat.ne_of_lt lt_b26_b115)
      have V_b31_117 := V_b31_116.other W117 (Nat.ne_of_lt lt_b31_b115)
      have V_b36_117 := V_b36_116.other W117 (Nat.ne_of_lt lt_b36_b115)
      have V_b41_117 := V_b41_116.other W117 (Nat.ne_of_lt lt_b41_b115)
      have V_b42_117 := V_b42_116.other W117 (Nat.ne_of_lt lt_b42_b115)
      have V_b44_117 := V_b44_116.other W117 (Nat.ne_of_lt lt_b44_b115)
      have V_b46_117 := V_b46_116.other W117 (Nat.ne_of_lt lt_b46_b115)
      have V_b48_117 := V_b48_116.other W117 (Nat.ne_of_lt lt_b48_b115)
      have Ex_b21_117 := Ex_b21_116.wr W117
      have Ex_b26_117 := Ex_b26_116.wr W117
      have Ex_b31_117 := Ex_b31_116.wr W117
      have Ex_b36_117 := Ex_b36_116.wr W117
      have Ex_b42_117 := Ex_b42_116.wr W117
      have Ex_b44_117 := Ex_b44_116.wr W117
      have Ex_b46_117 := Ex_b46_116.wr W117
      have Ex_b48_117 := Ex_b48_116.wr W117
      have Va117 : Arv Z hp117 b115 kk115 (.object "java/lang/Object") (4 : Int32) [(.ref b42), .null, .null, .null] .null := Va117
      have N117 := Fr.snoc X117 N116 g_b115
      refine own_st st117 ?_
      show own_Go _ _ _ _ T117 (mkF m 220 #[.val (.int p1), .val (.int p2), .val (.int p3), .val (.int p4), .val (.long q5), .second, .val (.int p6), .val (.int fg), .val (.int fh), .val (.int (3 : Int32)), .val (.int (1 : Int32)), .val (.ref b21), .val (.ref b26), .val (.int (q5.toInt32)), .val (.int (((q5.toUInt64 >>> ((32 : Int32) &&& 0x3f).toInt64.toUInt64).toInt64).toInt32)), .val (.int (p1 ^^^ p4)), .val (.int (p2 ^^^ (-1 : Int32))), .val (.ref b31), .val (.ref b36), .val (.ref b41), .unset, .unset, .unset] [(.ref b115)])
      refine own_st (fun _ k => XS.dup X117.here hx rfl (hb hby at_220) rfl rfl k) ?_
      refine own_st (fun _ k => XS.iconst X117.here hx rfl (hb hby at_221) k) ?_
      refine own_st (fun _ k => XS.aload X117.here hx rfl (hb hby at_222) rfl rfl k) ?_
      refine own_st (fun _ k => XS.iconst X117.here hx rfl (hb hby at_224) k) ?_
      refine own_st (own_ldR X117 hx hZ e117 V_b41_117 rfl (j := (2 : Int32)) (by decide) (v := (.ref b46)) rfl (g := (mkF m 225 #[.val (.int p1), .val (.int p2), .val (.int p3), .val (.int p4), .val (.long q5), .second, .val (.int p6), .val (.int fg), .val (.int fh), .val (.int (3 : Int32)), .val (.int (1 : Int32)), .val (.ref b21), .val (.ref b26), .val (.int (q5.toInt32)), .val (.int (((q5.toUInt64 >>> ((32 : Int32) &&& 0x3f).toInt64.toUInt64).toInt64).toInt32)), .val (.int (p1 ^^^ p4)), .val (.int (p2 ^^^ (-1 : Int32))), .val (.ref b31), .val (.ref b36), .val (.ref b41), .unset, .unset, .unset] [(.int (2 : Int32)), (.ref b41), (.int (2 : Int32)), (.ref b115), (.ref b115)])) rfl rfl (hb hby at_225)) ?_
      obtain ⟨T118, hp118, X118, e118, W118, Va118, st118⟩ := own_stR X117 hx hZ e117 Va117 rfl rfl (by decide) 2 (by decide) (Nat.le_of_ble_eq_true rfl) (fun cl Ar q => Sto.ofV Ar q Ov115 (Ins.of_exa Ex_b46_117 (own_w3 hw))) (g := (mkF m 226 #[.val (.int p1), .val (.int p2), .val (.int p3), .val (.int p4), .val (.long q5), .second, .val (.int p6), .val (.int fg), .val (.int fh), .val (.int (3 : Int32)), .val (.int (1 : Int32)), .val (.ref b21), .val (.ref b26), .val (.int (q5.toInt32)), .val (.int (((q5.toUInt64 >>> ((32 : Int32) &&& 0x3f).toInt64.toUInt64).toInt64).toInt32)), .val (.int (p1 ^^^ p4)), .val (.int (p2 ^^^ (-1 : Int32))), .val (.ref b31), .val (.ref b36), .val (.ref b41), .unset, .unset, .unset] [(.ref b46), (.int (2 : Int32)), (.ref b115), (.ref b115)])) rfl rfl (hb hby at_226)
      have O118 := own_extw O117 W118 s_b115
      have V_b21_118 := V_b21_117.other W118 (Nat.ne_of_lt lt_b21_b115)
      have V_b26_118 := V_b26_117.other W118 (Nat.ne_of_lt lt_b26_b115)
      have V_b31_118 := V_b31_117.other W118 (Nat.ne_of_lt lt_b31_b115)
      have V_b36_118 := V_b36_117.other W118 (Nat.ne_of_lt lt_b36_b115)
      have V_b41_118 := V_b41_117.other W118 (Nat.ne_of_lt lt_b41_b115)
      have V_b42_118 := V_b42_117.other W118 (Nat.ne_of_lt lt_b42_b115)
      have V_b44_118 := V_b44_117.other W118 (Nat.ne_of_lt lt_b44_b115)
      have V_b46_118 := V_b46_117.other W118 (Nat.ne_of_lt lt_b46_b115)
      have V_b48_118 := V_b48_117.other W118 (Nat.ne_of_lt lt_b48_b115)
      have Ex_b21_118 := Ex_b21_117.wr W118
      have Ex_b26_118 := Ex_b26_117.wr W118
      have Ex_b31_118 := Ex_b31_117.wr W118
      have Ex_b36_118 := Ex_b36_117.wr W118
      have Ex_b42_118 := Ex_b42_117.wr W118
      have Ex_b44_118 := Ex_b44_117.wr W118
      have Ex_b46_118 := Ex_b46_117.wr W118
      have Ex_b48_118 := Ex_b48_117.wr W118
      have Va118 : Arv Z hp118 b115 kk115 (.object "java/lang/Object") (4 : Int32) [(.ref b42), .null, (.ref b46), .null] .null := Va118
      have N118 := Fr.snoc X118 N117 g_b115
      refine own_st st118 ?_
      show own_Go _ _ _ _ T118 (mkF m 227 #[.val (.int p1), .val (.int p2), .val (.int p3), .val (.int p4), .val (.long q5), .second, .val (.int p6), .val (.int fg), .val (.int fh), .val (.int (3 : Int32)), .val (.int (1 : Int32)), .val (.ref b21), .val (.ref b26), .val (.int (q5.toInt32)), .val (.int (((q5.toUInt64 >>> ((32 : Int32) &&& 0x3f).toInt64.toUInt64).toInt64).toInt32)), .val (.int (p1 ^^^ p4)), .val (.int (p2 ^^^ (-1 : Int32))), .val (.ref b31), .val (.ref b36), .val (.ref b41), .unset, .unset, .unset] [(.ref b115)])
      refine own_st (fun _ k => XS.dup X118.here hx rfl (hb hby at_227) rfl rfl k) ?_
      refine own_st (fun _ k => XS.iconst X118.here hx rfl (hb hby at_228) k) ?_
      refine own_st (fun _ k => XS.aload X118.here hx rfl (hb hby at_229) rfl rfl k) ?_
      refine own_st (fun _ k => XS.iconst X118.here hx rfl (hb hby at_231) k) ?_
      refine own_st (own_ldR X118 hx hZ e118 V_b41_118 rfl (j := (3 : Int32)) (by decide) (v := (.ref b48)) rfl (g := (mkF m 232 #[.val (.int p1), .val (.int p2), .val (.int p3), .val (.int p4), .val (.long q5), .second, .val (.int p6), .val (.int fg), .val (.int fh), .val (.int (3 : Int32)), .val (.int (1 : Int32)), .val (.ref b21), .val (.ref b26), .val (.int (q5.toInt32)), .val (.int (((q5.toUInt64 >>> ((32 : Int32) &&& 0x3f).toInt64.toUInt64).toInt64).toInt32)), .val (.int (p1 ^^^ p4)), .val (.int (p2 ^^^ (-1 : Int32))), .val (.ref b31), .val (.ref b36), .val (.ref b41), .unset, .unset, .unset] [(.int (3 : Int32)), (.ref b41), (.int (3 : Int32)), (.ref b115), (.ref b115)])) rfl rfl (hb hby at_232)) ?_
      obtain ⟨T119, hp119, X119, e119, W119, Va119, st119⟩ := own_stR X118 hx hZ e118 Va118 rfl rfl (by decide) 3 (by decide) (Nat.le_of_ble_eq_true rfl) (fun cl Ar q => Sto.ofV Ar q Ov115 (Ins.of_exa Ex_b48_118 (own_w3 hw))) (g := (mkF m 233 #[.val (.int p1), .val (.int p2), .val (.int p3), .val (.int p4), .val (.long q5), .second, .val (.int p6), .val (.int fg), .val (.int fh), .val (.int (3 : Int32)), .val (.int (1 : Int32)), .val (.ref b21), .val (.ref b26), .val (.int (q5.toInt32)), .val (.int (((q5.toUInt64 >>> ((32 : Int32) &&& 0x3f).toInt64.toUInt64).toInt64).toInt32)), .val (.int (p1 ^^^ p4)), .val (.int (p2 ^^^ (-1 : Int32))), .val (.ref b31), .val (.ref b36), .val (.ref b41), .unset, .unset, .unset] [(.ref b48), (.int (3 : Int32)), (.ref b115), (.ref b115)])) rfl rfl (hb hby at_233)
      have O119 := own_extw O118 W119 s_b115
      have V_b21_119 := V_b21_118.other W119 (Nat.ne_of_lt lt_b21_b115)
      have V_b26_119 := V_b26_118.other W119 (Nat.ne_of_lt lt_b26_b115)
      have V_b31_119 := V_b31_118.other W119 (Nat.ne_of_lt lt_b31_b115)
      have V_b36_119 := V_b36_118.other W119 (Nat.ne_of_lt lt_b36_b115)
      have V_b41_119 := V_b41_118.other W119 (Nat.ne_of_lt lt_b41_b115)
      have V_b42_119 := V_b42_118.other W119 (Nat.ne_of_lt lt_b42_b115)
      have V_b44_119 := V_b44_118.other W119 (Nat.ne_of_lt lt_b44_b115)
      have V_b46_119 := V_b46_118.other W119 (Nat.ne_of_lt lt_b46_b115)
      have V_b48_119 := V_b48_118.other W119 (Nat.ne_of_lt lt_b48_b115)
      have Ex_b21_119 := Ex_b21_118.wr W119
      have Ex_b26_119 := Ex_b26_118.wr W119
      have Ex_b31_119 := Ex_b31_118.wr W119
      have Ex_b36_119 := Ex_b36_118.wr W119
      have Ex_b42_119 := Ex_b42_118.wr W119
      have Ex_b44_119 := Ex_b44_118.wr W119
      have Ex_b46_119 := Ex_b46_118.wr W119
      have Ex_b48_119 := Ex_b48_118.wr W119
      have Va119 : Arv Z hp119 b115 kk115 (.object "java/lang/Object") (4 : Int32) [(.ref b42), .null, (.ref b46), (.ref b48)] .null := Va119
      have N119 := Fr.snoc X119 N118 g_b115
      refine own_st st119 ?_
      show own_Go _ _ _ _ T119 (mkF m 234 #[.val (.int p1), .val (.int p2), .val (.int p3), .val (.int p4), .val (.long q5), .second, .val (.int p6), .val (.int fg), .val (.int fh), .val (.int (3 : Int32)), .val (.int (1 : Int32)), .val (.ref b21), .val (.ref b26), .val (.int (q5.toInt32)), .val (.int (((q5.toUInt64 >>> ((32 : Int32) &&& 0x3f).toInt64.toUInt64).toInt64).toInt32)), .val (.int (p1 ^^^ p4)), .val (.int (p2 ^^^ (-1 : Int32))), .val (.ref b31), .val (.ref b36), .val (.ref b41), .unset, .unset, .unset] [(.ref b115)])
      refine own_st (fun _ k => XS.astore X119.here hx rfl (hb hby at_234) rfl rfl (l' := #[.val (.int p1), .val (.int p2), .val (.int p3), .val (.int p4), .val (.long q5), .second, .val (.int p6), .val (.int fg), .val (.int fh), .val (.int (3 : Int32)), .val (.int (1 : Int32)), .val (.ref b21), .val (.ref b26), .val (.int (q5.toInt32)), .val (.int (((q5.toUInt64 >>> ((32 : Int32) &&& 0x3f).toInt64.toUInt64).toInt64).toInt32)), .val (.int (p1 ^^^ p4)), .val (.int (p2 ^^^ (-1 : Int32))), .val (.ref b31), .val (.ref b36), .val (.ref b41), .val (.ref b115), .unset, .unset]) rfl k) ?_
      obtain ⟨T120, hp120, X120, e120, Et120, A120, D120, -, st120⟩ := newO X119 hx hZ hown (own_w4 hw) (own_w5 hw) (own_w6 hw) e119 (g := (mkF m 236 #[.val (.int p1), .val (.int p2), .val (.int p3), .val (.int p4), .val (.long q5), .second, .val (.int p6), .val (.int fg), .val (.int fh), .val (.int (3 : Int32)), .val (.int (1 : Int32)), .val (.ref b21), .val (.ref b26), .val (.int (q5.toInt32)), .val (.int (((q5.toUInt64 >>> ((32 : Int32) &&& 0x3f).toInt64.toUInt64).toInt64).toInt32)), .val (.int (p1 ^^^ p4)), .val (.int (p2 ^^^ (-1 : Int32))), .val (.ref b31), .val (.ref b36), .val (.ref b41), .val (.ref b115), .unset, .unset] [])) rfl (hb hby at_236) (by decide) (by decide)
      obtain ⟨b120, g120⟩ : ∃ z, z = hp119.size := ⟨_, rfl⟩
      rw [← g120] at A120 D120 st120
      have s_b120 : h0.size ≤ b120 := Nat.le_trans O119.1 (Nat.le_of_eq g120.symm)
      have g_b120 : n0 ≤ b120 := Nat.le_trans Z0 s_b120
      have lt_b21_b120 : b21 < b120 := Nat.lt_of_lt_of_le V_b21_119.lt (Nat.le_of_eq g120.symm)
      have lt_b26_b120 : b26 < b120 := Nat.lt_of_lt_of_le V_b26_119.lt (Nat.le_of_eq g120.symm)
      have lt_b31_b120 : b31 < b120 := Nat.lt_of_lt_of_le V_b31_119.lt (Nat.le_of_eq g120.symm)
      have lt_b36_b120 : b36 < b120 := Nat.lt_of_lt_of_le V_b36_119.lt (Nat.le_of_eq g120.symm)
      have lt_b41_b120 : b41 < b120 := Nat.lt_of_lt_of_le V_b41_119.lt (Nat.le_of_eq g120.symm)
      have lt_b42_b120 : b42 < b120 := Nat.lt_of_lt_of_le V_b42_119.lt (Nat.le_of_eq g120.symm)
      have lt_b44_b120 : b44 < b120 := Nat.lt_of_lt_of_le V_b44_119.lt (Nat.le_of_eq g120.symm)
      have lt_b46_b120 : b46 < b120 := Nat.lt_of_lt_of_le V_b46_119.lt (Nat.le_of_eq g120.symm)
      have lt_b48_b120 : b48 < b120 := Nat.lt_of_lt_of_le V_b48_119.lt (Nat.le_of_eq g120.symm)
      have lt_b115_b120 : b115 < b120 := Nat.lt_of_lt_of_le Va119.lt (Nat.le_of_eq g120.symm)
      have O120 := own_extt O119 Et120
      have V_b21_120 := V_b21_119.ext Et120
      have V_b26_120 := V_b26_119.ext Et120
      have V_b31_120 := V_b31_119.ext Et120
      have V_b36_120 := V_b36_119.ext Et120
      have V_b41_120 := V_b41_119.ext Et120
      have V_b42_120 := V_b42_119.ext Et120
      have V_b44_120 := V_b44_119.ext Et120
      have V_b46_120 := V_b46_119.ext Et120
      have V_b48_120 := V_b48_119.ext Et120
      have V_b115_120 := Va119.ext Et120
      have Ex_b21_120 := Ex_b21_119.ext Et120
      have Ex_b26_120 := Ex_b26_119.ext Et120
      have Ex_b31_120 := Ex_b31_119.ext Et120
      have Ex_b36_120 := Ex_b36_119.ext Et120
      have Ex_b42_120 := Ex_b42_119.ext Et120
      have Ex_b44_120 := Ex_b44_119.ext Et120
      have Ex_b46_120 := Ex_b46_119.ext Et120
      have Ex_b48_120 := Ex_b48_119.ext Et120
      have F_keys_b120 : Fld Z hp120 b120 "com/example/sheaf/sheaf/CompactHash" "keys" "[Ljava/lang/Object;" .null := D120 (Or.inl (own_w21 hw)) (ty := (.array (.object "java/lang/Object"))) (by decide)
      have F_index_b120 : Fld Z hp120 b120 "com/example/sheaf/sheaf/CompactHash" "index" "[I" .null := D120 (Or.inl (own_w25 hw)) (ty := (.array .int)) (by decide)
      have F_counts_b120 : Fld Z hp120 b120 "com/example/sheaf/sheaf/CountedKeys" "counts" "[I" .null := D120 (Or.inl (own_w29 hw)) (ty := (.array .int)) (by decide)
      have F_heads_b120 : Fld Z hp120 b120 "com/example/sheaf/sheaf/CountedKeys" "heads" "[I" .null := D120 (Or.inl (own_w32 hw)) (ty := (.array .int)) (by decide)
      have F_groups_b120 : Fld Z hp120 b120 "com/example/sheaf/sheaf/CountedKeys" "groups" "[Ljava/lang/Object;" .null := D120 (Or.inl (own_w39 hw)) (ty := (.array (.object "java/lang/Object"))) (by decide)
      refine own_st st120 ?_
      refine own_st (fun _ k => XS.dup X120.here hx rfl (hb hby at_239) rfl rfl k) ?_
      obtain ⟨v121, T121, L121, hQ121, X121, st121⟩ := own_callI X120 hx hZ (y := (⟨"com/example/sheaf/sheaf/CountedKeys", "<init>", "()V"⟩ : MethodName)) rfl hown (own_w7 hw) (own_w8 hw) (own_w6 hw) (own_w9 hw) (by decide) (own_ck l hw [] b120 wo wi hp120 n0 (Nat.le_trans Z0 O120.1) (So.ext O120) (Si.ext O120) g_b120 A120 F_keys_b120 F_index_b120 F_counts_b120 F_groups_b120 F_heads_b120) e120 (g := (mkF m 240 #[.val (.int p1), .val (.int p2), .val (.int p3), .val (.int p4), .val (.long q5), .second, .val (.int p6), .val (.int fg), .val (.int fh), .val (.int (3 : Int32)), .val (.int (1 : Int32)), .val (.ref b21), .val (.ref b26), .val (.int (q5.toInt32)), .val (.int (((q5.toUInt64 >>> ((32 : Int32) &&& 0x3f).toInt64.toUInt64).toInt64).toInt32)), .val (.int (p1 ^^^ p4)), .val (.int (p2 ^^^ (-1 : Int32))), .val (.ref b31), .val (.ref b36), .val (.ref b41), .val (.ref b115), .unset, .unset] [(.ref b120), (.ref b120)])) rfl (by rw [hml]; rfl) (argsL := []) (rest := [(.ref b120)]) (lenOf own_pd0 rfl) rfl rfl (W := 1) (Nat.le_of_eq rfl) (hb hby at_240) (by decide) (by decide) (by decide) (by decide)
      obtain ⟨rfl, N121, K121, Fc121, Fg121, Fh121⟩ := hQ121
      have O121 := own_extk O120 K121 s_b120
      have V_b21_121 := V_b21_120.keep K121 (ninS (Nat.ne_of_lt lt_b21_b120) nin0)
      have V_b26_121 := V_b26_120.keep K121 (ninS (Nat.ne_of_lt lt_b26_b120) nin0)
      have V_b31_121 := V_b31_120.keep K121 (ninS (Nat.ne_of_lt lt_b31_b120) nin0)
      have V_b36_121 := V_b36_120.keep K121 (ninS (Nat.ne_of_lt lt_b36_b120) nin0)
      have V_b41_121 := V_b41_120.keep K121 (ninS (Nat.ne_of_lt lt_b41_b120) nin0)
      have V_b42_121 := V_b42_120.keep K121 (ninS (Nat.ne_of_lt lt_b42_b120) nin0)
      have V_b44_121 := V_b44_120.keep K121 (ninS (Nat.ne_of_lt lt_b44_b120) nin0)
      have V_b46_121 := V_b46_120.keep K121 (ninS (Nat.ne_of_lt lt_b46_b120) nin0)
      have V_b48_121 := V_b48_120.keep K121 (ninS (Nat.ne_of_lt lt_b48_b120) nin0)
      have V_b115_121 := V_b115_120.keep K121 (ninS (Nat.ne_of_lt lt_b115_b120) nin0)
      have Ex_b21_121 := Ex_b21_120.keep K121
      have Ex_b26_121 := Ex_b26_120.keep K121
      have Ex_b31_121 := Ex_b31_120.keep K121
      have Ex_b36_121 := Ex_b36_120.keep K121
      have Ex_b42_121 := Ex_b42_120.keep K121
      have Ex_b44_121 := Ex_b44_120.keep K121
      have Ex_b46_121 := Ex_b46_120.keep K121
      have Ex_b48_121 := Ex_b48_120.keep K121
      have Ex_b120_121 := A120.keep K121
      have N121' := Fr.app N119 N121
      refine own_st st121 ?_
      refine own_st (fun _ k => XS.astore X121.here hx rfl (hb hby at_243) rfl rfl (l' := #[.val (.int p1), .val (.int p2), .val (.int p3), .val (.int p4), .val (.long q5), .second, .val (.int p6), .val (.int fg), .val (.int fh), .val (.int (3 : Int32)), .val (.int (1 : Int32)), .val (.ref b21), .val (.ref b26), .val (.int (q5.toInt32)), .val (.int (((q5.toUInt64 >>> ((32 : Int32) &&& 0x3f).toInt64.toUInt64).toInt64).toInt32)), .val (.int (p1 ^^^ p4)), .val (.int (p2 ^^^ (-1 : Int32))), .val (.ref b31), .val (.ref b36), .val (.ref b41), .val (.ref b115), .val (.ref b120), .unset]) rfl k) ?_
      refine own_st (fun _ k => XS.aload X121.here hx rfl (hb hby at_245) rfl rfl k) ?_
      show own_Go _ _ _ _ T121 (mkF m 247 #[.val (.int p1), .val (.int p2), .val (.int p3), .val (.int p4), .val (.long q5), .second, .val (.int p6), .val (.int fg), .val (.int fh), .val (.int (3 : Int32)), .val (.int (1 : Int32)), .val (.ref b21), .val (.ref b26), .val (.int (q5.toInt32)), .val (.int (((q5.toUInt64 >>> ((32 : Int32) &&& 0x3f).toInt64.toUInt64).toInt64).toInt32)), .val (.int (p1 ^^^ p4)), .val (.int (p2 ^^^ (-1 : Int32))), .val (.ref b31), .val (.ref b36), .val (.ref b41), .val (.ref b115), .val (.ref b120), .unset] [(.ref b120)])
      refine own_st (fun _ k => XS.aload X121.here hx rfl (hb hby at_247) rfl rfl k) ?_
      obtain ⟨T122, hp122, X122, e122, W122, st122⟩ := putF X121 hx hZ hown (host := "") (Or.inl (own_w30 hw)) Via.refl rfl Fc121 Ex_b120_121 (Or.inl (own_w29 hw)) (own_w5 hw) (ty := (.array .int)) (by decide) rfl rfl (g := (mkF m 249 #[.val (.int p1), .val (.int p2), .val (.int p3), .val (.int p4), .val (.long q5), .second, .val (.int p6), .val (.int fg), .val (.int fh), .val (.int (3 : Int32)), .val (.int (1 : Int32)), .val (.ref b21), .val (.ref b26), .val (.int (q5.toInt32)), .val (.int (((q5.toUInt64 >>> ((32 : Int32) &&& 0x3f).toInt64.toUInt64).toInt64).toInt32)), .val (.int (p1 ^^^ p4)), .val (.int (p2 ^^^ (-1 : Int32))), .val (.ref b31), .val (.ref b36), .val (.ref b41), .val (.ref b115), .val (.ref b120), .unset] [(.ref b26), (.ref b120)])) rfl rfl (hb hby at_249)
      have O122 := own_extw O121 W122 s_b120
      have V_b21_122 := V_b21_121.other W122 (Nat.ne_of_lt lt_b21_b120)
      have V_b26_122 := V_b26_121.other W122 (Nat.ne_of_lt lt_b26_b120)
      have V_b31_122 := V_b31_121.other W122 (Nat.ne_of_lt lt_b31_b120)
      have V_b36_122 := V_b36_121.other W122 (Nat.ne_of_lt lt_b36_b120)
      have V_b41_122 := V_b41_121.other W122 (Nat.ne_of_lt lt_b41_b120)
      have V_b42_122 := V_b42_121.other W122 (Nat.ne_of_lt lt_b42_b120)
      have V_b44_122 := V_b44_121.other W122 (Nat.ne_of_lt lt_b44_b120)
      have V_b46_122 := V_b46_121.other W122 (Nat.ne_of_lt lt_b46_b120)
      have V_b48_122 := V_b48_121.other W122 (Nat.ne_of_lt lt_b48_b120)
      have V_b115_122 := V_b115_121.other W122 (Nat.ne_of_lt lt_b115_b120)
      have Ex_b21_122 := Ex_b21_121.wr W122
      have Ex_b26_122 := Ex_b26_121.wr W122
      have Ex_b31_122 := Ex_b31_121.wr W122
      have Ex_b36_122 := Ex_b36_121.wr W122
      have Ex_b42_122 := Ex_b42_121.wr W122
      have Ex_b44_122 := Ex_b44_121.wr W122
      have Ex_b46_122 := Ex_b46_121.wr W122
      have Ex_b48_122 := Ex_b48_121.wr W122
      have Ex_b120_122 := Ex_b120_121.wr W122
      have F_groups_b120_122 := Fg121.other W122 (Or.inr (slot_ne (Or.inl (own_w39 hw)) (Or.inl (own_w29 hw)) (by decide) (t := (.array (.object "java/lang/Object"))) (t' := (.array .int)) (by decide) (by decide)))
      have F_heads_b120_122 := Fh121.other W122 (Or.inr (slot_ne (Or.inl (own_w32 hw)) (Or.inl (own_w29 hw)) (by decide) (t := (.array .int)) (t' := (.array .int)) (by decide) (by decide)))
      have F_counts_b120_122 := Fc121.same W122
      have N122 := Fr.snoc X122 N121' g_b120
      refine own_st st122 ?_
      refine own_st (fun _ k => XS.iload X122.here hx rfl (hb hby at_252) rfl k) ?_
      rcases hfg with rfl | rfl
      · show own_Go _ _ _ _ T122 (mkF m 254 #[.val (.int p1), .val (.int p2), .val (.int p3), .val (.int p4), .val (.long q5), .second, .val (.int p6), .val (.int (0 : Int32)), .val (.int fh), .val (.int (3 : Int32)), .val (.int (1 : Int32)), .val (.ref b21), .val (.ref b26), .val (.int (q5.toInt32)), .val (.int (((q5.toUInt64 >>> ((32 : Int32) &&& 0x3f).toInt64.toUInt64).toInt64).toInt32)), .val (.int (p1 ^^^ p4)), .val (.int (p2 ^^^ (-1 : Int32))), .val (.ref b31), .val (.ref b36), .val (.ref b41), .val (.ref b115), .val (.ref b120), .unset] [(.int (0 : Int32))])
        refine own_st (fun _ k => XS.ifYes X122.here hx rfl (pc0 := 254) (pc' := 264) rfl (hb hby at_254) rfl ((if0 _ _).trans (teq (by decide : (0 : Int32) = (0 : Int32))).1) (by decide) (by decide) k) ?_
        refine own_st (fun _ k => XS.iload X122.here hx rfl (hb hby at_264) rfl k) ?_
        rcases hfh with rfl | rfl
        · show own_Go _ _ _ _ T122 (mkF m 266 #[.val (.int p1), .val (.int p2), .val (.int p3), .val (.int p4), .val (.long q5), .second, .val (.int p6), .val (.int (0 : Int32)), .val (.int (0 : Int32)), .val (.int (3 : Int32)), .val (.int (1 : Int32)), .val (.ref b21), .val (.ref b26), .val (.int (q5.toInt32)), .val (.int (((q5.toUInt64 >>> ((32 : Int32) &&& 0x3f).toInt64.toUInt64).toInt64).toInt32)), .val (.int (p1 ^^^ p4)), .val (.int (p2 ^^^ (-1 : Int32))), .val (.ref b31), .val (.ref b36), .val (.ref b41), .val (.ref b115), .val (.ref b120), .unset] [(.int (0 : Int32))])
          refine own_st (fun _ k => XS.ifYes X122.here hx rfl (pc0 := 266) (pc' := 276) rfl (hb hby at_266) rfl ((if0 _ _).trans (teq (by decide : (0 : Int32) = (0 : Int32))).1) (by decide) (by decide) k) ?_
          refine own_st (fun _ k => XS.aload X122.here hx rfl (hb hby at_276) rfl rfl k) ?_
          refine own_st (fun _ k => XS.iload X122.here hx rfl (hb hby at_278) rfl k) ?_
          refine own_st (fun _ k => XS.iload X122.here hx rfl (hb hby at_280) rfl k) ?_
          obtain ⟨v123, T123, L123, hQ123, X123, st123⟩ := own_callV X122 hx hZ (y := (⟨"com/example/sheaf/sheaf/CountedKeys", "move", "(II)V"⟩ : MethodName)) hown (own_w33 hw) (own_w34 hw) (own_w36 hw) (own_w35 hw) (own_w6 hw) (own_w37 hw) (by decide) (own_mv00 l hw [] b120 b26 b115 b36 (3 : Int32) (1 : Int32) p4 (p2 ^^^ (-1 : Int32)) (.ref b48) kk26 kk115 kk36 [(.int p1), (.int p2), (.int p3), (.int p4)] [(.ref b42), .null, (.ref b46), (.ref b48)] [(.int (q5.toInt32)), (.int (((q5.toUInt64 >>> ((32 : Int32) &&& 0x3f).toInt64.toUInt64).toInt64).toInt32)), (.int (p1 ^^^ p4)), (.int (p2 ^^^ (-1 : Int32)))] hp122 n0 (Nat.le_trans Z0 O122.1) (by decide) (by decide) (Nat.le_of_ble_eq_true rfl) g_b26 V_b26_122 rfl (Nat.ne_of_gt lt_b26_b120) F_counts_b120_122 F_groups_b120_122 F_heads_b120_122) e122 Ex_b120_122 (g := (mkF m 282 #[.val (.int p1), .val (.int p2), .val (.int p3), .val (.int p4), .val (.long q5), .second, .val (.int p6), .val (.int (0 : Int32)), .val (.int (0 : Int32)), .val (.int (3 : Int32)), .val (.int (1 : Int32)), .val (.ref b21), .val (.ref b26), .val (.int (q5.toInt32)), .val (.int (((q5.toUInt64 >>> ((32 : Int32) &&& 0x3f).toInt64.toUInt64).toInt64).toInt32)), .val (.int (p1 ^^^ p4)), .val (.int (p2 ^^^ (-1 : Int32))), .val (.ref b31), .val (.ref b36), .val (.ref b41), .val (.ref b115), .val (.ref b120), .unset] [(.int (1 : Int32)), (.int (3 : Int32)), (.ref b120)])) rfl (by rw [hml]; rfl) (argsL := [(.int (3 : Int32)), (.int (1 : Int32))]) (rest := []) (lenOf own_pd5 rfl) rfl rfl (W := 0) (Nat.le_of_eq rfl) (hb hby at_282) (by decide) (by decide) (by decide) (by decide)
          obtain ⟨rfl, N123, K123, Vc123⟩ := hQ123
          have Vc123 : Arv Z T123.heap b26 kk26 .int 4 [(.int p1), (.int p4), (.int p3), (.int p4)] (.int (0 : Int32)) := Vc123
          have O123 : Ext h0 T123.heap := ⟨Nat.le_trans O122.1 K123.1, fun x c r => K123.2.1 x c (O122.2 x c r) (fun z => by
            have q := (Array.getElem?_eq_some_iff.mp r).1
            simp only [List.mem_cons, List.not_mem_nil, or_false] at z
            rcases z with rfl
            exact absurd q (Nat.not_lt.mpr s_b26))⟩
          have V_b21_123 := V_b21_122.keep K123 (ninS (Nat.ne_of_lt lt_b21_b26) nin0)
          have V_b31_123 := V_b31_122.keep K123 (ninS (Nat.ne_of_gt lt_b26_b31) nin0)
          have V_b36_123 := V_b36_122.keep K123 (ninS (Nat.ne_of_gt lt_b26_b36) nin0)
          have V_b41_123 := V_b41_122.keep K123 (ninS (Nat.ne_of_gt lt_b26_b41) nin0)
          have V_b42_123 := V_b42_122.keep K123 (ninS (Nat.ne_of_gt lt_b26_b42) nin0)
          have V_b44_123 := V_b44_122.keep K123 (ninS (Nat.ne_of_gt lt_b26_b44) nin0)
          have V_b46_123 := V_b46_122.keep K123 (ninS (Nat.ne_of_gt lt_b26_b46) nin0)
          have V_b48_123 := V_b48_122.keep K123 (ninS (Nat.ne_of_gt lt_b26_b48) nin0)
          have V_b115_123 := V_b115_122.keep K123 (ninS (Nat.ne_of_gt lt_b26_b115) nin0)
          have Ex_b21_123 := Ex_b21_122.keep K123
          have Ex_b26_123 := Ex_b26_122.keep K123
          have Ex_b31_123 := Ex_b31_122.keep K123
          have Ex_b36_123 := Ex_b36_122.keep K123
          have Ex_b42_123 := Ex_b42_122.keep K123
          have Ex_b44_123 := Ex_b44_122.keep K123
          have Ex_b46_123 := Ex_b46_122.keep K123
          have Ex_b48_123 := Ex_b48_122.keep K123
          have Ex_b120_123 := Ex_b120_122.keep K123
          have F_counts_b120_123 := F_counts_b120_122.keep K123 (ninS (Nat.ne_of_gt lt_b26_b120) nin0)
          have F_groups_b120_123 := F_groups_b120_122.keep K123 (ninS (Nat.ne_of_gt lt_b26_b120) nin0)
          have F_heads_b120_123 := F_heads_b120_122.keep K123 (ninS (Nat.ne_of_gt lt_b26_b120) nin0)
          have N123' := Fr.app N122 N123
          refine own_st st123 ?_
          show own_Go _ _ _ _ T123 (mkF m 285 #[.val (.int p1), .val (.int p2), .val (.int p3), .val (.int p4), .val (.long q5), .second, .val (.int p6), .val (.int (0 : Int32)), .val (.int (0 : Int32)), .val (.int (3 : Int32)), .val (.int (1 : Int32)), .val (.ref b21), .val (.ref b26), .val (.int (q5.toInt32)), .val (.int (((q5.toUInt64 >>> ((32 : Int32) &&& 0x3f).toInt64.toUInt64).toInt64).toInt32)), .val (.int (p1 ^^^ p4)), .val (.int (p2 ^^^ (-1 : Int32))), .val (.ref b31), .val (.ref b36), .val (.ref b41), .val (.ref b115), .val (.ref b120), .unset] [])
          exact tl00 _ _ _ X123 N123' rfl O123 _ _ _ _ _ _ _ _ _ _ _ _ _ F_counts_b120_123 F_groups_b120_123 F_heads_b120_123 (own_im31 l hw [] b26 b21 (3 : Int32) (1 : Int32) kk26 kk21 p1 p2 p3 p4 T123.heap n0 (Nat.le_trans Z0 O123.1) rfl rfl Vc123 V_b21_123)
        · show own_Go _ _ _ _ T122 (mkF m 266 #[.val (.int p1), .val (.int p2), .val (.int p3), .val (.int p4), .val (.long q5), .second, .val (.int p6), .val (.int (0 : Int32)), .val (.int (1 : Int32)), .val (.int (3 : Int32)), .val (.int (1 : Int32)), .val (.ref b21), .val (.ref b26), .val (.int (q5.toInt32)), .val (.int (((q5.toUInt64 >>> ((32 : Int32) &&& 0x3f).toInt64.toUInt64).toInt64).toInt32)), .val (.int (p1 ^^^ p4)), .val (.int (p2 ^^^ (-1 : Int32))), .val (.ref b31), .val (.ref b36), .val (.ref b41), .val (.ref b115), .val (.ref b120), .unset] [(.int (1 : Int32))])
          refine own_st (fun _ k => XS.ifNo X122.here hx rfl (hb hby at_266) rfl ((if0 _ _).trans (feq (by decide : ¬ ((1 : Int32) = (0 : Int32)))).1) k) ?_
          refine own_st (fun _ k => XS.aload X122.here hx rfl (hb hby at_269) rfl rfl k) ?_
          refine own_st (fun _ k => XS.aload X122.here hx rfl (hb hby at_271) rfl rfl k) ?_
          obtain ⟨T124, hp124, X124, e124, W124, st124⟩ := putF X122 hx hZ hown (host := "") (Or.inl (own_w31 hw)) Via.refl e122 F_heads_b120_122 Ex_b120_122 (Or.inl (own_w32 hw)) (own_w5 hw) (ty := (.array .int)) (by decide) rfl rfl (g := (mkF m 273 #[.val (.int p1), .val (.int p2), .val (.int p3), .val (.int p4), .val (.long q5), .second, .val (.int p6), .val (.int (0 : Int32)), .val (.int (1 : Int32)), .val (.int (3 : Int32)), .val (.int (1 : Int32)), .val (.ref b21), .val (.ref b26), .val (.int (q5.toInt32)), .val (.int (((q5.toUInt64 >>> ((32 : Int32) &&& 0x3f).toInt64.toUInt64).toInt64).toInt32)), .val (.int (p1 ^^^ p4)), .val (.int (p2 ^^^ (-1 : Int32))), .val (.ref b31), .val (.ref b36), .val (.ref b41), .val (.ref b115), .val (.ref b120), .unset] [(.ref b36), (.ref b120)])) rfl rfl (hb hby at_273)
          have O124 := own_extw O122 W124 s_b120
          have V_b21_124 := V_b21_122.other W124 (Nat.ne_of_lt lt_b21_b120)
          have V_b26_124 := V_b26_122.other W124 (Nat.ne_of_lt lt_b26_b120)
          have V_b31_124 := V_b31_122.other W124 (Nat.ne_of_lt lt_b31_b120)
          have V_b36_124 := V_b36_122.other W124 (Nat.ne_of_lt lt_b36_b120)
          have V_b41_124 := V_b41_122.other W124 (Nat.ne_of_lt lt_b41_b120)
          have V_b42_124 := V_b42_122.other W124 (Nat.ne_of_lt lt_b42_b120)
          have V_b44_124 := V_b44_122.other W124 (Nat.ne_of_lt lt_b44_b120)
          have V_b46_124 := V_b46_122.other W124 (Nat.ne_of_lt lt_b46_b120)
          have V_b48_124 := V_b48_122.other W124 (Nat.ne_of_lt lt_b48_b120)
          have V_b115_124 := V_b115_122.other W124 (Nat.ne_of_lt lt_b115_b120)
          have Ex_b21_124 := Ex_b21_122.wr W124
          have Ex_b26_124 := Ex_b26_122.wr W124
          have Ex_b31_124 := Ex_b31_122.wr W124
          have Ex_b36_124 := Ex_b36_122.wr W124
          have Ex_b42_124 := Ex_b42_122.wr W124
          have Ex_b44_124 := Ex_b44_122.wr W124
          have Ex_b46_124 := Ex_b46_122.wr W124
          have Ex_b48_124 := Ex_b48_122.wr W124
          have Ex_b120_124 := Ex_b120_122.wr W124
          have F_counts_b120_124 := F_counts_b120_122.other W124 (Or.inr (slot_ne (Or.inl (own_w29 hw)) (Or.inl (own_w32 hw)) (by decide) (t := (.array .int)) (t' := (.array .int)) (by decide) (by decide)))
          have F_groups_b120_124 := F_groups_b120_122.other W124 (Or.inr (slot_ne (Or.inl (own_w39 hw)) (Or.inl (own_w32 hw)) (by decide) (t := (.array (.object "java/lang/Object"))) (t' := (.array .int)) (by decide) (by decide)))
          have F_heads_b120_124 := F_heads_b120_122.same W124
          have N124 := Fr.snoc X124 N122 g_b120
          refine own_st st124 ?_
          refine own_st (fun _ k => XS.aload X124.here hx rfl (hb hby at_276) rfl rfl k) ?_
          refine own_st (fun _ k => XS.iload X124.here hx rfl (hb hby at_278) rfl k) ?_
          show own_Go _ _ _ _ T124 (mkF m 280 #[.val (.int p1), .val (.int p2), .val (.int p3), .val (.int p4), .val (.long q5), .second, .val (.int p6), .val (.int (0 : Int32)), .val (.int (1 : Int32)), .val (.int (3 : Int32)), .val (.int (1 : Int32)), .val (.ref b21), .val (.ref b26), .val (.int (q5.toInt32)), .val (.int (((q5.toUInt64 >>> ((32 : Int32) &&& 0x3f).toInt64.toUInt64).toInt64).toInt32)), .val (.int (p1 ^^^ p4)), .val (.int (p2 ^^^ (-1 : Int32))), .val (.ref b31), .val (.ref b36), .val (.ref b41), .val (.ref b115), .val (.ref b120), .unset] [(.int (3 : Int32)), (.ref b120)])
          refine own_st (fun _ k => XS.iload X124.here hx rfl (hb hby at_280) rfl k) ?_
          obtain ⟨v125, T125, L125, hQ125, X125, st125⟩ := own_callV X124 hx hZ (y := (⟨"com/example/sheaf/sheaf/CountedKeys", "move", "(II)V"⟩ : MethodName)) hown (own_w33 hw) (own_w34 hw) (own_w36 hw) (own_w35 hw) (own_w6 hw) (own_w37 hw) (by decide) (own_mv01 l hw [] b120 b26 b115 b36 (3 : Int32) (1 : Int32) p4 (p2 ^^^ (-1 : Int32)) (.ref b48) kk26 kk115 kk36 [(.int p1), (.int p2), (.int p3), (.int p4)] [(.ref b42), .null, (.ref b46), (.ref b48)] [(.int (q5.toInt32)), (.int (((q5.toUInt64 >>> ((32 : Int32) &&& 0x3f).toInt64.toUInt64).toInt64).toInt32)), (.int (p1 ^^^ p4)), (.int (p2 ^^^ (-1 : Int32)))] hp124 n0 (Nat.le_trans Z0 O124.1) (by decide) (by decide) (Nat.le_of_ble_eq_true rfl) g_b26 V_b26_124 rfl (Nat.ne_of_gt lt_b26_b120) F_counts_b120_124 F_groups_b120_124 F_heads_b120_124 (Nat.le_of_ble_eq_true rfl) g_b36 V_b36_124 rfl (Nat.ne_of_gt lt_b36_b120) (Nat.ne_of_lt lt_b26_b36)) e124 Ex_b120_124 (g := (mkF m 282 #[.val (.int p1), .val (.int p2), .val (.int p3), .val (.int p4), .val (.long q5), .second, .val (.int p6), .val (.int (0 : Int32)), .val (.int (1 : Int32)), .val (.int (3 : Int32)), .val (.int (1 : Int32)), .val (.ref b21), .val (.ref b26), .val (.int (q5.toInt32)), .val (.int (((q5.toUInt64 >>> ((32 : Int32) &&& 0x3f).toInt64.toUInt64).toInt64).toInt32)), .val (.int (p1 ^^^ p4)), .val (.int (p2 ^^^ (-1 : Int32))), .val (.ref b31), .val (.ref b36), .val (.ref b41), .val (.ref b115), .val (.ref b120), .unset] [(.int (1 : Int32)), (.int (3 : Int32)), (.ref b120)])) rfl (by rw [hml]; rfl) (argsL := [(.int (3 : Int32)), (.int (1 : Int32))]) (rest := []) (lenOf own_pd5 rfl) rfl rfl (W := 0) (Nat.le_of_eq rfl) (hb hby at_282) (by decide) (by decide) (by decide) (by decide)
          obtain ⟨rfl, N125, K125, Vc125, Vh125⟩ := hQ125
          have Vc125 : Arv Z T125.heap b26 kk26 .int 4 [(.int p1), (.int p4), (.int p3), (.int p4)] (.int (0 : Int32)) := Vc125
          have Vh125 : Arv Z T125.heap b36 kk36 .int 4 [(.int (q5.toInt32)), (.int (p2 ^^^ (-1 : Int32))), (.int (p1 ^^^ p4)), (.int (p2 ^^^ (-1 : Int32)))] (.int (0 : Int32)) := Vh125
          have O125 : Ext h0 T125.heap := ⟨Nat.le_trans O124.1 K125.1, fun x c r => K125.2.1 x c (O124.2 x c r) (fun z => by
            have q := (Array.getElem?_eq_some_iff.mp r).1
            simp only [List.mem_cons, List.not_mem_nil, or_false] at z
            rcases z with rfl | rfl
            · exact absurd q (Nat.not_lt.mpr s_b26)
            · exact absurd q (Nat.not_lt.mpr s_b36))⟩
          have V_b21_125 := V_b21_124.keep K125 (ninS (Nat.ne_of_lt lt_b21_b26) (ninS (Nat.ne_of_lt lt_b21_b36) nin0))
          have V_b31_125 := V_b31_124.keep K125 (ninS (Nat.ne_of_gt lt_b26_b31) (ninS (Nat.ne_of_lt lt_b31_b36) nin0))
          have V_b41_125 := V_b41_124.keep K125 (ninS (Nat.ne_of_gt lt_b26_b41) (ninS (Nat.ne_of_gt lt_b36_b41) nin0))
          have V_b42_125 := V_b42_124.keep K125 (ninS (Nat.ne_of_gt lt_b26_b42) (ninS (Nat.ne_of_gt lt_b36_b42) nin0))
          have V_b44_125 := V_b44_124.keep K125 (ninS (Nat.ne_of_gt lt_b26_b44) (ninS (Nat.ne_of_gt lt_b36_b44) nin0))
          have V_b46_125 := V_b46_124.keep K125 (ninS (Nat.ne_of_gt lt_b26_b46) (ninS (Nat.ne_of_gt lt_b36_b46) nin0))
          have V_b48_125 := V_b48_124.keep K125 (ninS (Nat.ne_of_gt lt_b26_b48) (ninS (Nat.ne_of_gt lt_b36_b48) nin0))
          have V_b115_125 := V_b115_124.keep K125 (ninS (Nat.ne_of_gt lt_b26_b115) (ninS (Nat.ne_of_gt lt_b36_b115) nin0))
          have Ex_b21_125 := Ex_b21_124.keep K125
          have Ex_b26_125 := Ex_b26_124.keep K125
          have Ex_b31_125 := Ex_b31_124.keep K125
          have Ex_b36_125 := Ex_b36_124.keep K125
          have Ex_b42_125 := Ex_b42_124.keep K125
          have Ex_b44_125 := Ex_b44_124.keep K125
          have Ex_b46_125 := Ex_b46_124.keep K125
          have Ex_b48_125 := Ex_b48_124.keep K125
          have Ex_b120_125 := Ex_b120_124.keep K125
          have F_counts_b120_125 := F_counts_b120_124.keep K125 (ninS (Nat.ne_of_gt lt_b26_b120) (ninS (Nat.ne_of_gt lt_b36_b120) nin0))
          have F_groups_b120_125 := F_groups_b120_124.keep K125 (ninS (Nat.ne_of_gt lt_b26_b120) (ninS (Nat.ne_of_gt lt_b36_b120) nin0))
          have F_heads_b120_125 := F_heads_b120_124.keep K125 (ninS (Nat.ne_of_gt lt_b26_b120) (ninS (Nat.ne_of_gt lt_b36_b120) nin0))
          have N125' := Fr.app N124 N125
          refine own_st st125 ?_
          show own_Go _ _ _ _ T125 (mkF m 285 #[.val (.int p1), .val (.int p2), .val (.int p3), .val (.int p4), .val (.long q5), .second, .val (.int p6), .val (.int (0 : Int32)), .val (.int (1 : Int32)), .val (.int (3 : Int32)), .val (.int (1 : Int32)), .val (.ref b21), .val (.ref b26), .val (.int (q5.toInt32)), .val (.int (((q5.toUInt64 >>> ((32 : Int32) &&& 0x3f).toInt64.toUInt64).toInt64).toInt32)), .val (.int (p1 ^^^ p4)), .val (.int (p2 ^^^ (-1 : Int32))), .val (.ref b31), .val (.ref b36), .val (.ref b41), .val (.ref b115), .val (.ref b120), .unset] [])
          exact tl01 _ _ _ X125 N125' rfl O125 _ _ _ _ _ _ _ _ _ _ _ _ _ F_counts_b120_125 F_groups_b120_125 F_heads_b120_125 (own_im31 l hw [] b26 b21 (3 : Int32) (1 : Int32) kk26 kk21 p1 p2 p3 p4 T125.heap n0 (Nat.le_trans Z0 O125.1) rfl rfl Vc125 V_b21_125) (own_im31 l hw [] b36 b31 (3 : Int32) (1 : Int32) kk36 kk31 (q5.toInt32) (((q5.toUInt64 >>> ((32 : Int32) &&& 0x3f).toInt64.toUInt64).toInt64).toInt32) (p1 ^^^ p4) (p2 ^^^ (-1 : Int32)) T125.heap n0 (Nat.le_trans Z0 O125.1) rfl rfl Vh125 V_b31_125)
      · show own_Go _ _ _ _ T122 (mkF m 254 #[.val (.int p1), .val (.int p2), .val (.int p3), .val (.int p4), .val (.long q5), .second, .val (.int p6), .val (.int (1 : Int32)), .val (.int fh), .val (.int (3 : Int32)), .val (.int (1 : Int32)), .val (.ref b21), .val (.ref b26), .val (.int (q5.toInt32)), .val (.int (((q5.toUInt64 >>> ((32 : Int32) &&& 0x3f).toInt64.toUInt64).toInt64).toInt32)), .val (.int (p1 ^^^ p4)), .val (.int (p2 ^^^ (-1 : Int32))), .val (.ref b31), .val (.ref b36), .val (.ref b41), .val (.ref b115), .val (.ref b120), .unset] [(.int (1 : Int32))])
        refine own_st (fun _ k => XS.ifNo X122.here hx rfl (hb hby at_254) rfl ((if0 _ _).trans (feq (by decide : ¬ ((1 : Int32) = (0 : Int32)))).1) k) ?_
        refine own_st (fun _ k => XS.aload X122.here hx rfl (hb hby at_257) rfl rfl k) ?_
        refine own_st (fun _ k => XS.aload X122.here hx rfl (hb hby at_259) rfl rfl k) ?_
        obtain ⟨T126, hp126, X126, e126, W126, st126⟩ := putF X122 hx hZ hown (host := "") (Or.inl (own_w48 hw)) Via.refl e122 F_groups_b120_122 Ex_b120_122 (Or.inl (own_w39 hw)) (own_w5 hw) (ty := (.array (.object "java/lang/Object"))) (by decide) rfl rfl (g := (mkF m 261 #[.val (.int p1), .val (.int p2), .val (.int p3), .val (.int p4), .val (.long q5), .second, .val (.int p6), .val (.int (1 : Int32)), .val (.int fh), .val (.int (3 : Int32)), .val (.int (1 : Int32)), .val (.ref b21), .val (.ref b26), .val (.int (q5.toInt32)), .val (.int (((q5.toUInt64 >>> ((32 : Int32) &&& 0x3f).toInt64.toUInt64).toInt64).toInt32)), .val (.int (p1 ^^^ p4)), .val (.int (p2 ^^^ (-1 : Int32))), .val (.ref b31), .val (.ref b36), .val (.ref b41), .val (.ref b115), .val (.ref b120), .unset] [(.ref b115), (.ref b120)])) rfl rfl (hb hby at_261)
        have O126 := own_extw O122 W126 s_b120
        have V_b21_126 := V_b21_122.other W126 (Nat.ne_of_lt lt_b21_b120)
        have V_b26_126 := V_b26_122.other W126 (Nat.ne_of_lt lt_b26_b120)
        have V_b31_126 := V_b31_122.other W126 (Nat.ne_of_lt lt_b31_b120)
        have V_b36_126 := V_b36_122.other W126 (Nat.ne_of_lt lt_b36_b120)
        have V_b41_126 := V_b41_122.other W126 (Nat.ne_of_lt lt_b41_b120)
        have V_b42_126 := V_b42_122.other W126 (Nat.ne_of_lt lt_b42_b120)
        have V_b44_126 := V_b44_122.other W126 (Nat.ne_of_lt lt_b44_b120)
        have V_b46_126 := V_b46_122.other W126 (Nat.ne_of_lt lt_b46_b120)
        have V_b48_126 := V_b48_122.other W126 (Nat.ne_of_lt lt_b48_b120)
        have V_b115_126 := V_b115_122.other W126 (Nat.ne_of_lt lt_b115_b120)
        have Ex_b21_126 := Ex_b21_122.wr W126
        have Ex_b26_126 := Ex_b26_122.wr W126
        have Ex_b31_126 := Ex_b31_122.wr W126
        have Ex_b36_126 := Ex_b36_122.wr W126
        have Ex_b42_126 := Ex_b42_122.wr W126
        have Ex_b44_126 := Ex_b44_122.wr W126
        have Ex_b46_126 := Ex_b46_122.wr W126
        have Ex_b48_126 := Ex_b48_122.wr W126
        have Ex_b120_126 := Ex_b120_122.wr W126
        have F_counts_b120_126 := F_counts_b120_122.other W126 (Or.inr (slot_ne (Or.inl (own_w29 hw)) (Or.inl (own_w39 hw)) (by decide) (t := (.array .int)) (t' := (.array (.object "java/lang/Object"))) (by decide) (by decide)))
        have F_heads_b120_126 := F_heads_b120_122.other W126 (Or.inr (slot_ne (Or.inl (own_w32 hw)) (Or.inl (own_w39 hw)) (by decide) (t := (.array .int)) (t' := (.array (.object "java/lang/Object"))) (by decide) (by decide)))
        have F_groups_b120_126 := F_groups_b120_122.same W126
        have N126 := Fr.snoc X126 N122 g_b120
        refine own_st st126 ?_
        refine own_st (fun _ k => XS.iload X126.here hx rfl (hb hby at_264) rfl k) ?_
        rcases hfh with rfl | rfl
        · show own_Go _ _ _ _ T126 (mkF m 266 #[.val (.int p1), .val (.int p2), .val (.int p3), .val (.int p4), .val (.long q5), .second, .val (.int p6), .val (.int (1 : Int32)), .val (.int (0 : Int32)), .val (.int (3 : Int32)), .val (.int (1 : Int32)), .val (.ref b21), .val (.ref b26), .val (.int (q5.toInt32)), .val (.int (((q5.toUInt64 >>> ((32 : Int32) &&& 0x3f).toInt64.toUInt64).toInt64).toInt32)), .val (.int (p1 ^^^ p4)), .val (.int (p2 ^^^ (-1 : Int32))), .val (.ref b31), .val (.ref b36), .val (.ref b41), .val (.ref b115), .val (.ref b120), .unset] [(.int (0 : Int32))])
          refine own_st (fun _ k => XS.ifYes X126.here hx rfl (pc0 := 266) (pc' := 276) rfl (hb hby at_266) rfl ((if0 _ _).trans (teq (by decide : (0 : Int32) = (0 : Int32))).1) (by decide) (by decide) k) ?_
          refine own_st (fun _ k => XS.aload X126.here hx rfl (hb hby at_276) rfl rfl k) ?_
          refine own_st (fun _ k => XS.iload X126.here hx rfl (hb hby at_278) rfl k) ?_
          refine own_st (fun _ k => XS.iload X126.here hx rfl (hb hby at_280) rfl k) ?_
          obtain ⟨v127, T127, L127, hQ127, X127, st127⟩ := own_callV X126 hx hZ (y := (⟨"com/example/sheaf/sheaf/CountedKeys", "move", "(II)V"⟩ : MethodName)) hown (own_w33 hw) (own_w34 hw) (own_w36 hw) (own_w35 hw) (own_w6 hw) (own_w37 hw) (by decide) (own_mv10 l hw [] b120 b26 b115 b36 (3 : Int32) (1 : Int32) p4 (p2 ^^^ (-1 : Int32)) (.ref b48) kk26 kk115 kk36 [(.int p1), (.int p2), (.int p3), (.int p4)] [(.ref b42), .null, (.ref b46), (.ref b48)] [(.int (q5.toInt32)), (.int (((q5.toUInt64 >>> ((32 : Int32) &&& 0x3f).toInt64.toUInt64).toInt64).toInt32)), (.int (p1 ^^^ p4)), (.int (p2 ^^^ (-1 : Int32)))] hp126 n0 (Nat.le_trans Z0 O126.1) (by decide) (by decide) (Nat.le_of_ble_eq_true rfl) g_b26 V_b26_126 rfl (Nat.ne_of_gt lt_b26_b120) F_counts_b120_126 F_groups_b120_126 F_heads_b120_126 (Nat.le_of_ble_eq_true rfl) (Nat.le_of_ble_eq_true rfl) g_b115 V_b115_126 rfl rfl (by obtain ⟨cl', A', q', _⟩ := V_b115_126; exact Sto.ofV A' q' Ov115 (Ins.of_exa Ex_b48_126 (own_w3 hw))) (Nat.ne_of_gt lt_b115_b120) (Nat.ne_of_lt lt_b26_b115)) e126 Ex_b120_126 (g := (mkF m 282 #[.val (.int p1), .val (.int p2), .val (.int p3), .val (.int p4), .val (.long q5), .second, .val (.int p6), .val (.int (1 : Int32)), .val (.int (0 : Int32)), .val (.int (3 : Int32)), .val (.int (1 : Int32)), .val (.ref b21), .val (.ref b26), .val (.int (q5.toInt32)), .val (.int (((q5.toUInt64 >>> ((32 : Int32) &&& 0x3f).toInt64.toUInt64).toInt64).toInt32)), .val (.int (p1 ^^^ p4)), .val (.int (p2 ^^^ (-1 : Int32))), .val (.ref b31), .val (.ref b36), .val (.ref b41), .val (.ref b115), .val (.ref b120), .unset] [(.int (1 : Int32)), (.int (3 : Int32)), (.ref b120)])) rfl (by rw [hml]; rfl) (argsL := [(.int (3 : Int32)), (.int (1 : Int32))]) (rest := []) (lenOf own_pd5 rfl) rfl rfl (W := 0) (Nat.le_of_eq rfl) (hb hby at_282) (by decide) (by decide) (by decide) (by decide)
          obtain ⟨rfl, N127, K127, Vc127, Vg127⟩ := hQ127
          have Vc127 : Arv Z T127.heap b26 kk26 .int 4 [(.int p1), (.int p4), (.int p3), (.int p4)] (.int (0 : Int32)) := Vc127
          have Vg127 : Arv Z T127.heap b115 kk115 (.object "java/lang/Object") 4 [(.ref b42), (.ref b48), (.ref b46), .null] .null := Vg127
          have O127 : Ext h0 T127.heap := ⟨Nat.le_trans O126.1 K127.1, fun x c r => K127.2.1 x c (O126.2 x c r) (fun z => by
            have q := (Array.getElem?_eq_some_iff.mp r).1
            simp only [List.mem_cons, List.not_mem_nil, or_false] at z
            rcases z with rfl | rfl
            · exact absurd q (Nat.not_lt.mpr s_b26)
            · exact absurd q (Nat.not_lt.mpr s_b115))⟩
          have V_b21_127 := V_b21_126.keep K127 (ninS (Nat.ne_of_lt lt_b21_b26) (ninS (Nat.ne_of_lt lt_b21_b115) nin0))
          have V_b31_127 := V_b31_126.keep K127 (ninS (Nat.ne_of_gt lt_b26_b31) (ninS (Nat.ne_of_lt lt_b31_b115) nin0))
          have V_b36_127 := V_b36_126.keep K127 (ninS (Nat.ne_of_gt lt_b26_b36) (ninS (Nat.ne_of_lt lt_b36_b115) nin0))
          have V_b41_127 := V_b41_126.keep K127 (ninS (Nat.ne_of_gt lt_b26_b41) (ninS (Nat.ne_of_lt lt_b41_b115) nin0))
          have V_b42_127 := V_b42_126.keep K127 (ninS (Nat.ne_of_gt lt_b26_b42) (ninS (Nat.ne_of_lt lt_b42_b115) nin0))
          have V_b44_127 := V_b44_126.keep K127 (ninS (Nat.ne_of_gt lt_b26_b44) (ninS (Nat.ne_of_lt lt_b44_b115) nin0))
          have V_b46_127 := V_b46_126.keep K127 (ninS (Nat.ne_of_gt lt_b26_b46) (ninS (Nat.ne_of_lt lt_b46_b115) nin0))
          have V_b48_127 := V_b48_126.keep K127 (ninS (Nat.ne_of_gt lt_b26_b48) (ninS (Nat.ne_of_lt lt_b48_b115) nin0))
          have Ex_b21_127 := Ex_b21_126.keep K127
          have Ex_b26_127 := Ex_b26_126.keep K127
          have Ex_b31_127 := Ex_b31_126.keep K127
          have Ex_b36_127 := Ex_b36_126.keep K127
          have Ex_b42_127 := Ex_b42_126.keep K127
          have Ex_b44_127 := Ex_b44_126.keep K127
          have Ex_b46_127 := Ex_b46_126.keep K127
          have Ex_b48_127 := Ex_b48_126.keep K127
          have Ex_b120_127 := Ex_b120_126.keep K127
          have F_counts_b120_127 := F_counts_b120_126.keep K127 (ninS (Nat.ne_of_gt lt_b26_b120) (ninS (Nat.ne_of_gt lt_b115_b120) nin0))
          have F_groups_b120_127 := F_groups_b120_126.keep K127 (ninS (Nat.ne_of_gt lt_b26_b120) (ninS (Nat.ne_of_gt lt_b115_b120) nin0))
          have F_heads_b120_127 := F_heads_b120_126.keep K127 (ninS (Nat.ne_of_gt lt_b26_b120) (ninS (Nat.ne_of_gt lt_b115_b120) nin0))
          have N127' := Fr.app N126 N127
          refine own_st st127 ?_
          show own_Go _ _ _ _ T127 (mkF m 285 #[.val (.int p1), .val (.int p2), .val (.int p3), .val (.int p4), .val (.long q5), .second, .val (.int p6), .val (.int (1 : Int32)), .val (.int (0 : Int32)), .val (.int (3 : Int32)), .val (.int (1 : Int32)), .val (.ref b21), .val (.ref b26), .val (.int (q5.toInt32)), .val (.int (((q5.toUInt64 >>> ((32 : Int32) &&& 0x3f).toInt64.toUInt64).toInt64).toInt32)), .val (.int (p1 ^^^ p4)), .val (.int (p2 ^^^ (-1 : Int32))), .val (.ref b31), .val (.ref b36), .val (.ref b41), .val (.ref b115), .val (.ref b120), .unset] [])
          exact tl10 _ _ _ X127 N127' rfl O127 _ _ _ _ _ _ _ _ _ _ _ _ _ F_counts_b120_127 F_groups_b120_127 F_heads_b120_127 (own_im31 l hw [] b26 b21 (3 : Int32) (1 : Int32) kk26 kk21 p1 p2 p3 p4 T127.heap n0 (Nat.le_trans Z0 O127.1) rfl rfl Vc127 V_b21_127) (own_rm31 l hw [] b115 b41 (3 : Int32) (1 : Int32) kk115 kk41 b42 b44 b46 b48 T127.heap n0 (Nat.le_trans Z0 O127.1) rfl rfl Vg127 V_b41_127)
        · show own_Go _ _ _ _ T126 (mkF m 266 #[.val (.int p1), .val (.int p2), .val (.int p3), .val (.int p4), .val (.long q5), .second, .val (.int p6), .val (.int (1 : Int32)), .val (.int (1 : Int32)), .val (.int (3 : Int32)), .val (.int (1 : Int32)), .val (.ref b21), .val (.ref b26), .val (.int (q5.toInt32)), .val (.int (((q5.toUInt64 >>> ((32 : Int32) &&& 0x3f).toInt64.toUInt64).toInt64).toInt32)), .val (.int (p1 ^^^ p4)), .val (.int (p2 ^^^ (-1 : Int32))), .val (.ref b31), .val (.ref b36), .val (.ref b41), .val (.ref b115), .val (.ref b120), .unset] [(.int (1 : Int32))])
          refine own_st (fun _ k => XS.ifNo X126.here hx rfl (hb hby at_266) rfl ((if0 _ _).trans (feq (by decide : ¬ ((1 : Int32) = (0 : Int32)))).1) k) ?_
          refine own_st (fun _ k => XS.aload X126.here hx rfl (hb hby at_269) rfl rfl k) ?_
          refine own_st (fun _ k => XS.aload X126.here hx rfl (hb hby at_271) rfl rfl k) ?_
          obtain ⟨T128, hp128, X128, e128, W128, st128⟩ := putF X126 hx hZ hown (host := "") (Or.inl (own_w31 hw)) Via.refl e126 F_heads_b120_126 Ex_b120_126 (Or.inl (own_w32 hw)) (own_w5 hw) (ty := (.array .int)) (by decide) rfl rfl (g := (mkF m 273 #[.val (.int p1), .val (.int p2), .val (.int p3), .val (.int p4), .val (.long q5), .second, .val (.int p6), .val (.int (1 : Int32)), .val (.int (1 : Int32)), .val (.int (3 : Int32)), .val (.int (1 : Int32)), .val (.ref b21), .val (.ref b26), .val (.int (q5.toInt32)), .val (.int (((q5.toUInt64 >>> ((32 : Int32) &&& 0x3f).toInt64.toUInt64).toInt64).toInt32)), .val (.int (p1 ^^^ p4)), .val (.int (p2 ^^^ (-1 : Int32))), .val (.ref b31), .val (.ref b36), .val (.ref b41), .val (.ref b115), .val (.ref b120), .unset] [(.ref b36), (.ref b120)])) rfl rfl (hb hby at_273)
          have O128 := own_extw O126 W128 s_b120
          have V_b21_128 := V_b21_126.other W128 (Nat.ne_of_lt lt_b21_b120)
          have V_b26_128 := V_b26_126.other W128 (Nat.ne_of_lt lt_b26_b120)
          have V_b31_128 := V_b31_126.other W128 (Nat.ne_of_lt lt_b31_b120)
          have V_b36_128 := V_b36_126.other W128 (Nat.ne_of_lt lt_b36_b120)
          have V_b41_128 := V_b41_126.other W128 (Nat.ne_of_lt lt_b41_b120)
          have V_b42_128 := V_b42_126.other W128 (Nat.ne_of_lt lt_b42_b120)
          have V_b44_128 := V_b44_126.other W128 (Nat.ne_of_lt lt_b44_b120)
          have V_b46_128 := V_b46_126.other W128 (Nat.ne_of_lt lt_b46_b120)
          have V_b48_128 := V_b48_126.other W128 (Nat.ne_of_lt lt_b48_b120)
          have V_b115_128 := V_b115_126.other W128 (Nat.ne_of_lt lt_b115_b120)
          have Ex_b21_128 := Ex_b21_126.wr W128
          have Ex_b26_128 := Ex_b26_126.wr W128
          have Ex_b31_128 := Ex_b31_126.wr W128
          have Ex_b36_128 := Ex_b36_126.wr W128
          have Ex_b42_128 := Ex_b42_126.wr W128
          have Ex_b44_128 := Ex_b44_126.wr W128
          have Ex_b46_128 := Ex_b46_126.wr W128
          have Ex_b48_128 := Ex_b48_126.wr W128
          have Ex_b120_128 := Ex_b120_126.wr W128
          have F_counts_b120_128 := F_counts_b120_126.other W128 (Or.inr (slot_ne (Or.inl (own_w29 hw)) (Or.inl (own_w32 hw)) (by decide) (t := (.array .int)) (t' := (.array .int)) (by decide) (by decide)))
          have F_groups_b120_128 := F_groups_b120_126.other W128 (Or.inr (slot_ne (Or.inl (own_w39 hw)) (Or.inl (own_w32 hw)) (by decide) (t := (.array (.object "java/lang/Object"))) (t' := (.array .int)) (by decide) (by decide)))
          have F_heads_b120_128 := F_heads_b120_126.same W128
          have N128 := Fr.snoc X128 N126 g_b120
          refine own_st st128 ?_
          refine own_st (fun _ k => XS.aload X128.here hx rfl (hb hby at_276) rfl rfl k) ?_
          refine own_st (fun _ k => XS.iload X128.here hx rfl (hb hby at_278) rfl k) ?_
          show own_Go _ _ _ _ T128 (mkF m 280 #[.val (.int p1), .val (.int p2), .val (.int p3), .val (.int p4), .val (.long q5), .second, .val (.int p6), .val (.int (1 : Int32)), .val (.int (1 : Int32)), .val (.int (3 : Int32)), .val (.int (1 : Int32)), .val (.ref b21), .val (.ref b26), .val (.int (q5.toInt32)), .val (.int (((q5.toUInt64 >>> ((32 : Int32) &&& 0x3f).toInt64.toUInt64).toInt64).toInt32)), .val (.int (p1 ^^^ p4)), .val (.int (p2 ^^^ (-1 : Int32))), .val (.ref b31), .val (.ref b36), .val (.ref b41), .val (.ref b115), .val (.ref b120), .unset] [(.int (3 : Int32)), (.ref b120)])
          refine own_st (fun _ k => XS.iload X128.here hx rfl (hb hby at_280) rfl k) ?_
          obtain ⟨v129, T129, L129, hQ129, X129, st129⟩ := own_callV X128 hx hZ (y := (⟨"com/example/sheaf/sheaf/CountedKeys", "move", "(II)V"⟩ : MethodName)) hown (own_w33 hw) (own_w34 hw) (own_w36 hw) (own_w35 hw) (own_w6 hw) (own_w37 hw) (by decide) (own_mv11 l hw [] b120 b26 b115 b36 (3 : Int32) (1 : Int32) p4 (p2 ^^^ (-1 : Int32)) (.ref b48) kk26 kk115 kk36 [(.int p1), (.int p2), (.int p3), (.int p4)] [(.ref b42), .null, (.ref b46), (.ref b48)] [(.int (q5.toInt32)), (.int (((q5.toUInt64 >>> ((32 : Int32) &&& 0x3f).toInt64.toUInt64).toInt64).toInt32)), (.int (p1 ^^^ p4)), (.int (p2 ^^^ (-1 : Int32)))] hp128 n0 (Nat.le_trans Z0 O128.1) (by decide) (by decide) (Nat.le_of_ble_eq_true rfl) g_b26 V_b26_128 rfl (Nat.ne_of_gt lt_b26_b120) F_counts_b120_128 F_groups_b120_128 F_heads_b120_128 (Nat.le_of_ble_eq_true rfl) (Nat.le_of_ble_eq_true rfl) g_b115 V_b115_128 rfl rfl (by obtain ⟨cl', A', q', _⟩ := V_b115_128; exact Sto.ofV A' q' Ov115 (Ins.of_exa Ex_b48_128 (own_w3 hw))) (Nat.ne_of_gt lt_b115_b120) (Nat.ne_of_lt lt_b26_b115) (Nat.le_of_ble_eq_true rfl) g_b36 V_b36_128 rfl (Nat.ne_of_gt lt_b36_b120) (Nat.ne_of_lt lt_b26_b36) (Nat.ne_of_gt lt_b36_b115)) e128 Ex_b120_128 (g := (mkF m 282 #[.val (.int p1), .val (.int p2), .val (.int p3), .val (.int p4), .val (.long q5), .second, .val (.int p6), .val (.int (1 : Int32)), .val (.int (1 : Int32)), .val (.int (3 : Int32)), .val (.int (1 : Int32)), .val (.ref b21), .val (.ref b26), .val (.int (q5.toInt32)), .val (.int (((q5.toUInt64 >>> ((32 : Int32) &&& 0x3f).toInt64.toUInt64).toInt64).toInt32)), .val (.int (p1 ^^^ p4)), .val (.int (p2 ^^^ (-1 : Int32))), .val (.ref b31), .val (.ref b36), .val (.ref b41), .val (.ref b115), .val (.ref b120), .unset] [(.int (1 : Int32)), (.int (3 : Int32)), (.ref b120)])) rfl (by rw [hml]; rfl) (argsL := [(.int (3 : Int32)), (.int (1 : Int32))]) (rest := []) (lenOf own_pd5 rfl) rfl rfl (W := 0) (Nat.le_of_eq rfl) (hb hby at_282) (by decide) (by decide) (by decide) (by decide)
          obtain ⟨rfl, N129, K129, Vc129, Vg129, Vh129⟩ := hQ129
          have Vc129 : Arv Z T129.heap b26 kk26 .int 4 [(.int p1), (.int p4), (.int p3), (.int p4)] (.int (0 : Int32)) := Vc129
          have Vg129 : Arv Z T129.heap b115 kk115 (.object "java/lang/Object") 4 [(.ref b42), (.ref b48), (.ref b46), .null] .null := Vg129
          have Vh129 : Arv Z T129.heap b36 kk36 .int 4 [(.int (q5.toInt32)), (.int (p2 ^^^ (-1 : Int32))), (.int (p1 ^^^ p4)), (.int (p2 ^^^ (-1 : Int32)))] (.int (0 : Int32)) := Vh129
          have O129 : Ext h0 T129.heap := ⟨Nat.le_trans O128.1 K129.1, fun x c r => K129.2.1 x c (O128.2 x c r) (fun z => by
            have q := (Array.getElem?_eq_some_iff.mp r).1
            simp only [List.mem_cons, List.not_mem_nil, or_false] at z
            rcases z with rfl | rfl | rfl
            · exact absurd q (Nat.not_lt.mpr s_b26)
            · exact absurd q (Nat.not_lt.mpr s_b115)
            · exact absurd q (Nat.not_lt.mpr s_b36))⟩
          have V_b21_129 := V_b21_128.keep K129 (ninS (Nat.ne_of_lt lt_b21_b26) (ninS (Nat.ne_of_lt lt_b21_b115) (ninS (Nat.ne_of_lt lt_b21_b36) nin0)))
          have V_b31_129 := V_b31_128.keep K129 (ninS (Nat.ne_of_gt lt_b26_b31) (ninS (Nat.ne_of_lt lt_b31_b115) (ninS (Nat.ne_of_lt lt_b31_b36) nin0)))
          have V_b41_129 := V_b41_128.keep K129 (ninS (Nat.ne_of_gt lt_b26_b41) (ninS (Nat.ne_of_lt lt_b41_b115) (ninS (Nat.ne_of_gt lt_b36_b41) nin0)))
          have V_b42_129 := V_b42_128.keep K129 (ninS (Nat.ne_of_gt lt_b26_b42) (ninS (Nat.ne_of_lt lt_b42_b115) (ninS (Nat.ne_of_gt lt_b36_b42) nin0)))
          have V_b44_129 := V_b44_128.keep K129 (ninS (Nat.ne_of_gt lt_b26_b44) (ninS (Nat.ne_of_lt lt_b44_b115) (ninS (Nat.ne_of_gt lt_b36_b44) nin0)))
          have V_b46_129 := V_b46_128.keep K129 (ninS (Nat.ne_of_gt lt_b26_b46) (ninS (Nat.ne_of_lt lt_b46_b115) (ninS (Nat.ne_of_gt lt_b36_b46) nin0)))
          have V_b48_129 := V_b48_128.keep K129 (ninS (Nat.ne_of_gt lt_b26_b48) (ninS (Nat.ne_of_lt lt_b48_b115) (ninS (Nat.ne_of_gt lt_b36_b48) nin0)))
          have Ex_b21_129 := Ex_b21_128.keep K129
          have Ex_b26_129 := Ex_b26_128.keep K129
          have Ex_b31_129 := Ex_b31_128.keep K129
          have Ex_b36_129 := Ex_b36_128.keep K129
          have Ex_b42_129 := Ex_b42_128.keep K129
          have Ex_b44_129 := Ex_b44_128.keep K129
          have Ex_b46_129 := Ex_b46_128.keep K129
          have Ex_b48_129 := Ex_b48_128.keep K129
          have Ex_b120_129 := Ex_b120_128.keep K129
          have F_counts_b120_129 := F_counts_b120_128.keep K129 (ninS (Nat.ne_of_gt lt_b26_b120) (ninS (Nat.ne_of_gt lt_b115_b120) (ninS (Nat.ne_of_gt lt_b36_b120) nin0)))
          have F_groups_b120_129 := F_groups_b120_128.keep K129 (ninS (Nat.ne_of_gt lt_b26_b120) (ninS (Nat.ne_of_gt lt_b115_b120) (ninS (Nat.ne_of_gt lt_b36_b120) nin0)))
          have F_heads_b120_129 := F_heads_b120_128.keep K129 (ninS (Nat.ne_of_gt lt_b26_b120) (ninS (Nat.ne_of_gt lt_b115_b120) (ninS (Nat.ne_of_gt lt_b36_b120) nin0)))
          have N129' := Fr.app N128 N129
          refine own_st st129 ?_
          show own_Go _ _ _ _ T129 (mkF m 285 #[.val (.int p1), .val (.int p2), .val (.int p3), .val (.int p4), .val (.long q5), .second, .val (.int p6), .val (.int (1 : Int32)), .val (.int (1 : Int32)), .val (.int (3 : Int32)), .val (.int (1 : Int32)), .val (.ref b21), .val (.ref b26), .val (.int (q5.toInt32)), .val (.int (((q5.toUInt64 >>> ((32 : Int32) &&& 0x3f).toInt64.toUInt64).toInt64).toInt32)), .val (.int (p1 ^^^ p4)), .val (.int (p2 ^^^ (-1 : Int32))), .val (.ref b31), .val (.ref b36), .val (.ref b41), .val (.ref b115), .val (.ref b120), .unset] [])
          exact tl11 _ _ _ X129 N129' rfl O129 _ _ _ _ _ _ _ _ _ _ _ _ _ F_counts_b120_129 F_groups_b120_129 F_heads_b120_129 (own_im31 l hw [] b26 b21 (3 : Int32) (1 : Int32) kk26 kk21 p1 p2 p3 p4 T129.heap n0 (Nat.le_trans Z0 O129.1) rfl rfl Vc129 V_b21_129) (own_rm31 l hw [] b115 b41 (3 : Int32) (1 : Int32) kk115 kk41 b42 b44 b46 b48 T129.heap n0 (Nat.le_trans Z0 O129.1) rfl rfl Vg129 V_b41_129) (own_im31 l hw [] b36 b31 (3 : Int32) (1 : Int32) kk36 kk31 (q5.toInt32) (((q5.toUInt64 >>> ((32 : Int32) &&& 0x3f).toInt64.toUInt64).toInt64).toInt32) (p1 ^^^ p4) (p2 ^^^ (-1 : Int32)) T129.heap n0 (Nat.le_trans Z0 O129.1) rfl rfl Vh129 V_b31_129)
    · show own_Go _ _ _ _ T49 (mkF m 196 #[.val (.int p1), .val (.int p2), .val (.int p3), .val (.int p4), .val (.long q5), .second, .val (.int p6), .val (.int fg), .val (.int fh), .val (.int (3 : Int32)), .val (.int (2 : Int32)), .val (.ref b21), .val (.ref b26), .val (.int (q5.toInt32)), .val (.int (((q5.toUInt64 >>> ((32 : Int32) &&& 0x3f).toInt64.toUInt64).toInt64).toInt32)), .val (.int (p1 ^^^ p4)), .val (.int (p2 ^^^ (-1 : Int32))), .val (.ref b31), .val (.ref b36), .val (.ref b41), .unset, .unset, .unset] [])
      refine own_st (fun _ k => XS.aload X49.here hx rfl (hb hby at_196) rfl rfl k) ?_
      refine own_st (fun _ k => XS.iload X49.here hx rfl (hb hby at_198) rfl k) ?_
      refine own_st (fun _ k => XS.aconstNull X49.here hx rfl (hb hby at_200) k) ?_
      obtain ⟨T130, hp130, X130, e130, W130, Va130, st130⟩ := own_stR X49 hx hZ e49 Va49 rfl rfl (by decide) 2 (by decide) (Nat.le_of_ble_eq_true rfl) (fun _ _ _ => Or.inl rfl) (g := (mkF m 201 #[.val (.int p1), .val (.int p2), .val (.int p3), .val (.int p4), .val (.long q5), .second, .val (.int p6), .val (.int fg), .val (.int fh), .val (.int (3 : Int32)), .val (.int (2 : Int32)), .val (.ref b21), .val (.ref b26), .val (.int (q5.toInt32)), .val (.int (((q5.toUInt64 >>> ((32 : Int32) &&& 0x3f).toInt64.toUInt64).toInt64).toInt32)), .val (.int (p1 ^^^ p4)), .val (.int (p2 ^^^ (-1 : Int32))), .val (.ref b31), .val (.ref b36), .val (.ref b41), .unset, .unset, .unset] [.null, (.int (2 : Int32)), (.ref b41)])) rfl rfl (hb hby at_201)
      have O130 := own_extw O49 W130 s_b41
      have V_b21_130 := V_b21_49.other W130 (Nat.ne_of_lt lt_b21_b41)
      have V_b26_130 := V_b26_49.other W130 (Nat.ne_of_lt lt_b26_b41)
      have V_b31_130 := V_b31_49.other W130 (Nat.ne_of_lt lt_b31_b41)
      have V_b36_130 := V_b36_49.other W130 (Nat.ne_of_lt lt_b36_b41)
      have V_b42_130 := V_b42_49.other W130 (Nat.ne_of_gt lt_b41_b42)
      have V_b44_130 := V_b44_49.other W130 (Nat.ne_of_gt lt_b41_b44)
      have V_b46_130 := V_b46_49.other W130 (Nat.ne_of_gt lt_b41_b46)
      have V_b48_130 := V_b48_49.other W130 (Nat.ne_of_gt lt_b41_b48)
      have Ex_b21_130 := Ex_b21_49.wr W130
      have Ex_b26_130 := Ex_b26_49.wr W130
      have Ex_b31_130 := Ex_b31_49.wr W130
      have Ex_b36_130 := Ex_b36_49.wr W130
      have Ex_b42_130 := Ex_b42_49.wr W130
      have Ex_b44_130 := Ex_b44_49.wr W130
      have Ex_b46_130 := Ex_b46_49.wr W130
      have Ex_b48_130 := Ex_b48_49.wr W130
      have Va130 : Arv Z hp130 b41 kk41 (.object "java/lang/Object") (4 : Int32) [(.ref b42), (.ref b44), .null, (.ref b48)] .null := Va130
      have N130 := Fr.snoc X130 N49 g_b41
      refine own_st st130 ?_
      refine own_st (fun _ k => XS.iconst X130.here hx rfl (hb hby at_202) k) ?_
      obtain ⟨T131, hp131, kk131, X131, e131, Et131, A131, Ov131, st131⟩ := newR X130 hx hZ hown (own_w1 hw) (own_w2 hw) e130 (g := (mkF m 203 #[.val (.int p1), .val (.int p2), .val (.int p3), .val (.int p4), .val (.long q5), .second, .val (.int p6), .val (.int fg), .val (.int fh), .val (.int (3 : Int32)), .val (.int (2 : Int32)), .val (.ref b21), .val (.ref b26), .val (.int (q5.toInt32)), .val (.int (((q5.toUInt64 >>> ((32 : Int32) &&& 0x3f).toInt64.toUInt64).toInt64).toInt32)), .val (.int (p1 ^^^ p4)), .val (.int (p2 ^^^ (-1 : Int32))), .val (.ref b31), .val (.ref b36), .val (.ref b41), .unset, .unset, .unset] [(.int (4 : Int32))])) rfl (hb hby at_203) rfl (by decide) (cap := 4) (by decide) (by decide) (by decide) (by decide)
      obtain ⟨b131, g131⟩ : ∃ z, z = hp130.size := ⟨_, rfl⟩
      rw [← g131] at A131 st131
      have s_b131 : h0.size ≤ b131 := Nat.le_trans O130.1 (Nat.le_of_eq g131.symm)
      have g_b131 : n0 ≤ b131 := Nat.le_trans Z0 s_b131
      have lt_b21_b131 : b21 < b131 := Nat.lt_of_lt_of_le V_b21_130.lt (Nat.le_of_eq g131.symm)
      have lt_b26_b131 : b26 < b131 := Nat.lt_of_lt_of_le V_b26_130.lt (Nat.le_of_eq g131.symm)
      have lt_b31_b131 : b31 < b131 := Nat.lt_of_lt_of_le V_b31_130.lt (Nat.le_of_eq g131.symm)
      have lt_b36_b131 : b36 < b131 := Nat.lt_of_lt_of_le V_b36_130.lt (Nat.le_of_eq g131.symm)
      have lt_b41_b131 : b41 < b131 := Nat.lt_of_lt_of_le Va130.lt (Nat.le_of_eq g131.symm)
      have lt_b42_b131 : b42 < b131 := Nat.lt_of_lt_of_le V_b42_130.lt (Nat.le_of_eq g131.symm)
      have lt_b44_b131 : b44 < b131 := Nat.lt_of_lt_of_le V_b44_130.lt (Nat.le_of_eq g131.symm)
      have lt_b46_b131 : b46 < b131 := Nat.lt_of_lt_of_le V_b46_130.lt (Nat.le_of_eq g131.symm)
      have lt_b48_b131 : b48 < b131 := Nat.lt_of_lt_of_le V_b48_130.lt (Nat.le_of_eq g131.symm)
      have O131 := own_extt O130 Et131
      have V_b21_131 := V_b21_130.ext Et131
      have V_b26_131 := V_b26_130.ext Et131
      have V_b31_131 := V_b31_130.ext Et131
      have V_b36_131 := V_b36_130.ext Et131
      have V_b41_131 := Va130.ext Et131
      have V_b42_131 := V_b42_130.ext Et131
      have V_b44_131 := V_b44_130.ext Et131
      have V_b46_131 := V_b46_130.ext Et131
      have V_b48_131 := V_b48_130.ext Et131
      have Ex_b21_131 := Ex_b21_130.ext Et131
      have Ex_b26_131 := Ex_b26_130.ext Et131
      have Ex_b31_131 := Ex_b31_130.ext Et131
      have Ex_b36_131 := Ex_b36_130.ext Et131
      have Ex_b42_131 := Ex_b42_130.ext Et131
      have Ex_b44_131 := Ex_b44_130.ext Et131
      have Ex_b46_131 := Ex_b46_130.ext Et131
      have Ex_b48_131 := Ex_b48_130.ext Et131
      have Va131 : Arv Z hp131 b131 kk131 (.object "java/lang/Object") (4 : Int32) [.null, .null, .null, .null] .null := (Arv.new A131 (by decide)).pad (pad_rep [] .null 4)
      refine own_st st131 ?_
      show own_Go _ _ _ _ T131 (mkF m 206 #[.val (.int p1), .val (.int p2), .val (.int p3), .val (.int p4), .val (.long q5), .second, .val (.int p6), .val (.int fg), .val (.int fh), .val (.int (3 : Int32)), .val (.int (2 : Int32)), .val (.ref b21), .val (.ref b26), .val (.int (q5.toInt32)), .val (.int (((q5.toUInt64 >>> ((32 : Int32) &&& 0x3f).toInt64.toUInt64).toInt64).toInt32)), .val (.int (p1 ^^^ p4)), .val (.int (p2 ^^^ (-1 : Int32))), .val (.ref b31), .val (.ref b36), .val (.ref b41), .unset, .unset, .unset] [(.ref b131)])
      refine own_st (fun _ k => XS.dup X131.here hx rfl (hb hby at_206) rfl rfl k) ?_
      refine own_st (fun _ k => XS.iconst X131.here hx rfl (hb hby at_207) k) ?_
      refine own_st (fun _ k => XS.aload X131.here hx rfl (hb hby at_208) rfl rfl k) ?_
      refine own_st (fun _ k => XS.iconst X131.here hx rfl (hb hby at_210) k) ?_
      refine own_st (own_ldR X131 hx hZ e131 V_b41_131 rfl (j := (0 : Int32)) (by decide) (v := (.ref b42)) rfl (g := (mkF m 211 #[.val (.int p1), .val (.int p2), .val (.int p3), .val (.int p4), .val (.long q5), .second, .val (.int p6), .val (.int fg), .val (.int fh), .val (.int (3 : Int32)), .val (.int (2 : Int32)), .val (.ref b21), .val (.ref b26), .val (.int (q5.toInt32)), .val (.int (((q5.toUInt64 >>> ((32 : Int32) &&& 0x3f).toInt64.toUInt64).toInt64).toInt32)), .val (.int (p1 ^^^ p4)), .val (.int (p2 ^^^ (-1 : Int32))), .val (.ref b31), .val (.ref b36), .val (.ref b41), .unset, .unset, .unset] [(.int (0 : Int32)), (.ref b41), (.int (0 : Int32)), (.ref b131), (.ref b131)])) rfl rfl (hb hby at_211)) ?_
      obtain ⟨T132, hp132, X132, e132, W132, Va132, st132⟩ := own_stR X131 hx hZ e131 Va131 rfl rfl (by decide) 0 (by decide) (Nat.le_of_ble_eq_true rfl) (fun cl Ar q => Sto.ofV Ar q Ov131 (Ins.of_exa Ex_b42_131 (own_w3 hw))) (g := (mkF m 212 #[.val (.int p1), .val (.int p2), .val (.int p3), .val (.int p4), .val (.long q5), .second, .val (.int p6), .val (.int fg), .val (.int fh), .val (.int (3 : Int32)), .val (.int (2 : Int32)), .val (.ref b21), .val (.ref b26), .val (.int (q5.toInt32)), .val (.int (((q5.toUInt64 >>> ((32 : Int32) &&& 0x3f).toInt64.toUInt64).toInt64).toInt32)), .val (.int (p1 ^^^ p4)), .val (.int (p2 ^^^ (-1 : Int32))), .val (.ref b31), .val (.ref b36), .val (.ref b41), .unset, .unset, .unset] [(.ref b42), (.int (0 : Int32)), (.ref b131), (.ref b131)])) rfl rfl (hb hby at_212)
      have O132 := own_extw O131 W132 s_b131
      have V_b21_132 := V_b21_131.other W132 (Nat.ne_of_lt lt_b21_b131)
      have V_b26_132 := V_b26_131.other W132 (Nat.ne_of_lt lt_b26_b131)
      have V_b31_132 := V_b31_131.other W132 (Nat.ne_of_lt lt_b31_b131)
      have V_b36_132 := V_b36_131.other W132 (Nat.ne_of_lt lt_b36_b131)
      have V_b41_132 := V_b41_131.other W132 (Nat.ne_of_lt lt_b41_b131)
      have V_b42_132 := V_b42_131.other W132 (Nat.ne_of_lt lt_b42_b131)
      have V_b44_132 := V_b44_131.other W132 (Nat.ne_of_lt lt_b44_b131)
      have V_b46_132 := V_b46_131.other W132 (Nat.ne_of_lt lt_b46_b131)
      have V_b48_132 := V_b48_131.other W132 (Nat.ne_of_lt lt_b48_b131)
      have Ex_b21_132 := Ex_b21_131.wr W132
      have Ex_b26_132 := Ex_b26_131.wr W132
      have Ex_b31_132 := Ex_b31_131.wr W132
      have Ex_b36_132 := Ex_b36_131.wr W132
      have Ex_b42_132 := Ex_b42_131.wr W132
      have Ex_b44_132 := Ex_b44_131.wr W132
      have Ex_b46_132 := Ex_b46_131.wr W132
      have Ex_b48_132 := Ex_b48_131.wr W132
      have Va132 : Arv Z hp132 b131 kk131 (.object "java/lang/Object") (4 : Int32) [(.ref b42), .null, .null, .null] .null := Va132
      have N132 := Fr.snoc X132 N130 g_b131
      refine own_st st132 ?_
      show own_Go _ _ _ _ T132 (mkF m 213 #[.val (.int p1), .val (.int p2), .val (.int p3), .val (.int p4), .val (.long q5), .second, .val (.int p6), .val (.int fg), .val (.int fh), .val (.int (3 : Int32)), .val (.int (2 : Int32)), .val (.ref b21), .val (.ref b26), .val (.int (q5.toInt32)), .val (.int (((q5.toUInt64 >>> ((32 : Int32) &&& 0x3f).toInt64.toUInt64).toInt64).toInt32)), .val (.int (p1 ^^^ p4)), .val (.int (p2 ^^^ (-1 : Int32))), .val (.ref b31), .val (.ref b36), .val (.ref b41), .unset, .unset, .unset] [(.ref b131)])
      refine own_st (fun _ k => XS.dup X132.here hx rfl (hb hby at_213) rfl rfl k) ?_
      refine own_st (fun _ k => XS.iconst X132.here hx rfl (hb hby at_214) k) ?_
      refine own_st (fun _ k => XS.aload X132.here hx rfl (hb hby at_215) rfl rfl k) ?_
      refine own_st (fun _ k => XS.iconst X132.here hx rfl (hb hby at_217) k) ?_
      refine own_st (own_ldR X132 hx hZ e132 V_b41_132 rfl (j := (1 : Int32)) (by decide) (v := (.ref b44)) rfl (g := (mkF m 218 #[.val (.int p1), .val (.int p2), .val (.int p3), .val (.int p4), .val (.long q5), .second, .val (.int p6), .val (.int fg), .val (.int fh), .val (.int (3 : Int32)), .val (.int (2 : Int32)), .val (.ref b21), .val (.ref b26), .val (.int (q5.toInt32)), .val (.int (((q5.toUInt64 >>> ((32 : Int32) &&& 0x3f).toInt64.toUInt64).toInt64).toInt32)), .val (.int (p1 ^^^ p4)), .val (.int (p2 ^^^ (-1 : Int32))), .val (.ref b31), .val (.ref b36), .val (.ref b41), .unset, .unset, .unset] [(.int (1 : Int32)), (.ref b41), (.int (1 : Int32)), (.ref b131), (.ref b131)])) rfl rfl (hb hby at_218)) ?_
      obtain ⟨T133, hp133, X133, e133, W133, Va133, st133⟩ := own_stR X132 hx hZ e132 Va132 rfl rfl (by decide) 1 (by decide) (Nat.le_of_ble_eq_true rfl) (fun cl Ar q => Sto.ofV Ar q Ov131 (Ins.of_exa Ex_b44_132 (own_w3 hw))) (g := (mkF m 219 #[.val (.int p1), .val (.int p2), .val (.int p3), .val (.int p4), .val (.long q5), .second, .val (.int p6), .val (.int fg), .val (.int fh), .val (.int (3 : Int32)), .val (.int (2 : Int32)), .val (.ref b21), .val (.ref b26), .val (.int (q5.toInt32)), .val (.int (((q5.toUInt64 >>> ((32 : Int32) &&& 0x3f).toInt64.toUInt64).toInt64).toInt32)), .val (.int (p1 ^^^ p4)), .val (.int (p2 ^^^ (-1 : Int32))), .val (.ref b31), .val (.ref b36), .val (.ref b41), .unset, .unset, .unset] [(.ref b44), (.int (1 : Int32)), (.ref b131), (.ref b131)])) rfl rfl (hb hby at_219)
      have O133 := own_extw O132 W133 s_b131
      have V_b21_133 := V_b21_132.other W133 (Nat.ne_of_lt lt_b21_b131)
      have V_b26_133 := V_b26_132.other W133 (Nat.ne_of_lt lt_b26_b131)
      have V_b31_133 := V_b31_132.other W133 (Nat.ne_of_lt lt_b31_b131)
      have V_b36_133 := V_b36_132.other W133 (Nat.ne_of_lt lt_b36_b131)
      have V_b41_133 := V_b41_132.other W133 (Nat.ne_of_lt lt_b41_b131)
      have V_b42_133 := V_b42_132.other W133 (Nat.ne_of_lt lt_b42_b131)
      have V_b44_133 := V_b44_132.other W133 (Nat.ne_of_lt lt_b44_b131)
      have V_b46_133 := V_b46_132.other W133 (Nat.ne_of_lt lt_b46_b131)
      have V_b48_133 := V_b48_132.other W133 (Nat.ne_of_lt lt_b48_b131)
      have Ex_b21_133 := Ex_b21_132.wr W133
      have Ex_b26_133 := Ex_b26_132.wr W133
      have Ex_b31_133 := Ex_b31_132.wr W133
      have Ex_b36_133 := Ex_b36_132.wr W133
      have Ex_b42_133 := Ex_b42_132.wr W133
      have Ex_b44_133 := Ex_b44_132.wr W133
      have Ex_b46_133 := Ex_b46_132.wr W133
      have Ex_b48_133 := Ex_b48_132.wr W133
      have Va133 : Arv Z hp133 b131 kk131 (.object "java/lang/Object") (4 : Int32) [(.ref b42), (.ref b44), .null, .null] .null := Va133
      have N133 := Fr.snoc X133 N132 g_b131
      refine own_st st133 ?_
      show own_Go _ _ _ _ T133 (mkF m 220 #[.val (.int p1), .val (.int p2), .val (.int p3), .val (.int p4), .val (.long q5), .second, .val (.int p6), .val (.int fg), .val (.int fh), .val (.int (3 : Int32)), .val (.int (2 : Int32)), .val (.ref b21), .val (.ref b26), .val (.int (q5.toInt32)), .val (.int (((q5.toUInt64 >>> ((32 : Int32) &&& 0x3f).toInt64.toUInt64).toInt64).toInt32)), .val (.int (p1 ^^^ p4)), .val (.int (p2 ^^^ (-1 : Int32))), .val (.ref b31), .val (.ref b36), .val (.ref b41), .unset, .unset, .unset] [(.ref b131)])
      refine own_st (fun _ k => XS.dup X133.here hx rfl (hb hby at_220) rfl rfl k) ?_
      refine own_st (fun _ k => XS.iconst X133.here hx rfl (hb hby at_221) k) ?_
      refine own_st (fun _ k => XS.aload X133.here hx rfl (hb hby at_222) rfl rfl k) ?_
      refine own_st (fun _ k => XS.iconst X133.here hx rfl (hb hby at_224) k) ?_
      refine own_st (own_ldR X133 hx hZ e133 V_b41_133 rfl (j := (2 : Int32)) (by decide) (v := .null) rfl (g := (mkF m 225 #[.val (.int p1), .val (.int p2), .val (.int p3), .val (.int p4), .val (.long q5), .second, .val (.int p6), .val (.int fg), .val (.int fh), .val (.int (3 : Int32)), .val (.int (2 : Int32)), .val (.ref b21), .val (.ref b26), .val (.int (q5.toInt32)), .val (.int (((q5.toUInt64 >>> ((32 : Int32) &&& 0x3f).toInt64.toUInt64).toInt64).toInt32)), .val (.int (p1 ^^^ p4)), .val (.int (p2 ^^^ (-1 : Int32))), .val (.ref b31), .val (.ref b36), .val (.ref b41), .unset, .unset, .unset] [(.int (2 : Int32)), (.ref b41), (.int (2 : Int32)), (.ref b131), (.ref b131)])) rfl rfl (hb hby at_225)) ?_
      obtain ⟨T134, hp134, X134, e134, W134, Va134, st134⟩ := own_stR X133 hx hZ e133 Va133 rfl rfl (by decide) 2 (by decide) (Nat.le_of_ble_eq_true rfl) (fun _ _ _ => Or.inl rfl) (g := (mkF m 226 #[.val (.int p1), .val (.int p2), .val (.int p3), .val (.int p4), .val (.long q5), .second, .val (.int p6), .val (.int fg), .val (.int fh), .val (.int (3 : Int32)), .val (.int (2 : Int32)), .val (.ref b21), .val (.ref b26), .val (.int (q5.toInt32)), .val (.int (((q5.toUInt64 >>> ((32 : Int32) &&& 0x3f).toInt64.toUInt64).toInt64).toInt32)), .val (.int (p1 ^^^ p4)), .val (.int (p2 ^^^ (-1 : Int32))), .val (.ref b31), .val (.ref b36), .val (.ref b41), .unset, .unset, .unset] [.null, (.int (2 : Int32)), (.ref b131), (.ref b131)])) rfl rfl (hb hby at_226)
      have O134 := own_extw O133 W134 s_b131
      have V_b21_134 := V_b21_133.other W134 (Nat.ne_of_lt lt_b21_b131)
      have V_b26_134 := V_b26_133.other W134 (Nat.ne_of_lt lt_b26_b131)
      have V_b31_134 := V_b31_133.other W134 (Nat.ne_of_lt lt_b31_b131)
      have V_b36_134 := V_b36_133.other W134 (Nat.ne_of_lt lt_b36_b131)
      have V_b41_134 := V_b41_133.other W134 (Nat.ne_of_lt lt_b41_b131)
      have V_b42_134 := V_b42_133.other W134 (Nat.ne_of_lt lt_b42_b131)
      have V_b44_134 := V_b44_133.other W134 (Nat.ne_of_lt lt_b44_b131)
      have V_b46_134 := V_b46_133.other W134 (Nat.ne_of_lt lt_b46_b131)
      have V_b48_134 := V_b48_133.other W134 (Nat.ne_of_lt lt_b48_b131)
      have Ex_b21_134 := Ex_b21_133.wr W134
      have Ex_b26_134 := Ex_b26_133.wr W134
      have Ex_b31_134 := Ex_b31_133.wr W134
      have Ex_b36_134 := Ex_b36_133.wr W134
      have Ex_b42_134 := Ex_b42_133.wr W134
      have Ex_b44_134 := Ex_b44_133.wr W134
      have Ex_b46_134 := Ex_b46_133.wr W134
      have Ex_b48_134 := Ex_b48_133.wr W134
      have Va134 : Arv Z hp134 b131 kk131 (.object "java/lang/Object") (4 : Int32) [(.ref b42), (.ref b44), .null, .null] .null := Va134
      have N134 := Fr.snoc X134 N133 g_b131
      refine own_st st134 ?_
      show own_Go _ _ _ _ T134 (mkF m 227 #[.val (.int p1), .val (.int p2), .val (.int p3), .val (.int p4), .val (.long q5), .second, .val (.int p6), .val (.int fg), .val (.int fh), .val (.int (3 : Int32)), .val (.int (2 : Int32)), .val (.ref b21), .val (.ref b26), .val (.int (q5.toInt32)), .val (.int (((q5.toUInt64 >>> ((32 : Int32) &&& 0x3f).toInt64.toUInt64).toInt64).toInt32)), .val (.int (p1 ^^^ p4)), .val (.int (p2 ^^^ (-1 : Int32))), .val (.ref b31), .val (.ref b36), .val (.ref b41), .unset, .unset, .unset] [(.ref b131)])
      refine own_st (fun _ k => XS.dup X134.here hx rfl (hb hby at_227) rfl rfl k) ?_
      refine own_st (fun _ k => XS.iconst X134.here hx rfl (hb hby at_228) k) ?_
      refine own_st (fun _ k => XS.aload X134.here hx rfl (hb hby at_229) rfl rfl k) ?_
      refine own_st (fun _ k => XS.iconst X134.here hx rfl (hb hby at_231) k) ?_
      refine own_st (own_ldR X134 hx hZ e134 V_b41_134 rfl (j := (3 : Int32)) (by decide) (v := (.ref b48)) rfl (g := (mkF m 232 #[.val (.int p1), .val (.int p2), .val (.int p3), .val (.int p4), .val (.long q5), .second, .val (.int p6), .val (.int fg), .val (.int fh), .val (.int (3 : Int32)), .val (.int (2 : Int32)), .val (.ref b21), .val (.ref b26), .val (.int (q5.toInt32)), .val (.int (((q5.toUInt64 >>> ((32 : Int32) &&& 0x3f).toInt64.toUInt64).toInt64).toInt32)), .val (.int (p1 ^^^ p4)), .val (.int (p2 ^^^ (-1 : Int32))), .val (.ref b31), .val (.ref b36), .val (.ref b41), .unset, .unset, .unset] [(.int (3 : Int32)), (.ref b41), (.int (3 : Int32)), (.ref b131), (.ref b131)])) rfl rfl (hb hby at_232)) ?_
      obtain ⟨T135, hp135, X135, e135, W135, Va135, st135⟩ := own_stR X134 hx hZ e134 Va134 rfl rfl (by decide) 3 (by decide) (Nat.le_of_ble_eq_true rfl) (fun cl Ar q => Sto.ofV Ar q Ov131 (Ins.of_exa Ex_b48_134 (own_w3 hw))) (g := (mkF m 233 #[.val (.int p1), .val (.int p2), .val (.int p3), .val (.int p4), .val (.long q5), .second, .val (.int p6), .val (.int fg), .val (.int fh), .val (.int (3 : Int32)), .val (.int (2 : Int32)), .val (.ref b21), .val (.ref b26), .val (.int (q5.toInt32)), .val (.int (((q5.toUInt64 >>> ((32 : Int32) &&& 0x3f).toInt64.toUInt64).toInt64).toInt32)), .val (.int (p1 ^^^ p4)), .val (.int (p2 ^^^ (-1 : Int32))), .val (.ref b31), .val (.ref b36), .val (.ref b41), .unset, .unset, .unset] [(.ref b48), (.int (3 : Int32)), (.ref b131), (.ref b131)])) rfl rfl (hb hby at_233)
      have O135 := own_extw O134 W135 s_b131
      have V_b21_135 := V_b21_134.other W135 (Nat.ne_of_lt lt_b21_b131)
      have V_b26_135 := V_b26_134.other W135 (Nat.ne_of_lt lt_b26_b131)
      have V_b31_135 := V_b31_134.other W135 (Nat.ne_of_lt lt_b31_b131)
      have V_b36_135 := V_b36_134.other W135 (Nat.ne_of_lt lt_b36_b131)
      have V_b41_135 := V_b41_134.other W135 (Nat.ne_of_lt lt_b41_b131)
      have V_b42_135 := V_b42_134.other W135 (Nat.ne_of_lt lt_b42_b131)
      have V_b44_135 := V_b44_134.other W135 (Nat.ne_of_lt lt_b44_b131)
      have V_b46_135 := V_b46_134.other W135 (Nat.ne_of_lt lt_b46_b131)
      have V_b48_135 := V_b48_134.other W135 (Nat.ne_of_lt lt_b48_b131)
      have Ex_b21_135 := Ex_b21_134.wr W135
      have Ex_b26_135 := Ex_b26_134.wr W135
      have Ex_b31_135 := Ex_b31_134.wr W135
      have Ex_b36_135 := Ex_b36_134.wr W135
      have Ex_b42_135 := Ex_b42_134.wr W135
      have Ex_b44_135 := Ex_b44_134.wr W135
      have Ex_b46_135 := Ex_b46_134.wr W135
      have Ex_b48_135 := Ex_b48_134.wr W135
      have Va135 : Arv Z hp135 b131 kk131 (.object "java/lang/Object") (4 : Int32) [(.ref b42), (.ref b44), .null, (.ref b48)] .null := Va135
      have N135 := Fr.snoc X135 N134 g_b131
      refine own_st st135 ?_
      show own_Go _ _ _ _ T135 (mkF m 234 #[.val (.int p1), .val (.int p2), .val (.int p3), .val (.int p4), .val (.long q5), .second, .val (.int p6), .val (.int fg), .val (.int fh), .val (.int (3 : Int32)), .val (.int (2 : Int32)), .val (.ref b21), .val (.ref b26), .val (.int (q5.toInt32)), .val (.int (((q5.toUInt64 >>> ((32 : Int32) &&& 0x3f).toInt64.toUInt64).toInt64).toInt32)), .val (.int (p1 ^^^ p4)), .val (.int (p2 ^^^ (-1 : Int32))), .val (.ref b31), .val (.ref b36), .val (.ref b41), .unset, .unset, .unset] [(.ref b131)])
      refine own_st (fun _ k => XS.astore X135.here hx rfl (hb hby at_234) rfl rfl (l' := #[.val (.int p1), .val (.int p2), .val (.int p3), .val (.int p4), .val (.long q5), .second, .val (.int p6), .val (.int fg), .val (.int fh), .val (.int (3 : Int32)), .val (.int (2 : Int32)), .val (.ref b21), .val (.ref b26), .val (.int (q5.toInt32)), .val (.int (((q5.toUInt64 >>> ((32 : Int32) &&& 0x3f).toInt64.toUInt64).toInt64).toInt32)), .val (.int (p1 ^^^ p4)), .val (.int (p2 ^^^ (-1 : Int32))), .val (.ref b31), .val (.ref b36), .val (.ref b41), .val (.ref b131), .unset, .unset]) rfl k) ?_
      obtain ⟨T136, hp136, X136, e136, Et136, A136, D136, -, st136⟩ := newO X135 hx hZ hown (own_w4 hw) (own_w5 hw) (own_w6 hw) e135 (g := (mkF m 236 #[.val (.int p1), .val (.int p2), .val (.int p3), .val (.int p4), .val (.long q5), .second, .val (.int p6), .val (.int fg), .val (.int fh), .val (.int (3 : Int32)), .val (.int (2 : Int32)), .val (.ref b21), .val (.ref b26), .val (.int (q5.toInt32)), .val (.int (((q5.toUInt64 >>> ((32 : Int32) &&& 0x3f).toInt64.toUInt64).toInt64).toInt32)), .val (.int (p1 ^^^ p4)), .val (.int (p2 ^^^ (-1 : Int32))), .val (.ref b31), .val (.ref b36), .val (.ref b41), .val (.ref b131), .unset, .unset] [])) rfl (hb hby at_236) (by decide) (by decide)
      obtain ⟨b136, g136⟩ : ∃ z, z = hp135.size := ⟨_, rfl⟩
      rw [← g136] at A136 D136 st136
      have s_b136 : h0.size ≤ b136 := Nat.le_trans O135.1 (Nat.le_of_eq g136.symm)
      have g_b136 : n0 ≤ b136 := Nat.le_trans Z0 s_b136
      have lt_b21_b136 : b21 < b136 := Nat.lt_of_lt_of_le V_b21_135.lt (Nat.le_of_eq g136.symm)
      have lt_b26_b136 : b26 < b136 := Nat.lt_of_lt_of_le V_b26_135.lt (Nat.le_of_eq g136.symm)
      have lt_b31_b136 : b31 < b136 := Nat.lt_of_lt_of_le V_b31_135.lt (Nat.le_of_eq g136.symm)
      have lt_b36_b136 : b36 < b136 := Nat.lt_of_lt_of_le V_b36_135.lt (Nat.le_of_eq g136.symm)
      have lt_b41_b136 : b41 < b136 := Nat.lt_of_lt_of_le V_b41_135.lt (Nat.le_of_eq g136.symm)
      have lt_b42_b136 : b42 < b136 := Nat.lt_of_lt_of_le V_b42_135.lt (Nat.le_of_eq g136.symm)
      have lt_b44_b136 : b44 < b136 := Nat.lt_of_lt_of_le V_b44_135.lt (Nat.le_of_eq g136.symm)
      have lt_b46_b136 : b46 < b136 := Nat.lt_of_lt_of_le V_b46_135.lt (Nat.le_of_eq g136.symm)
      have lt_b48_b136 : b48 < b136 := Nat.lt_of_lt_of_le V_b48_135.lt (Nat.le_of_eq g136.symm)
      have lt_b131_b136 : b131 < b136 := Nat.lt_of_lt_of_le Va135.lt (Nat.le_of_eq g136.symm)
      have O136 := own_extt O135 Et136
      have V_b21_136 := V_b21_135.ext Et136
      have V_b26_136 := V_b26_135.ext Et136
      have V_b31_136 := V_b31_135.ext Et136
      have V_b36_136 := V_b36_135.ext Et136
      have V_b41_136 := V_b41_135.ext Et136
      have V_b42_136 := V_b42_135.ext Et136
      have V_b44_136 := V_b44_135.ext Et136
      have V_b46_136 := V_b46_135.ext Et136
      have V_b48_136 := V_b48_135.ext Et136
      have V_b131_136 := Va135.ext Et136
      have Ex_b21_136 := Ex_b21_135.ext Et136
      have Ex_b26_136 := Ex_b26_135.ext Et136
      have Ex_b31_136 := Ex_b31_135.ext Et136
      have Ex_b36_136 := Ex_b36_135.ext Et136
      have Ex_b42_136 := Ex_b42_135.ext Et136
      have Ex_b44_136 := Ex_b44_135.ext Et136
      have Ex_b46_136 := Ex_b46_135.ext Et136
      have Ex_b48_136 := Ex_b48_135.ext Et136
      have F_keys_b136 : Fld Z hp136 b136 "com/example/sheaf/sheaf/CompactHash" "keys" "[Ljava/lang/Object;" .null := D136 (Or.inl (own_w21 hw)) (ty := (.array (.object "java/lang/Object"))) (by decide)
      have F_index_b136 : Fld Z hp136 b136 "com/example/sheaf/sheaf/CompactHash" "index" "[I" .null := D136 (Or.inl (own_w25 hw)) (ty := (.array .int)) (by decide)
      have F_counts_b136 : Fld Z hp136 b136 "com/example/sheaf/sheaf/CountedKeys" "counts" "[I" .null := D136 (Or.inl (own_w29 hw)) (ty := (.array .int)) (by decide)
      have F_heads_b136 : Fld Z hp136 b136 "com/example/sheaf/sheaf/CountedKeys" "heads" "[I" .null := D136 (Or.inl (own_w32 hw)) (ty := (.array .int)) (by decide)
      have F_groups_b136 : Fld Z hp136 b136 "com/example/sheaf/sheaf/CountedKeys" "groups" "[Ljava/lang/Object;" .null := D136 (Or.inl (own_w39 hw)) (ty := (.array (.object "java/lang/Object"))) (by decide)
      refine own_st st136 ?_
      refine own_st (fun _ k => XS.dup X136.here hx rfl (hb hby at_239) rfl rfl k) ?_
      obtain ⟨v137, T137, L137, hQ137, X137, st137⟩ := own_callI X136 hx hZ (y := (⟨"com/example/sheaf/sheaf/CountedKeys", "<init>", "()V"⟩ : MethodName)) rfl hown (own_w7 hw) (own_w8 hw) (own_w6 hw) (own_w9 hw) (by decide) (own_ck l hw [] b136 wo wi hp136 n0 (Nat.le_trans Z0 O136.1) (So.ext O136) (Si.ext O136) g_b136 A136 F_keys_b136 F_index_b136 F_counts_b136 F_groups_b136 F_heads_b136) e136 (g := (mkF m 240 #[.val (.int p1), .val (.int p2), .val (.int p3), .val (.int p4), .val (.long q5), .second, .val (.int p6), .val (.int fg), .val (.int fh), .val (.int (3 : Int32)), .val (.int (2 : Int32)), .val (.ref b21), .val (.ref b26), .val (.int (q5.toInt32)), .val (.int (((q5.toUInt64 >>> ((32 : Int32) &&& 0x3f).toInt64.toUInt64).toInt64).toInt32)), .val (.int (p1 ^^^ p4)), .val (.int (p2 ^^^ (-1 : Int32))), .val (.ref b31), .val (.ref b36), .val (.ref b41), .val (.ref b131), .unset, .unset] [(.ref b136), (.ref b136)])) rfl (by rw [hml]; rfl) (argsL := []) (rest := [(.ref b136)]) (lenOf own_pd0 rfl) rfl rfl (W := 1) (Nat.le_of_eq rfl) (hb hby at_240) (by decide) (by decide) (by decide) (by decide)
      obtain ⟨rfl, N137, K137, Fc137, Fg137, Fh137⟩ := hQ137
      have O137 := own_extk O136 K137 s_b136
      have V_b21_137 := V_b21_136.keep K137 (ninS (Nat.ne_of_lt lt_b21_b136) nin0)
      have V_b26_137 := V_b26_136.keep K137 (ninS (Nat.ne_of_lt lt_b26_b136) nin0)
      have V_b31_137 := V_b31_136.keep K137 (ninS (Nat.ne_of_lt lt_b31_b136) nin0)
      have V_b36_137 := V_b36_136.keep K137 (ninS (Nat.ne_of_lt lt_b36_b136) nin0)
      have V_b41_137 := V_b41_136.keep K137 (ninS (Nat.ne_of_lt lt_b41_b136) nin0)
      have V_b42_137 := V_b42_136.keep K137 (ninS (Nat.ne_of_lt lt_b42_b136) nin0)
      have V_b44_137 := V_b44_136.keep K137 (ninS (Nat.ne_of_lt lt_b44_b136) nin0)
      have V_b46_137 := V_b46_136.keep K137 (ninS (Nat.ne_of_lt lt_b46_b136) nin0)
      have V_b48_137 := V_b48_136.keep K137 (ninS (Nat.ne_of_lt lt_b48_b136) nin0)
      have V_b131_137 := V_b131_136.keep K137 (ninS (Nat.ne_of_lt lt_b131_b136) nin0)
      have Ex_b21_137 := Ex_b21_136.keep K137
      have Ex_b26_137 := Ex_b26_136.keep K137
      have Ex_b31_137 := Ex_b31_136.keep K137
      have Ex_b36_137 := Ex_b36_136.keep K137
      have Ex_b42_137 := Ex_b42_136.keep K137
      have Ex_b44_137 := Ex_b44_136.keep K137
      have Ex_b46_137 := Ex_b46_136.keep K137
      have Ex_b48_137 := Ex_b48_136.keep K137
      have Ex_b136_137 := A136.keep K137
      have N137' := Fr.app N135 N137
      refine own_st st137 ?_
      refine own_st (fun _ k => XS.astore X137.here hx rfl (hb hby at_243) rfl rfl (l' := #[.val (.int p1), .val (.int p2), .val (.int p3), .val (.int p4), .val (.long q5), .second, .val (.int p6), .val (.int fg), .val (.int fh), .val (.int (3 : Int32)), .val (.int (2 : Int32)), .val (.ref b21), .val (.ref b26), .val (.int (q5.toInt32)), .val (.int (((q5.toUInt64 >>> ((32 : Int32) &&& 0x3f).toInt64.toUInt64).toInt64).toInt32)), .val (.int (p1 ^^^ p4)), .val (.int (p2 ^^^ (-1 : Int32))), .val (.ref b31), .val (.ref b36), .val (.ref b41), .val (.ref b131), .val (.ref b136), .unset]) rfl k) ?_
      refine own_st (fun _ k => XS.aload X137.here hx rfl (hb hby at_245) rfl rfl k) ?_
      show own_Go _ _ _ _ T137 (mkF m 247 #[.val (.int p1), .val (.int p2), .val (.int p3), .val (.int p4), .val (.long q5), .second, .val (.int p6), .val (.int fg), .val (.int fh), .val (.int (3 : Int32)), .val (.int (2 : Int32)), .val (.ref b21), .val (.ref b26), .val (.int (q5.toInt32)), .val (.int (((q5.toUInt64 >>> ((32 : Int32) &&& 0x3f).toInt64.toUInt64).toInt64).toInt32)), .val (.int (p1 ^^^ p4)), .val (.int (p2 ^^^ (-1 : Int32))), .val (.ref b31), .val (.ref b36), .val (.ref b41), .val (.ref b131), .val (.ref b136), .unset] [(.ref b136)])
      refine own_st (fun _ k => XS.aload X137.here hx rfl (hb hby at_247) rfl rfl k) ?_
      obtain ⟨T138, hp138, X138, e138, W138, st138⟩ := putF X137 hx hZ hown (host := "") (Or.inl (own_w30 hw)) Via.refl rfl Fc137 Ex_b136_137 (Or.inl (own_w29 hw)) (own_w5 hw) (ty := (.array .int)) (by decide) rfl rfl (g := (mkF m 249 #[.val (.int p1), .val (.int p2), .val (.int p3), .val (.int p4), .val (.long q5), .second, .val (.int p6), .val (.int fg), .val (.int fh), .val (.int (3 : Int32)), .val (.int (2 : Int32)), .val (.ref b21), .val (.ref b26), .val (.int (q5.toInt32)), .val (.int (((q5.toUInt64 >>> ((32 : Int32) &&& 0x3f).toInt64.toUInt64).toInt64).toInt32)), .val (.int (p1 ^^^ p4)), .val (.int (p2 ^^^ (-1 : Int32))), .val (.ref b31), .val (.ref b36), .val (.ref b41), .val (.ref b131), .val (.ref b136), .unset] [(.ref b26), (.ref b136)])) rfl rfl (hb hby at_249)
      have O138 := own_extw O137 W138 s_b136
      have V_b21_138 := V_b21_137.other W138 (Nat.ne_of_lt lt_b21_b136)
      have V_b26_138 := V_b26_137.other W138 (Nat.ne_of_lt lt_b26_b136)
      have V_b31_138 := V_b31_137.other W138 (Nat.ne_of_lt lt_b31_b136)
      have V_b36_138 := V_b36_137.other W138 (Nat.ne_of_lt lt_b36_b136)
      have V_b41_138 := V_b41_137.other W138 (Nat.ne_of_lt lt_b41_b136)
      have V_b42_138 := V_b42_137.other W138 (Nat.ne_of_lt lt_b42_b136)
      have V_b44_138 := V_b44_137.other W138 (Nat.ne_of_lt lt_b44_b136)
      have V_b46_138 := V_b46_137.other W138 (Nat.ne_of_lt lt_b46_b136)
      have V_b48_138 := V_b48_137.other W138 (Nat.ne_of_lt lt_b48_b136)
      have V_b131_138 := V_b131_137.other W138 (Nat.ne_of_lt lt_b131_b136)
      have Ex_b21_138 := Ex_b21_137.wr W138
      have Ex_b26_138 := Ex_b26_137.wr W138
      have Ex_b31_138 := Ex_b31_137.wr W138
      have Ex_b36_138 := Ex_b36_137.wr W138
      have Ex_b42_138 := Ex_b42_137.wr W138
      have Ex_b44_138 := Ex_b44_137.wr W138
      have Ex_b46_138 := Ex_b46_137.wr W138
      have Ex_b48_138 := Ex_b48_137.wr W138
      have Ex_b136_138 := Ex_b136_137.wr W138
      have F_groups_b136_138 := Fg137.other W138 (Or.inr (slot_ne (Or.inl (own_w39 hw)) (Or.inl (own_w29 hw)) (by decide) (t := (.array (.object "java/lang/Object"))) (t' := (.array .int)) (by decide) (by decide)))
      have F_heads_b136_138 := Fh137.other W138 (Or.inr (slot_ne (Or.inl (own_w32 hw)) (Or.inl (own_w29 hw)) (by decide) (t := (.array .int)) (t' := (.array .int)) (by decide) (by decide)))
      have F_counts_b136_138 := Fc137.same W138
      have N138 := Fr.snoc X138 N137' g_b136
      refine own_st st138 ?_
      refine own_st (fun _ k => XS.iload X138.here hx rfl (hb hby at_252) rfl k) ?_
      rcases hfg with rfl | rfl
      · show own_Go _ _ _ _ T138 (mkF m 254 #[.val (.int p1), .val (.int p2), .val (.int p3), .val (.int p4), .val (.long q5), .second, .val (.int p6), .val (.int (0 : Int32)), .val (.int fh), .val (.int (3 : Int32)), .val (.int (2 : Int32)), .val (.ref b21), .val (.ref b26), .val (.int (q5.toInt32)), .val (.int (((q5.toUInt64 >>> ((32 : Int32) &&& 0x3f).toInt64.toUInt64).toInt64).toInt32)), .val (.int (p1 ^^^ p4)), .val (.int (p2 ^^^ (-1 : Int32))), .val (.ref b31), .val (.ref b36), .val (.ref b41), .val (.ref b131), .val (.ref b136), .unset] [(.int (0 : Int32))])
        refine own_st (fun _ k => XS.ifYes X138.here hx rfl (pc0 := 254) (pc' := 264) rfl (hb hby at_254) rfl ((if0 _ _).trans (teq (by decide : (0 : Int32) = (0 : Int32))).1) (by decide) (by decide) k) ?_
        refine own_st (fun _ k => XS.iload X138.here hx rfl (hb hby at_264) rfl k) ?_
        rcases hfh with rfl | rfl
        · show own_Go _ _ _ _ T138 (mkF m 266 #[.val (.int p1), .val (.int p2), .val (.int p3), .val (.int p4), .val (.long q5), .second, .val (.int p6), .val (.int (0 : Int32)), .val (.int (0 : Int32)), .val (.int (3 : Int32)), .val (.int (2 : Int32)), .val (.ref b21), .val (.ref b26), .val (.int (q5.toInt32)), .val (.int (((q5.toUInt64 >>> ((32 : Int32) &&& 0x3f).toInt64.toUInt64).toInt64).toInt32)), .val (.int (p1 ^^^ p4)), .val (.int (p2 ^^^ (-1 : Int32))), .val (.ref b31), .val (.ref b36), .val (.ref b41), .val (.ref b131), .val (.ref b136), .unset] [(.int (0 : Int32))])
          refine own_st (fun _ k => XS.ifYes X138.here hx rfl (pc0 := 266) (pc' := 276) rfl (hb hby at_266) rfl ((if0 _ _).trans (teq (by decide : (0 : Int32) = (0 : Int32))).1) (by decide) (by decide) k) ?_
          refine own_st (fun _ k => XS.aload X138.here hx rfl (hb hby at_276) rfl rfl k) ?_
          refine own_st (fun _ k => XS.iload X138.here hx rfl (hb hby at_278) rfl k) ?_
          refine own_st (fun _ k => XS.iload X138.here hx rfl (hb hby at_280) rfl k) ?_
          obtain ⟨v139, T139, L139, hQ139, X139, st139⟩ := own_callV X138 hx hZ (y := (⟨"com/example/sheaf/sheaf/CountedKeys", "move", "(II)V"⟩ : MethodName)) hown (own_w33 hw) (own_w34 hw) (own_w36 hw) (own_w35 hw) (own_w6 hw) (own_w37 hw) (by decide) (own_mv00 l hw [] b136 b26 b131 b36 (3 : Int32) (2 : Int32) p4 (p2 ^^^ (-1 : Int32)) (.ref b48) kk26 kk131 kk36 [(.int p1), (.int p2), (.int p3), (.int p4)] [(.ref b42), (.ref b44), .null, (.ref b48)] [(.int (q5.toInt32)), (.int (((q5.toUInt64 >>> ((32 : Int32) &&& 0x3f).toInt64.toUInt64).toInt64).toInt32)), (.int (p1 ^^^ p4)), (.int (p2 ^^^ (-1 : Int32)))] hp138 n0 (Nat.le_trans Z0 O138.1) (by decide) (by decide) (Nat.le_of_ble_eq_true rfl) g_b26 V_b26_138 rfl (Nat.ne_of_gt lt_b26_b136) F_counts_b136_138 F_groups_b136_138 F_heads_b136_138) e138 Ex_b136_138 (g := (mkF m 282 #[.val (.int p1), .val (.int p2), .val (.int p3), .val (.int p4), .val (.long q5), .second, .val (.int p6), .val (.int (0 : Int32)), .val (.int (0 : Int32)), .val (.int (3 : Int32)), .val (.int (2 : Int32)), .val (.ref b21), .val (.ref b26), .val (.int (q5.toInt32)), .val (.int (((q5.toUInt64 >>> ((32 : Int32) &&& 0x3f).toInt64.toUInt64).toInt64).toInt32)), .val (.int (p1 ^^^ p4)), .val (.int (p2 ^^^ (-1 : Int32))), .val (.ref b31), .val (.ref b36), .val (.ref b41), .val (.ref b131), .val (.ref b136), .unset] [(.int (2 : Int32)), (.int (3 : Int32)), (.ref b136)])) rfl (by rw [hml]; rfl) (argsL := [(.int (3 : Int32)), (.int (2 : Int32))]) (rest := []) (lenOf own_pd5 rfl) rfl rfl (W := 0) (Nat.le_of_eq rfl) (hb hby at_282) (by decide) (by decide) (by decide) (by decide)
          obtain ⟨rfl, N139, K139, Vc139⟩ := hQ139
          have Vc139 : Arv Z T139.heap b26 kk26 .int 4 [(.int p1), (.int p2), (.int p4), (.int p4)] (.int (0 : Int32)) := Vc139
          have O139 : Ext h0 T139.heap := ⟨Nat.le_trans O138.1 K139.1, fun x c r => K139.2.1 x c (O138.2 x c r) (fun z => by
            have q := (Array.getElem?_eq_some_iff.mp r).1
            simp only [List.mem_cons, List.not_mem_nil, or_false] at z
            rcases z with rfl
            exact absurd q (Nat.not_lt.mpr s_b26))⟩
          have V_b21_139 := V_b21_138.keep K139 (ninS (Nat.ne_of_lt lt_b21_b26) nin0)
          have V_b31_139 := V_b31_138.keep K139 (ninS (Nat.ne_of_gt lt_b26_b31) nin0)
          have V_b36_139 := V_b36_138.keep K139 (ninS (Nat.ne_of_gt lt_b26_b36) nin0)
          have V_b41_139 := V_b41_138.keep K139 (ninS (Nat.ne_of_gt lt_b26_b41) nin0)
          have V_b42_139 := V_b42_138.keep K139 (ninS (Nat.ne_of_gt lt_b26_b42) nin0)
          have V_b44_139 := V_b44_138.keep K139 (ninS (Nat.ne_of_gt lt_b26_b44) nin0)
          have V_b46_139 := V_b46_138.keep K139 (ninS (Nat.ne_of_gt lt_b26_b46) nin0)
          have V_b48_139 := V_b48_138.keep K139 (ninS (Nat.ne_of_gt lt_b26_b48) nin0)
          have V_b131_139 := V_b131_138.keep K139 (ninS (Nat.ne_of_gt lt_b26_b131) nin0)
          have Ex_b21_139 := Ex_b21_138.keep K139
          have Ex_b26_139 := Ex_b26_138.keep K139
          have Ex_b31_139 := Ex_b31_138.keep K139
          have Ex_b36_139 := Ex_b36_138.keep K139
          have Ex_b42_139 := Ex_b42_138.keep K139
          have Ex_b44_139 := Ex_b44_138.keep K139
          have Ex_b46_139 := Ex_b46_138.keep K139
          have Ex_b48_139 := Ex_b48_138.keep K139
          have Ex_b136_139 := Ex_b136_138.keep K139
          have F_counts_b136_139 := F_counts_b136_138.keep K139 (ninS (Nat.ne_of_gt lt_b26_b136) nin0)
          have F_groups_b136_139 := F_groups_b136_138.keep K139 (ninS (Nat.ne_of_gt lt_b26_b136) nin0)
          have F_heads_b136_139 := F_heads_b136_138.keep K139 (ninS (Nat.ne_of_gt lt_b26_b136) nin0)
          have N139' := Fr.app N138 N139
          refine own_st st139 ?_
          show own_Go _ _ _ _ T139 (mkF m 285 #[.val (.int p1), .val (.int p2), .val (.int p3), .val (.int p4), .val (.long q5), .second, .val (.int p6), .val (.int (0 : Int32)), .val (.int (0 : Int32)), .val (.int (3 : Int32)), .val (.int (2 : Int32)), .val (.ref b21), .val (.ref b26), .val (.int (q5.toInt32)), .val (.int (((q5.toUInt64 >>> ((32 : Int32) &&& 0x3f).toInt64.toUInt64).toInt64).toInt32)), .val (.int (p1 ^^^ p4)), .val (.int (p2 ^^^ (-1 : Int32))), .val (.ref b31), .val (.ref b36), .val (.ref b41), .val (.ref b131), .val (.ref b136), .unset] [])
          exact tl00 _ _ _ X139 N139' rfl O139 _ _ _ _ _ _ _ _ _ _ _ _ _ F_counts_b136_139 F_groups_b136_139 F_heads_b136_139 (own_im32 l hw [] b26 b21 (3 : Int32) (2 : Int32) kk26 kk21 p1 p2 p3 p4 T139.heap n0 (Nat.le_trans Z0 O139.1) rfl rfl Vc139 V_b21_139)
        · show own_Go _ _ _ _ T138 (mkF m 266 #[.val (.int p1), .val (.int p2), .val (.int p3), .val (.int p4), .val (.long q5), .second, .val (.int p6), .val (.int (0 : Int32)), .val (.int (1 : Int32)), .val (.int (3 : Int32)), .val (.int (2 : Int32)), .val (.ref b21), .val (.ref b26), .val (.int (q5.toInt32)), .val (.int (((q5.toUInt64 >>> ((32 : Int32) &&& 0x3f).toInt64.toUInt64).toInt64).toInt32)), .val (.int (p1 ^^^ p4)), .val (.int (p2 ^^^ (-1 : Int32))), .val (.ref b31), .val (.ref b36), .val (.ref b41), .val (.ref b131), .val (.ref b136), .unset] [(.int (1 : Int32))])
          refine own_st (fun _ k => XS.ifNo X138.here hx rfl (hb hby at_266) rfl ((if0 _ _).trans (feq (by decide : ¬ ((1 : Int32) = (0 : Int32)))).1) k) ?_
          refine own_st (fun _ k => XS.aload X138.here hx rfl (hb hby at_269) rfl rfl k) ?_
          refine own_st (fun _ k => XS.aload X138.here hx rfl (hb hby at_271) rfl rfl k) ?_
          obtain ⟨T140, hp140, X140, e140, W140, st140⟩ := putF X138 hx hZ hown (host := "") (Or.inl (own_w31 hw)) Via.refl e138 F_heads_b136_138 Ex_b136_138 (Or.inl (own_w32 hw)) (own_w5 hw) (ty := (.array .int)) (by decide) rfl rfl (g := (mkF m 273 #[.val (.int p1), .val (.int p2), .val (.int p3), .val (.int p4), .val (.long q5), .second, .val (.int p6), .val (.int (0 : Int32)), .val (.int (1 : Int32)), .val (.int (3 : Int32)), .val (.int (2 : Int32)), .val (.ref b21), .val (.ref b26), .val (.int (q5.toInt32)), .val (.int (((q5.toUInt64 >>> ((32 : Int32) &&& 0x3f).toInt64.toUInt64).toInt64).toInt32)), .val (.int (p1 ^^^ p4)), .val (.int (p2 ^^^ (-1 : Int32))), .val (.ref b31), .val (.ref b36), .val (.ref b41), .val (.ref b131), .val (.ref b136), .unset] [(.ref b36), (.ref b136)])) rfl rfl (hb hby at_273)
          have O140 := own_extw O138 W140 s_b136
          have V_b21_140 := V_b21_138.other W140 (Nat.ne_of_lt lt_b21_b136)
          have V_b26_140 := V_b26_138.other W140 (Nat.ne_of_lt lt_b26_b136)
          have V_b31_140 := V_b31_138.other W140 (Nat.ne_of_lt lt_b31_b136)
          have V_b36_140 := V_b36_138.other W140 (Nat.ne_of_lt lt_b36_b136)
          have V_b41_140 := V_b41_138.other W140 (Nat.ne_of_lt lt_b41_b136)
          have V_b42_140 := V_b42_138.other W140 (Nat.ne_of_lt lt_b42_b136)
          have V_b44_140 := V_b44_138.other W140 (Nat.ne_of_lt lt_b44_b136)
          have V_b46_140 := V_b46_138.other W140 (Nat.ne_of_lt lt_b46_b136)
          have V_b48_140 := V_b48_138.other W140 (Nat.ne_of_lt lt_b48_b136)
          have V_b131_140 := V_b131_138.other W140 (Nat.ne_of_lt lt_b131_b136)
          have Ex_b21_140 := Ex_b21_138.wr W140
          have Ex_b26_140 := Ex_b26_138.wr W140
          have Ex_b31_140 := Ex_b31_138.wr W140
          have Ex_b36_140 := Ex_b36_138.wr W140
          have Ex_b42_140 := Ex_b42_138.wr W140
          have Ex_b44_140 := Ex_b44_138.wr W140
          have Ex_b46_140 := Ex_b46_138.wr W140
          have Ex_b48_140 := Ex_b48_138.wr W140
          have Ex_b136_140 := Ex_b136_138.wr W140
          have F_counts_b136_140 := F_counts_b136_138.other W140 (Or.inr (slot_ne (Or.inl (own_w29 hw)) (Or.inl (own_w32 hw)) (by decide) (t := (.array .int)) (t' := (.array .int)) (by decide) (by decide)))
          have F_groups_b136_140 := F_groups_b136_138.other W140 (Or.inr (slot_ne (Or.inl (own_w39 hw)) (Or.inl (own_w32 hw)) (by decide) (t := (.array (.object "java/lang/Object"))) (t' := (.array .int)) (by decide) (by decide)))
          have F_heads_b136_140 := F_heads_b136_138.same W140
          have N140 := Fr.snoc X140 N138 g_b136
          refine own_st st140 ?_
          refine own_st (fun _ k => XS.aload X140.here hx rfl (hb hby at_276) rfl rfl k) ?_
          refine own_st (fun _ k => XS.iload X140.here hx rfl (hb hby at_278) rfl k) ?_
          show own_Go _ _ _ _ T140 (mkF m 280 #[.val (.int p1), .val (.int p2), .val (.int p3), .val (.int p4), .val (.long q5), .second, .val (.int p6), .val (.int (0 : Int32)), .val (.int (1 : Int32)), .val (.int (3 : Int32)), .val (.int (2 : Int32)), .val (.ref b21), .val (.ref b26), .val (.int (q5.toInt32)), .val (.int (((q5.toUInt64 >>> ((32 : Int32) &&& 0x3f).toInt64.toUInt64).toInt64).toInt32)), .val (.int (p1 ^^^ p4)), .val (.int (p2 ^^^ (-1 : Int32))), .val (.ref b31), .val (.ref b36), .val (.ref b41), .val (.ref b131), .val (.ref b136), .unset] [(.int (3 : Int32)), (.ref b136)])
          refine own_st (fun _ k => XS.iload X140.here hx rfl (hb hby at_280) rfl k) ?_
          obtain ⟨v141, T141, L141, hQ141, X141, st141⟩ := own_callV X140 hx hZ (y := (⟨"com/example/sheaf/sheaf/CountedKeys", "move", "(II)V"⟩ : MethodName)) hown (own_w33 hw) (own_w34 hw) (own_w36 hw) (own_w35 hw) (own_w6 hw) (own_w37 hw) (by decide) (own_mv01 l hw [] b136 b26 b131 b36 (3 : Int32) (2 : Int32) p4 (p2 ^^^ (-1 : Int32)) (.ref b48) kk26 kk131 kk36 [(.int p1), (.int p2), (.int p3), (.int p4)] [(.ref b42), (.ref b44), .null, (.ref b48)] [(.int (q5.toInt32)), (.int (((q5.toUInt64 >>> ((32 : Int32) &&& 0x3f).toInt64.toUInt64).toInt64).toInt32)), (.int (p1 ^^^ p4)), (.int (p2 ^^^ (-1 : Int32)))] hp140 n0 (Nat.le_trans Z0 O140.1) (by decide) (by decide) (Nat.le_of_ble_eq_true rfl) g_b26 V_b26_140 rfl (Nat.ne_of_gt lt_b26_b136) F_counts_b136_140 F_groups_b136_140 F_heads_b136_140 (Nat.le_of_ble_eq_true rfl) g_b36 V_b36_140 rfl (Nat.ne_of_gt lt_b36_b136) (Nat.ne_of_lt lt_b26_b36)) e140 Ex_b136_140 (g := (mkF m 282 #[.val (.int p1), .val (.int p2), .val (.int p3), .val (.int p4), .val (.long q5), .second, .val (.int p6), .val (.int (0 : Int32)), .val (.int (1 : Int32)), .val (.int (3 : Int32)), .val (.int (2 : Int32)), .val (.ref b21), .val (.ref b26), .val (.int (q5.toInt32)), .val (.int (((q5.toUInt64 >>> ((32 : Int32) &&& 0x3f).toInt64.toUInt64).toInt64).toInt32)), .val (.int (p1 ^^^ p4)), .val (.int (p2 ^^^ (-1 : Int32))), .val (.ref b31), .val (.ref b36), .val (.ref b41), .val (.ref b131), .val (.ref b136), .unset] [(.int (2 : Int32)), (.int (3 : Int32)), (.ref b136)])) rfl (by rw [hml]; rfl) (argsL := [(.int (3 : Int32)), (.int (2 : Int32))]) (rest := []) (lenOf own_pd5 rfl) rfl rfl (W := 0) (Nat.le_of_eq rfl) (hb hby at_282) (by decide) (by decide) (by decide) (by decide)
          obtain ⟨rfl, N141, K141, Vc141, Vh141⟩ := hQ141
          have Vc141 : Arv Z T141.heap b26 kk26 .int 4 [(.int p1), (.int p2), (.int p4), (.int p4)] (.int (0 : Int32)) := Vc141
          have Vh141 : Arv Z T141.heap b36 kk36 .int 4 [(.int (q5.toInt32)), (.int (((q5.toUInt64 >>> ((32 : Int32) &&& 0x3f).toInt64.toUInt64).toInt64).toInt32)), (.int (p2 ^^^ (-1 : Int32))), (.int (p2 ^^^ (-1 : Int32)))] (.int (0 : Int32)) := Vh141
          have O141 : Ext h0 T141.heap := ⟨Nat.le_trans O140.1 K141.1, fun x c r => K141.2.1 x c (O140.2 x c r) (fun z => by
            have q := (Array.getElem?_eq_some_iff.mp r).1
            simp only [List.mem_cons, List.not_mem_nil, or_false] at z
            rcases z with rfl | rfl
            · exact absurd q (Nat.not_lt.mpr s_b26)
            · exact absurd q (Nat.not_lt.mpr s_b36))⟩
          have V_b21_141 := V_b21_140.keep K141 (ninS (Nat.ne_of_lt lt_b21_b26) (ninS (Nat.ne_of_lt lt_b21_b36) nin0))
          have V_b31_141 := V_b31_140.keep K141 (ninS (Nat.ne_of_gt lt_b26_b31) (ninS (Nat.ne_of_lt lt_b31_b36) nin0))
          have V_b41_141 := V_b41_140.keep K141 (ninS (Nat.ne_of_gt lt_b26_b41) (ninS (Nat.ne_of_gt lt_b36_b41) nin0))
          have V_b42_141 := V_b42_140.keep K141 (ninS (Nat.ne_of_gt lt_b26_b42) (ninS (Nat.ne_of_gt lt_b36_b42) nin0))
          have V_b44_141 := V_b44_140.keep K141 (ninS (Nat.ne_of_gt lt_b26_b44) (ninS (Nat.ne_of_gt lt_b36_b44) nin0))
          have V_b46_141 := V_b46_140.keep K141 (ninS (Nat.ne_of_gt lt_b26_b46) (ninS (Nat.ne_of_gt lt_b36_b46) nin0))
          have V_b48_141 := V_b48_140.keep K141 (ninS (Nat.ne_of_gt lt_b26_b48) (ninS (Nat.ne_of_gt lt_b36_b48) nin0))
          have V_b131_141 := V_b131_140.keep K141 (ninS (Nat.ne_of_gt lt_b26_b131) (ninS (Nat.ne_of_gt lt_b36_b131) nin0))
          have Ex_b21_141 := Ex_b21_140.keep K141
          have Ex_b26_141 := Ex_b26_140.keep K141
          have Ex_b31_141 := Ex_b31_140.keep K141
          have Ex_b36_141 := Ex_b36_140.keep K141
          have Ex_b42_141 := Ex_b42_140.keep K141
          have Ex_b44_141 := Ex_b44_140.keep K141
          have Ex_b46_141 := Ex_b46_140.keep K141
          have Ex_b48_141 := Ex_b48_140.keep K141
          have Ex_b136_141 := Ex_b136_140.keep K141
          have F_counts_b136_141 := F_counts_b136_140.keep K141 (ninS (Nat.ne_of_gt lt_b26_b136) (ninS (Nat.ne_of_gt lt_b36_b136) nin0))
          have F_groups_b136_141 := F_groups_b136_140.keep K141 (ninS (Nat.ne_of_gt lt_b26_b136) (ninS (Nat.ne_of_gt lt_b36_b136) nin0))
          have F_heads_b136_141 := F_heads_b136_140.keep K141 (ninS (Nat.ne_of_gt lt_b26_b136) (ninS (Nat.ne_of_gt lt_b36_b136) nin0))
          have N141' := Fr.app N140 N141
          refine own_st st141 ?_
          show own_Go _ _ _ _ T141 (mkF m 285 #[.val (.int p1), .val (.int p2), .val (.int p3), .val (.int p4), .val (.long q5), .second, .val (.int p6), .val (.int (0 : Int32)), .val (.int (1 : Int32)), .val (.int (3 : Int32)), .val (.int (2 : Int32)), .val (.ref b21), .val (.ref b26), .val (.int (q5.toInt32)), .val (.int (((q5.toUInt64 >>> ((32 : Int32) &&& 0x3f).toInt64.toUInt64).toInt64).toInt32)), .val (.int (p1 ^^^ p4)), .val (.int (p2 ^^^ (-1 : Int32))), .val (.ref b31), .val (.ref b36), .val (.ref b41), .val (.ref b131), .val (.ref b136), .unset] [])
          exact tl01 _ _ _ X141 N141' rfl O141 _ _ _ _ _ _ _ _ _ _ _ _ _ F_counts_b136_141 F_groups_b136_141 F_heads_b136_141 (own_im32 l hw [] b26 b21 (3 : Int32) (2 : Int32) kk26 kk21 p1 p2 p3 p4 T141.heap n0 (Nat.le_trans Z0 O141.1) rfl rfl Vc141 V_b21_141) (own_im32 l hw [] b36 b31 (3 : Int32) (2 : Int32) kk36 kk31 (q5.toInt32) (((q5.toUInt64 >>> ((32 : Int32) &&& 0x3f).toInt64.toUInt64).toInt64).toInt32) (p1 ^^^ p4) (p2 ^^^ (-1 : Int32)) T141.heap n0 (Nat.le_trans Z0 O141.1) rfl rfl Vh141 V_b31_141)
      · show own_Go _ _ _ _ T138 (mkF m 254 #[.val (.int p1), .val (.int p2), .val (.int p3), .val (.int p4), .val (.long q5), .second, .val (.int p6), .val (.int (1 : Int32)), .val (.int fh), .val (.int (3 : Int32)), .val (.int (2 : Int32)), .val (.ref b21), .val (.ref b26), .val (.int (q5.toInt32)), .val (.int (((q5.toUInt64 >>> ((32 : Int32) &&& 0x3f).toInt64.toUInt64).toInt64).toInt32)), .val (.int (p1 ^^^ p4)), .val (.int (p2 ^^^ (-1 : Int32))), .val (.ref b31), .val (.ref b36), .val (.ref b41), .val (.ref b131), .val (.ref b136), .unset] [(.int (1 : Int32))])
        refine own_st (fun _ k => XS.ifNo X138.here hx rfl (hb hby at_254) rfl ((if0 _ _).trans (feq (by decide : ¬ ((1 : Int32) = (0 : Int32)))).1) k) ?_
        refine own_st (fun _ k => XS.aload X138.here hx rfl (hb hby at_257) rfl rfl k) ?_
        refine own_st (fun _ k => XS.aload X138.here hx rfl (hb hby at_259) rfl rfl k) ?_
        obtain ⟨T142, hp142, X142, e142, W142, st142⟩ := putF X138 hx hZ hown (host := "") (Or.inl (own_w48 hw)) Via.refl e138 F_groups_b136_138 Ex_b136_138 (Or.inl (own_w39 hw)) (own_w5 hw) (ty := (.array (.object "java/lang/Object"))) (by decide) rfl rfl (g := (mkF m 261 #[.val (.int p1), .val (.int p2), .val (.int p3), .val (.int p4), .val (.long q5), .second, .val (.int p6), .val (.int (1 : Int32)), .val (.int fh), .val (.int (3 : Int32)), .val (.int (2 : Int32)), .val (.ref b21), .val (.ref b26), .val (.int (q5.toInt32)), .val (.int (((q5.toUInt64 >>> ((32 : Int32) &&& 0x3f).toInt64.toUInt64).toInt64).toInt32)), .val (.int (p1 ^^^ p4)), .val (.int (p2 ^^^ (-1 : Int32))), .val (.ref b31), .val (.ref b36), .val (.ref b41), .val (.ref b131), .val (.ref b136), .unset] [(.ref b131), (.ref b136)])) rfl rfl (hb hby at_261)
        have O142 := own_extw O138 W142 s_b136
        have V_b21_142 := V_b21_138.other W142 (Nat.ne_of_lt lt_b21_b136)
        have V_b26_142 := V_b26_138.other W142 (Nat.ne_of_lt lt_b26_b136)
        have V_b31_142 := V_b31_138.other W142 (Nat.ne_of_lt lt_b31_b136)
        have V_b36_142 := V_b36_138.other W142 (Nat.ne_of_lt lt_b36_b136)
        have V_b41_142 := V_b41_138.other W142 (Nat.ne_of_lt lt_b41_b136)
        have V_b42_142 := V_b42_138.other W142 (Nat.ne_of_lt lt_b42_b136)
        have V_b44_142 := V_b44_138.other W142 (Nat.ne_of_lt lt_b44_b136)
        have V_b46_142 := V_b46_138.other W142 (Nat.ne_of_lt lt_b46_b136)
        have V_b48_142 := V_b48_138.other W142 (Nat.ne_of_lt lt_b48_b136)
        have V_b131_142 := V_b131_138.other W142 (Nat.ne_of_lt lt_b131_b136)
        have Ex_b21_142 := Ex_b21_138.wr W142
        have Ex_b26_142 := Ex_b26_138.wr W142
        have Ex_b31_142 := Ex_b31_138.wr W142
        have Ex_b36_142 := Ex_b36_138.wr W142
        have Ex_b42_142 := Ex_b42_138.wr W142
        have Ex_b44_142 := Ex_b44_138.wr W142
        have Ex_b46_142 := Ex_b46_138.wr W142
        have Ex_b48_142 := Ex_b48_138.wr W142
        have Ex_b136_142 := Ex_b136_138.wr W142
        have F_counts_b136_142 := F_counts_b136_138.other W142 (Or.inr (slot_ne (Or.inl (own_w29 hw)) (Or.inl (own_w39 hw)) (by decide) (t := (.array .int)) (t' := (.array (.object "java/lang/Object"))) (by decide) (by decide)))
        have F_heads_b136_142 := F_heads_b136_138.other W142 (Or.inr (slot_ne (Or.inl (own_w32 hw)) (Or.inl (own_w39 hw)) (by decide) (t := (.array .int)) (t' := (.array (.object "java/lang/Object"))) (by decide) (by decide)))
        have F_groups_b136_142 := F_groups_b136_138.same W142
        have N142 := Fr.snoc X142 N138 g_b136
        refine own_st st142 ?_
        refine own_st (fun _ k => XS.iload X142.here hx rfl (hb hby at_264) rfl k) ?_
        rcases hfh with rfl | rfl
        · show own_Go _ _ _ _ T142 (mkF m 266 #[.val (.int p1), .val (.int p2), .val (.int p3), .val (.int p4), .val (.long q5), .second, .val (.int p6), .val (.int (1 : Int32)), .val (.int (0 : Int32)), .val (.int (3 : Int32)), .val (.int (2 : Int32)), .val (.ref b21), .val (.ref b26), .val (.int (q5.toInt32)), .val (.int (((q5.toUInt64 >>> ((32 : Int32) &&& 0x3f).toInt64.toUInt64).toInt64).toInt32)), .val (.int (p1 ^^^ p4)), .val (.int (p2 ^^^ (-1 : Int32))), .val (.ref b31), .val (.ref b36), .val (.ref b41), .val (.ref b131), .val (.ref b136), .unset] [(.int (0 : Int32))])
          refine own_st (fun _ k => XS.ifYes X142.here hx rfl (pc0 := 266) (pc' := 276) rfl (hb hby at_266) rfl ((if0 _ _).trans (teq (by decide : (0 : Int32) = (0 : Int32))).1) (by decide) (by decide) k) ?_
          refine own_st (fun _ k => XS.aload X142.here hx rfl (hb hby at_276) rfl rfl k) ?_
          refine own_st (fun _ k => XS.iload X142.here hx rfl (hb hby at_278) rfl k) ?_
          refine own_st (fun _ k => XS.iload X142.here hx rfl (hb hby at_280) rfl k) ?_
          obtain ⟨v143, T143, L143, hQ143, X143, st143⟩ := own_callV X142 hx hZ (y := (⟨"com/example/sheaf/sheaf/CountedKeys", "move", "(II)V"⟩ : MethodName)) hown (own_w33 hw) (own_w34 hw) (own_w36 hw) (own_w35 hw) (own_w6 hw) (own_w37 hw) (by decide) (own_mv10 l hw [] b136 b26 b131 b36 (3 : Int32) (2 : Int32) p4 (p2 ^^^ (-1 : Int32)) (.ref b48) kk26 kk131 kk36 [(.int p1), (.int p2), (.int p3), (.int p4)] [(.ref b42), (.ref b44), .null, (.ref b48)] [(.int (q5.toInt32)), (.int (((q5.toUInt64 >>> ((32 : Int32) &&& 0x3f).toInt64.toUInt64).toInt64).toInt32)), (.int (p1 ^^^ p4)), (.int (p2 ^^^ (-1 : Int32)))] hp142 n0 (Nat.le_trans Z0 O142.1) (by decide) (by decide) (Nat.le_of_ble_eq_true rfl) g_b26 V_b26_142 rfl (Nat.ne_of_gt lt_b26_b136) F_counts_b136_142 F_groups_b136_142 F_heads_b136_142 (Nat.le_of_ble_eq_true rfl) (Nat.le_of_ble_eq_true rfl) g_b131 V_b131_142 rfl rfl (by obtain ⟨cl', A', q', _⟩ := V_b131_142; exact Sto.ofV A' q' Ov131 (Ins.of_exa Ex_b48_142 (own_w3 hw))) (Nat.ne_of_gt lt_b131_b136) (Nat.ne_of_lt lt_b26_b131)) e142 Ex_b136_142 (g := (mkF m 282 #[.val (.int p1), .val (.int p2), .val (.int p3), .val (.int p4), .val (.long q5), .second, .val (.int p6), .val (.int (1 : Int32)), .val (.int (0 : Int32)), .val (.int (3 : Int32)), .val (.int (2 : Int32)), .val (.ref b21), .val (.ref b26), .val (.int (q5.toInt32)), .val (.int (((q5.toUInt64 >>> ((32 : Int32) &&& 0x3f).toInt64.toUInt64).toInt64).toInt32)), .val (.int (p1 ^^^ p4)), .val (.int (p2 ^^^ (-1 : Int32))), .val (.ref b31), .val (.ref b36), .val (.ref b41), .val (.ref b131), .val (.ref b136), .unset] [(.int (2 : Int32)), (.int (3 : Int32)), (.ref b136)])) rfl (by rw [hml]; rfl) (argsL := [(.int (3 : Int32)), (.int (2 : Int32))]) (rest := []) (lenOf own_pd5 rfl) rfl rfl (W := 0) (Nat.le_of_eq rfl) (hb hby at_282) (by decide) (by decide) (by decide) (by decide)
          obtain ⟨rfl, N143, K143, Vc143, Vg143⟩ := hQ143
          have Vc143 : Arv Z T143.heap b26 kk26 .int 4 [(.int p1), (.int p2), (.int p4), (.int p4)] (.int (0 : Int32)) := Vc143
          have Vg143 : Arv Z T143.heap b131 kk131 (.object "java/lang/Object") 4 [(.ref b42), (.ref b44), (.ref b48), .null] .null := Vg143
          have O143 : Ext h0 T143.heap := ⟨Nat.le_trans O142.1 K143.1, fun x c r => K143.2.1 x c (O142.2 x c r) (fun z => by
            have q := (Array.getElem?_eq_some_iff.mp r).1
            simp only [List.mem_cons, List.not_mem_nil, or_false] at z
            rcases z with rfl | rfl
            · exact absurd q (Nat.not_lt.mpr s_b26)
            · exact absurd q (Nat.not_lt.mpr s_b131))⟩
          have V_b21_143 := V_b21_142.keep K143 (ninS (Nat.ne_of_lt lt_b21_b26) (ninS (Nat.ne_of_lt lt_b21_b131) nin0))
          have V_b31_143 := V_b31_142.keep K143 (ninS (Nat.ne_of_gt lt_b26_b31) (ninS (Nat.ne_of_lt lt_b31_b131) nin0))
          have V_b36_143 := V_b36_142.keep K143 (ninS (Nat.ne_of_gt lt_b26_b36) (ninS (Nat.ne_of_lt lt_b36_b131) nin0))
          have V_b41_143 := V_b41_142.keep K143 (ninS (Nat.ne_of_gt lt_b26_b41) (ninS (Nat.ne_of_lt lt_b41_b131) nin0))
          have V_b42_143 := V_b42_142.keep K143 (ninS (Nat.ne_of_gt lt_b26_b42) (ninS (Nat.ne_of_lt lt_b42_b131) nin0))
          have V_b44_143 := V_b44_142.keep K143 (ninS (Nat.ne_of_gt lt_b26_b44) (ninS (Nat.ne_of_lt lt_b44_b131) nin0))
          have V_b46_143 := V_b46_142.keep K143 (ninS (Nat.ne_of_gt lt_b26_b46) (ninS (Nat.ne_of_lt lt_b46_b131) nin0))
          have V_b48_143 := V_b48_142.keep K143 (ninS (Nat.ne_of_gt lt_b26_b48) (ninS (Nat.ne_of_lt lt_b48_b131) nin0))
          have Ex_b21_143 := Ex_b21_142.keep K143
          have Ex_b26_143 := Ex_b26_142.keep K143
          have Ex_b31_143 := Ex_b31_142.keep K143
          have Ex_b36_143 := Ex_b36_142.keep K143
          have Ex_b42_143 := Ex_b42_142.keep K143
          have Ex_b44_143 := Ex_b44_142.keep K143
          have Ex_b46_143 := Ex_b46_142.keep K143
          have Ex_b48_143 := Ex_b48_142.keep K143
          have Ex_b136_143 := Ex_b136_142.keep K143
          have F_counts_b136_143 := F_counts_b136_142.keep K143 (ninS (Nat.ne_of_gt lt_b26_b136) (ninS (Nat.ne_of_gt lt_b131_b136) nin0))
          have F_groups_b136_143 := F_groups_b136_142.keep K143 (ninS (Nat.ne_of_gt lt_b26_b136) (ninS (Nat.ne_of_gt lt_b131_b136) nin0))
          have F_heads_b136_143 := F_heads_b136_142.keep K143 (ninS (Nat.ne_of_gt lt_b26_b136) (ninS (Nat.ne_of_gt lt_b131_b136) nin0))
          have N143' := Fr.app N142 N143
          refine own_st st143 ?_
          show own_Go _ _ _ _ T143 (mkF m 285 #[.val (.int p1), .val (.int p2), .val (.int p3), .val (.int p4), .val (.long q5), .second, .val (.int p6), .val (.int (1 : Int32)), .val (.int (0 : Int32)), .val (.int (3 : Int32)), .val (.int (2 : Int32)), .val (.ref b21), .val (.ref b26), .val (.int (q5.toInt32)), .val (.int (((q5.toUInt64 >>> ((32 : Int32) &&& 0x3f).toInt64.toUInt64).toInt64).toInt32)), .val (.int (p1 ^^^ p4)), .val (.int (p2 ^^^ (-1 : Int32))), .val (.ref b31), .val (.ref b36), .val (.ref b41), .val (.ref b131), .val (.ref b136), .unset] [])
          exact tl10 _ _ _ X143 N143' rfl O143 _ _ _ _ _ _ _ _ _ _ _ _ _ F_counts_b136_143 F_groups_b136_143 F_heads_b136_143 (own_im32 l hw [] b26 b21 (3 : Int32) (2 : Int32) kk26 kk21 p1 p2 p3 p4 T143.heap n0 (Nat.le_trans Z0 O143.1) rfl rfl Vc143 V_b21_143) (own_rm32 l hw [] b131 b41 (3 : Int32) (2 : Int32) kk131 kk41 b42 b44 b46 b48 T143.heap n0 (Nat.le_trans Z0 O143.1) rfl rfl Vg143 V_b41_143)
        · show own_Go _ _ _ _ T142 (mkF m 266 #[.val (.int p1), .val (.int p2), .val (.int p3), .val (.int p4), .val (.long q5), .second, .val (.int p6), .val (.int (1 : Int32)), .val (.int (1 : Int32)), .val (.int (3 : Int32)), .val (.int (2 : Int32)), .val (.ref b21), .val (.ref b26), .val (.int (q5.toInt32)), .val (.int (((q5.toUInt64 >>> ((32 : Int32) &&& 0x3f).toInt64.toUInt64).toInt64).toInt32)), .val (.int (p1 ^^^ p4)), .val (.int (p2 ^^^ (-1 : Int32))), .val (.ref b31), .val (.ref b36), .val (.ref b41), .val (.ref b131), .val (.ref b136), .unset] [(.int (1 : Int32))])
          refine own_st (fun _ k => XS.ifNo X142.here hx rfl (hb hby at_266) rfl ((if0 _ _).trans (feq (by decide : ¬ ((1 : Int32) = (0 : Int32)))).1) k) ?_
          refine own_st (fun _ k => XS.aload X142.here hx rfl (hb hby at_269) rfl rfl k) ?_
          refine own_st (fun _ k => XS.aload X142.here hx rfl (hb hby at_271) rfl rfl k) ?_
          obtain ⟨T144, hp144, X144, e144, W144, st144⟩ := putF X142 hx hZ hown (host := "") (Or.inl (own_w31 hw)) Via.refl e142 F_heads_b136_142 Ex_b136_142 (Or.inl (own_w32 hw)) (own_w5 hw) (ty := (.array .int)) (by decide) rfl rfl (g := (mkF m 273 #[.val (.int p1), .val (.int p2), .val (.int p3), .val (.int p4), .val (.long q5), .second, .val (.int p6), .val (.int (1 : Int32)), .val (.int (1 : Int32)), .val (.int (3 : Int32)), .val (.int (2 : Int32)), .val (.ref b21), .val (.ref b26), .val (.int (q5.toInt32)), .val (.int (((q5.toUInt64 >>> ((32 : Int32) &&& 0x3f).toInt64.toUInt64).toInt64).toInt32)), .val (.int (p1 ^^^ p4)), .val (.int (p2 ^^^ (-1 : Int32))), .val (.ref b31), .val (.ref b36), .val (.ref b41), .val (.ref b131), .val (.ref b136), .unset] [(.ref b36), (.ref b136)])) rfl rfl (hb hby at_273)
          have O144 := own_extw O142 W144 s_b136
          have V_b21_144 := V_b21_142.other W144 (Nat.ne_of_lt lt_b21_b136)
          have V_b26_144 := V_b26_142.other W144 (Nat.ne_of_lt lt_b26_b136)
          have V_b31_144 := V_b31_142.other W144 (Nat.ne_of_lt lt_b31_b136)
          have V_b36_144 := V_b36_142.other W144 (Nat.ne_of_lt lt_b36_b136)
          have V_b41_144 := V_b41_142.other W144 (Nat.ne_of_lt lt_b41_b136)
          have V_b42_144 := V_b42_142.other W144 (Nat.ne_of_lt lt_b42_b136)
          have V_b44_144 := V_b44_142.other W144 (Nat.ne_of_lt lt_b44_b136)
          have V_b46_144 := V_b46_142.other W144 (Nat.ne_of_lt lt_b46_b136)
          have V_b48_144 := V_b48_142.other W144 (Nat.ne_of_lt lt_b48_b136)
          have V_b131_144 := V_b131_142.other W144 (Nat.ne_of_lt lt_b131_b136)
          have Ex_b21_144 := Ex_b21_142.wr W144
          have Ex_b26_144 := Ex_b26_142.wr W144
          have Ex_b31_144 := Ex_b31_142.wr W144
          have Ex_b36_144 := Ex_b36_142.wr W144
          have Ex_b42_144 := Ex_b42_142.wr W144
          have Ex_b44_144 := Ex_b44_142.wr W144
          have Ex_b46_144 := Ex_b46_142.wr W144
          have Ex_b48_144 := Ex_b48_142.wr W144
          have Ex_b136_144 := Ex_b136_142.wr W144
          have F_counts_b136_144 := F_counts_b136_142.other W144 (Or.inr (slot_ne (Or.inl (own_w29 hw)) (Or.inl (own_w32 hw)) (by decide) (t := (.array .int)) (t' := (.array .int)) (by decide) (by decide)))
          have F_groups_b136_144 := F_groups_b136_142.other W144 (Or.inr (slot_ne (Or.inl (own_w39 hw)) (Or.inl (own_w32 hw)) (by decide) (t := (.array (.object "java/lang/Object"))) (t' := (.array .int)) (by decide) (by decide)))
          have F_heads_b136_144 := F_heads_b136_142.same W144
          have N144 := Fr.snoc X144 N142 g_b136
          refine own_st st144 ?_
          refine own_st (fun _ k => XS.aload X144.here hx rfl (hb hby at_276) rfl rfl k) ?_
          refine own_st (fun _ k => XS.iload X144.here hx rfl (hb hby at_278) rfl k) ?_
          show own_Go _ _ _ _ T144 (mkF m 280 #[.val (.int p1), .val (.int p2), .val (.int p3), .val (.int p4), .val (.long q5), .second, .val (.int p6), .val (.int (1 : Int32)), .val (.int (1 : Int32)), .val (.int (3 : Int32)), .val (.int (2 : Int32)), .val (.ref b21), .val (.ref b26), .val (.int (q5.toInt32)), .val (.int (((q5.toUInt64 >>> ((32 : Int32) &&& 0x3f).toInt64.toUInt64).toInt64).toInt32)), .val (.int (p1 ^^^ p4)), .val (.int (p2 ^^^ (-1 : Int32))), .val (.ref b31), .val (.ref b36), .val (.ref b41), .val (.ref b131), .val (.ref b136), .unset] [(.int (3 : Int32)), (.ref b136)])
          refine own_st (fun _ k => XS.iload X144.here hx rfl (hb hby at_280) rfl k) ?_
          obtain ⟨v145, T145, L145, hQ145, X145, st145⟩ := own_callV X144 hx hZ (y := (⟨"com/example/sheaf/sheaf/CountedKeys", "move", "(II)V"⟩ : MethodName)) hown (own_w33 hw) (own_w34 hw) (own_w36 hw) (own_w35 hw) (own_w6 hw) (own_w37 hw) (by decide) (own_mv11 l hw [] b136 b26 b131 b36 (3 : Int32) (2 : Int32) p4 (p2 ^^^ (-1 : Int32)) (.ref b48) kk26 kk131 kk36 [(.int p1), (.int p2), (.int p3), (.int p4)] [(.ref b42), (.ref b44), .null, (.ref b48)] [(.int (q5.toInt32)), (.int (((q5.toUInt64 >>> ((32 : Int32) &&& 0x3f).toInt64.toUInt64).toInt64).toInt32)), (.int (p1 ^^^ p4)), (.int (p2 ^^^ (-1 : Int32)))] hp144 n0 (Nat.le_trans Z0 O144.1) (by decide) (by decide) (Nat.le_of_ble_eq_true rfl) g_b26 V_b26_144 rfl (Nat.ne_of_gt lt_b26_b136) F_counts_b136_144 F_groups_b136_144 F_heads_b136_144 (Nat.le_of_ble_eq_true rfl) (Nat.le_of_ble_eq_true rfl) g_b131 V_b131_144 rfl rfl (by obtain ⟨cl', A', q', _⟩ := V_b131_144; exact Sto.ofV A' q' Ov131 (Ins.of_exa Ex_b48_144 (own_w3 hw))) (Nat.ne_of_gt lt_b131_b136) (Nat.ne_of_lt lt_b26_b131) (Nat.le_of_ble_eq_true rfl) g_b36 V_b36_144 rfl (Nat.ne_of_gt lt_b36_b136) (Nat.ne_of_lt lt_b26_b36) (Nat.ne_of_gt lt_b36_b131)) e144 Ex_b136_144 (g := (mkF m 282 #[.val (.int p1), .val (.int p2), .val (.int p3), .val (.int p4), .val (.long q5), .second, .val (.int p6), .val (.int (1 : Int32)), .val (.int (1 : Int32)), .val (.int (3 : Int32)), .val (.int (2 : Int32)), .val (.ref b21), .val (.ref b26), .val (.int (q5.toInt32)), .val (.int (((q5.toUInt64 >>> ((32 : Int32) &&& 0x3f).toInt64.toUInt64).toInt64).toInt32)), .val (.int (p1 ^^^ p4)), .val (.int (p2 ^^^ (-1 : Int32))), .val (.ref b31), .val (.ref b36), .val (.ref b41), .val (.ref b131), .val (.ref b136), .unset] [(.int (2 : Int32)), (.int (3 : Int32)), (.ref b136)])) rfl (by rw [hml]; rfl) (argsL := [(.int (3 : Int32)), (.int (2 : Int32))]) (rest := []) (lenOf own_pd5 rfl) rfl rfl (W := 0) (Nat.le_of_eq rfl) (hb hby at_282) (by decide) (by decide) (by decide) (by decide)
          obtain ⟨rfl, N145, K145, Vc145, Vg145, Vh145⟩ := hQ145
          have Vc145 : Arv Z T145.heap b26 kk26 .int 4 [(.int p1), (.int p2), (.int p4), (.int p4)] (.int (0 : Int32)) := Vc145
          have Vg145 : Arv Z T145.heap b131 kk131 (.object "java/lang/Object") 4 [(.ref b42), (.ref b44), (.ref b48), .null] .null := Vg145
          have Vh145 : Arv Z T145.heap b36 kk36 .int 4 [(.int (q5.toInt32)), (.int (((q5.toUInt64 >>> ((32 : Int32) &&& 0x3f).toInt64.toUInt64).toInt64).toInt32)), (.int (p2 ^^^ (-1 : Int32))), (.int (p2 ^^^ (-1 : Int32)))] (.int (0 : Int32)) := Vh145
          have O145 : Ext h0 T145.heap := ⟨Nat.le_trans O144.1 K145.1, fun x c r => K145.2.1 x c (O144.2 x c r) (fun z => by
            have q := (Array.getElem?_eq_some_iff.mp r).1
            simp only [List.mem_cons, List.not_mem_nil, or_false] at z
            rcases z with rfl | rfl | rfl
            · exact absurd q (Nat.not_lt.mpr s_b26)
            · exact absurd q (Nat.not_lt.mpr s_b131)
            · exact absurd q (Nat.not_lt.mpr s_b36))⟩
          have V_b21_145 := V_b21_144.keep K145 (ninS (Nat.ne_of_lt lt_b21_b26) (ninS (Nat.ne_of_lt lt_b21_b131) (ninS (Nat.ne_of_lt lt_b21_b36) nin0)))
          have V_b31_145 := V_b31_144.keep K145 (ninS (Nat.ne_of_gt lt_b26_b31) (ninS (Nat.ne_of_lt lt_b31_b131) (ninS (Nat.ne_of_lt lt_b31_b36) nin0)))
          have V_b41_145 := V_b41_144.keep K145 (ninS (Nat.ne_of_gt lt_b26_b41) (ninS (Nat.ne_of_lt lt_b41_b131) (ninS (Nat.ne_of_gt lt_b36_b41) nin0)))
          have V_b42_145 := V_b42_144.keep K145 (ninS (Nat.ne_of_gt lt_b26_b42) (ninS (Nat.ne_of_lt lt_b42_b131) (ninS (Nat.ne_of_gt lt_b36_b42) nin0)))
          have V_b44_145 := V_b44_144.keep K145 (ninS (Nat.ne_of_gt lt_b26_b44) (ninS (Nat.ne_of_lt lt_b44_b131) (ninS (Nat.ne_of_gt lt_b36_b44) nin0)))
          have V_b46_145 := V_b46_144.keep K145 (ninS (Nat.ne_of_gt lt_b26_b46) (ninS (Nat.ne_of_lt lt_b46_b131) (ninS (Nat.ne_of_gt lt_b36_b46) nin0)))
          have V_b48_145 := V_b48_144.keep K145 (ninS (Nat.ne_of_gt lt_b26_b48) (ninS (Nat.ne_of_lt lt_b48_b131) (ninS (Nat.ne_of_gt lt_b36_b48) nin0)))
          have Ex_b21_145 := Ex_b21_144.keep K145
          have Ex_b26_145 := Ex_b26_144.keep K145
          have Ex_b31_145 := Ex_b31_144.keep K145
          have Ex_b36_145 := Ex_b36_144.keep K145
          have Ex_b42_145 := Ex_b42_144.keep K145
          have Ex_b44_145 := Ex_b44_144.keep K145
          have Ex_b46_145 := Ex_b46_144.keep K145
          have Ex_b48_145 := Ex_b48_144.keep K145
          have Ex_b136_145 := Ex_b136_144.keep K145
          have F_counts_b136_145 := F_counts_b136_144.keep K145 (ninS (Nat.ne_of_gt lt_b26_b136) (ninS (Nat.ne_of_gt lt_b131_b136) (ninS (Nat.ne_of_gt lt_b36_b136) nin0)))
          have F_groups_b136_145 := F_groups_b136_144.keep K145 (ninS (Nat.ne_of_gt lt_b26_b136) (ninS (Nat.ne_of_gt lt_b131_b136) (ninS (Nat.ne_of_gt lt_b36_b136) nin0)))
          have F_heads_b136_145 := F_heads_b136_144.keep K145 (ninS (Nat.ne_of_gt lt_b26_b136) (ninS (Nat.ne_of_gt lt_b131_b136) (ninS (Nat.ne_of_gt lt_b36_b136) nin0)))
          have N145' := Fr.app N144 N145
          refine own_st st145 ?_
          show own_Go _ _ _ _ T145 (mkF m 285 #[.val (.int p1), .val (.int p2), .val (.int p3), .val (.int p4), .val (.long q5), .second, .val (.int p6), .val (.int (1 : Int32)), .val (.int (1 : Int32)), .val (.int (3 : Int32)), .val (.int (2 : Int32)), .val (.ref b21), .val (.ref b26), .val (.int (q5.toInt32)), .val (.int (((q5.toUInt64 >>> ((32 : Int32) &&& 0x3f).toInt64.toUInt64).toInt64).toInt32)), .val (.int (p1 ^^^ p4)), .val (.int (p2 ^^^ (-1 : Int32))), .val (.ref b31), .val (.ref b36), .val (.ref b41), .val (.ref b131), .val (.ref b136), .unset] [])
          exact tl11 _ _ _ X145 N145' rfl O145 _ _ _ _ _ _ _ _ _ _ _ _ _ F_counts_b136_145 F_groups_b136_145 F_heads_b136_145 (own_im32 l hw [] b26 b21 (3 : Int32) (2 : Int32) kk26 kk21 p1 p2 p3 p4 T145.heap n0 (Nat.le_trans Z0 O145.1) rfl rfl Vc145 V_b21_145) (own_rm32 l hw [] b131 b41 (3 : Int32) (2 : Int32) kk131 kk41 b42 b44 b46 b48 T145.heap n0 (Nat.le_trans Z0 O145.1) rfl rfl Vg145 V_b41_145) (own_im32 l hw [] b36 b31 (3 : Int32) (2 : Int32) kk36 kk31 (q5.toInt32) (((q5.toUInt64 >>> ((32 : Int32) &&& 0x3f).toInt64.toUInt64).toInt64).toInt32) (p1 ^^^ p4) (p2 ^^^ (-1 : Int32)) T145.heap n0 (Nat.le_trans Z0 O145.1) rfl rfl Vh145 V_b31_145)
  have tl2 : ∀ (Tt : State) (lt : List Loc) (ht : Heap) (Xt : Stand p l e room_1 s m #[(.int p1), (.int p2), (.int p3), (.int p4), (.long q5), (.int p6)] below meth c Tt lt 0 0) (Nt : Fr n0 lt) (et : Tt.heap = ht) (Ot : Ext h0 ht) (fg fh : Int32) (hfg : fg = 0 ∨ fg = 1) (hfh : fh = 0 ∨ fh = 1), own_Go p.tables e below (own_F below s (own_law_Q Z p1 p2 p3 p4 q5 p6 wo wi h0 n0) 32 128) Tt (mkF m 28 #[.val (.int p1), .val (.int p2), .val (.int p3), .val (.int p4), .val (.long q5), .second, .val (.int p6), .val (.int fg), .val (.int fh), .unset, .unset, .unset, .unset, .unset, .unset, .unset, .unset, .unset, .unset, .unset, .unset, .unset, .unset] []) := by
    intro Tt lt ht Xt Nt et Ot fg fh hfg hfh
    refine own_st (fun _ k => XS.iconst Xt.here hx rfl (hb hby at_28) k) ?_
    refine own_st (fun _ k => XS.iload Xt.here hx rfl (hb hby at_29) rfl k) ?_
    refine own_st (fun _ k => XS.iconst Xt.here hx rfl (hb hby at_31) k) ?_
    refine own_st (fun _ k => XS.iushr Xt.here hx rfl (hb hby at_32) rfl k) ?_
    refine own_st (fun _ k => XS.iconst Xt.here hx rfl (hb hby at_33) k) ?_
    refine own_st (fun _ k => XS.iand Xt.here hx rfl (hb hby at_34) rfl k) ?_
    show own_Go _ _ _ _ Tt (mkF m 35 #[.val (.int p1), .val (.int p2), .val (.int p3), .val (.int p4), .val (.long q5), .second, .val (.int p6), .val (.int fg), .val (.int fh), .unset, .unset, .unset, .unset, .unset, .unset, .unset, .unset, .unset, .unset, .unset, .unset, .unset, .unset] [(.int (((p6.toUInt32 >>> ((2 : Int32) &&& 31).toUInt32).toInt32) &&& (3 : Int32))), (.int (1 : Int32))])
    refine own_st (fun _ k => XS.iconst Xt.here hx rfl (hb hby at_35) k) ?_
    refine own_st (fun _ k => iremM Xt hx rfl (hb hby at_36) rfl (by decide) k) ?_
    refine own_st (fun _ k => XS.iadd Xt.here hx rfl (hb hby at_37) rfl k) ?_
    refine own_st (fun _ k => XS.istore Xt.here hx rfl (hb hby at_38) rfl (l' := #[.val (.int p1), .val (.int p2), .val (.int p3), .val (.int p4), .val (.long q5), .second, .val (.int p6), .val (.int fg), .val (.int fh), .val (.int ((1 : Int32) + ((((p6.toUInt32 >>> ((2 : Int32) &&& 31).toUInt32).toInt32) &&& (3 : Int32)) % (3 : Int32)))), .unset, .unset, .unset, .unset, .unset, .unset, .unset, .unset, .unset, .unset, .unset, .unset, .unset]) rfl k) ?_
    rcases own_f ((p6.toUInt32 >>> ((2 : Int32) &&& 31).toUInt32).toInt32) with hf | hf | hf
    · show own_Go _ _ _ _ Tt (mkF m 40 #[.val (.int p1), .val (.int p2), .val (.int p3), .val (.int p4), .val (.long q5), .second, .val (.int p6), .val (.int fg), .val (.int fh), .val (.int ((1 : Int32) + ((((p6.toUInt32 >>> ((2 : Int32) &&& 31).toUInt32).toInt32) &&& (3 : Int32)) % (3 : Int32)))), .unset, .unset, .unset, .unset, .unset, .unset, .unset, .unset, .unset, .unset, .unset, .unset, .unset] [])
      rw [hf]
      refine own_st (fun _ k => XS.iload Xt.here hx rfl (hb hby at_40) rfl k) ?_
      refine own_st (fun _ k => XS.iconst Xt.here hx rfl (hb hby at_42) k) ?_
      refine own_st (fun _ k => XS.iushr Xt.here hx rfl (hb hby at_43) rfl k) ?_
      refine own_st (fun _ k => XS.iconst Xt.here hx rfl (hb hby at_44) k) ?_
      refine own_st (fun _ k => XS.iand Xt.here hx rfl (hb hby at_45) rfl k) ?_
      show own_Go _ _ _ _ Tt (mkF m 46 #[.val (.int p1), .val (.int p2), .val (.int p3), .val (.int p4), .val (.long q5), .second, .val (.int p6), .val (.int fg), .val (.int fh), .val (.int (1 : Int32)), .unset, .unset, .unset, .unset, .unset, .unset, .unset, .unset, .unset, .unset, .unset, .unset, .unset] [(.int (((p6.toUInt32 >>> ((4 : Int32) &&& 31).toUInt32).toInt32) &&& (3 : Int32)))])
      refine own_st (fun _ k => XS.iload Xt.here hx rfl (hb hby at_46) rfl k) ?_
      refine own_st (fun _ k => iremM Xt hx rfl (hb hby at_48) rfl (by decide) k) ?_
      refine own_st (fun _ k => XS.istore Xt.here hx rfl (hb hby at_49) rfl (l' := #[.val (.int p1), .val (.int p2), .val (.int p3), .val (.int p4), .val (.long q5), .second, .val (.int p6), .val (.int fg), .val (.int fh), .val (.int (1 : Int32)), .val (.int ((((p6.toUInt32 >>> ((4 : Int32) &&& 31).toUInt32).toInt32) &&& (3 : Int32)) % (1 : Int32))), .unset, .unset, .unset, .unset, .unset, .unset, .unset, .unset, .unset, .unset, .unset, .unset]) rfl k) ?_
      show own_Go _ _ _ _ Tt (mkF m 51 #[.val (.int p1), .val (.int p2), .val (.int p3), .val (.int p4), .val (.long q5), .second, .val (.int p6), .val (.int fg), .val (.int fh), .val (.int (1 : Int32)), .val (.int ((((p6.toUInt32 >>> ((4 : Int32) &&& 31).toUInt32).toInt32) &&& (3 : Int32)) % (1 : Int32))), .unset, .unset, .unset, .unset, .unset, .unset, .unset, .unset, .unset, .unset, .unset, .unset] [])
      rw [own_t1 ((p6.toUInt32 >>> ((4 : Int32) &&& 31).toUInt32).toInt32)]
      exact tl _ _ _ Xt Nt et Ot _ _ _ _ hfg hfh (Or.inl ⟨rfl, rfl⟩)
    · show own_Go _ _ _ _ Tt (mkF m 40 #[.val (.int p1), .val (.int p2), .val (.int p3), .val (.int p4), .val (.long q5), .second, .val (.int p6), .val (.int fg), .val (.int fh), .val (.int ((1 : Int32) + ((((p6.toUInt32 >>> ((2 : Int32) &&& 31).toUInt32).toInt32) &&& (3 : Int32)) % (3 : Int32)))), .unset, .unset, .unset, .unset, .unset, .unset, .unset, .unset, .unset, .unset, .unset, .unset, .unset] [])
      rw [hf]
      refine own_st (fun _ k => XS.iload Xt.here hx rfl (hb hby at_40) rfl k) ?_
      refine own_st (fun _ k => XS.iconst Xt.here hx rfl (hb hby at_42) k) ?_
      refine own_st (fun _ k => XS.iushr Xt.here hx rfl (hb hby at_43) rfl k) ?_
      refine own_st (fun _ k => XS.iconst Xt.here hx rfl (hb hby at_44) k) ?_
      refine own_st (fun _ k => XS.iand Xt.here hx rfl (hb hby at_45) rfl k) ?_
      show own_Go _ _ _ _ Tt (mkF m 46 #[.val (.int p1), .val (.int p2), .val (.int p3), .val (.int p4), .val (.long q5), .second, .val (.int p6), .val (.int fg), .val (.int fh), .val (.int (2 : Int32)), .unset, .unset, .unset, .unset, .unset, .unset, .unset, .unset, .unset, .unset, .unset, .unset, .unset] [(.int (((p6.toUInt32 >>> ((4 : Int32) &&& 31).toUInt32).toInt32) &&& (3 : Int32)))])
      refine own_st (fun _ k => XS.iload Xt.here hx rfl (hb hby at_46) rfl k) ?_
      refine own_st (fun _ k => iremM Xt hx rfl (hb hby at_48) rfl (by decide) k) ?_
      refine own_st (fun _ k => XS.istore Xt.here hx rfl (hb hby at_49) rfl (l' := #[.val (.int p1), .val (.int p2), .val (.int p3), .val (.int p4), .val (.long q5), .second, .val (.int p6), .val (.int fg), .val (.int fh), .val (.int (2 : Int32)), .val (.int ((((p6.toUInt32 >>> ((4 : Int32) &&& 31).toUInt32).toInt32) &&& (3 : Int32)) % (2 : Int32))), .unset, .unset, .unset, .unset, .unset, .unset, .unset, .unset, .unset, .unset, .unset, .unset]) rfl k) ?_
      rcases own_t2 ((p6.toUInt32 >>> ((4 : Int32) &&& 31).toUInt32).toInt32) with ht | ht
      · show own_Go _ _ _ _ Tt (mkF m 51 #[.val (.int p1), .val (.int p2), .val (.int p3), .val (.int p4), .val (.long q5), .second, .val (.int p6), .val (.int fg), .val (.int fh), .val (.int (2 : Int32)), .val (.int ((((p6.toUInt32 >>> ((4 : Int32) &&& 31).toUInt32).toInt32) &&& (3 : Int32)) % (2 : Int32))), .unset, .unset, .unset, .unset, .unset, .unset, .unset, .unset, .unset, .unset, .unset, .unset] [])
        rw [ht]
        exact tl _ _ _ Xt Nt et Ot _ _ _ _ hfg hfh (Or.inr (Or.inl ⟨rfl, rfl⟩))
      · show own_Go _ _ _ _ Tt (mkF m 51 #[.val (.int p1), .val (.int p2), .val (.int p3), .val (.int p4), .val (.long q5), .second, .val (.int p6), .val (.int fg), .val (.int fh), .val (.int (2 : Int32)), .val (.int ((((p6.toUInt32 >>> ((4 : Int32) &&& 31).toUInt32).toInt32) &&& (3 : Int32)) % (2 : Int32))), .unset, .unset, .unset, .unset, .unset, .unset, .unset, .unset, .unset, .unset, .unset, .unset] [])
        rw [ht]
        exact tl _ _ _ Xt Nt et Ot _ _ _ _ hfg hfh (Or.inr (Or.inr (Or.inl ⟨rfl, rfl⟩)))
    · show own_Go _ _ _ _ Tt (mkF m 40 #[.val (.int p1), .val (.int p2), .val (.int p3), .val (.int p4), .val (.long q5), .second, .val (.int p6), .val (.int fg), .val (.int fh), .val (.int ((1 : Int32) + ((((p6.toUInt32 >>> ((2 : Int32) &&& 31).toUInt32).toInt32) &&& (3 : Int32)) % (3 : Int32)))), .unset, .unset, .unset, .unset, .unset, .unset, .unset, .unset, .unset, .unset, .unset, .unset, .unset] [])
      rw [hf]
      refine own_st (fun _ k => XS.iload Xt.here hx rfl (hb hby at_40) rfl k) ?_
      refine own_st (fun _ k => XS.iconst Xt.here hx rfl (hb hby at_42) k) ?_
      refine own_st (fun _ k => XS.iushr Xt.here hx rfl (hb hby at_43) rfl k) ?_
      refine own_st (fun _ k => XS.iconst Xt.here hx rfl (hb hby at_44) k) ?_
      refine own_st (fun _ k => XS.iand Xt.here hx rfl (hb hby at_45) rfl k) ?_
      show own_Go _ _ _ _ Tt (mkF m 46 #[.val (.int p1), .val (.int p2), .val (.int p3), .val (.int p4), .val (.long q5), .second, .val (.int p6), .val (.int fg), .val (.int fh), .val (.int (3 : Int32)), .unset, .unset, .unset, .unset, .unset, .unset, .unset, .unset, .unset, .unset, .unset, .unset, .unset] [(.int (((p6.toUInt32 >>> ((4 : Int32) &&& 31).toUInt32).toInt32) &&& (3 : Int32)))])
      refine own_st (fun _ k => XS.iload Xt.here hx rfl (hb hby at_46) rfl k) ?_
      refine own_st (fun _ k => iremM Xt hx rfl (hb hby at_48) rfl (by decide) k) ?_
      refine own_st (fun _ k => XS.istore Xt.here hx rfl (hb hby at_49) rfl (l' := #[.val (.int p1), .val (.int p2), .val (.int p3), .val (.int p4), .val (.long q5), .second, .val (.int p6), .val (.int fg), .val (.int fh), .val (.int (3 : Int32)), .val (.int ((((p6.toUInt32 >>> ((4 : Int32) &&& 31).toUInt32).toInt32) &&& (3 : Int32)) % (3 : Int32))), .unset, .unset, .unset, .unset, .unset, .unset, .unset, .unset, .unset, .unset, .unset, .unset]) rfl k) ?_
      rcases own_t3 ((p6.toUInt32 >>> ((4 : Int32) &&& 31).toUInt32).toInt32) with ht | ht | ht
      · show own_Go _ _ _ _ Tt (mkF m 51 #[.val (.int p1), .val (.int p2), .val (.int p3), .val (.int p4), .val (.long q5), .second, .val (.int p6), .val (.int fg), .val (.int fh), .val (.int (3 : Int32)), .val (.int ((((p6.toUInt32 >>> ((4 : Int32) &&& 31).toUInt32).toInt32) &&& (3 : Int32)) % (3 : Int32))), .unset, .unset, .unset, .unset, .unset, .unset, .unset, .unset, .unset, .unset, .unset, .unset] [])
        rw [ht]
        exact tl _ _ _ Xt Nt et Ot _ _ _ _ hfg hfh (Or.inr (Or.inr (Or.inr (Or.inl ⟨rfl, rfl⟩))))
      · show own_Go _ _ _ _ Tt (mkF m 51 #[.val (.int p1), .val (.int p2), .val (.int p3), .val (.int p4), .val (.long q5), .second, .val (.int p6), .val (.int fg), .val (.int fh), .val (.int (3 : Int32)), .val (.int ((((p6.toUInt32 >>> ((4 : Int32) &&& 31).toUInt32).toInt32) &&& (3 : Int32)) % (3 : Int32))), .unset, .unset, .unset, .unset, .unset, .unset, .unset, .unset, .unset, .unset, .unset, .unset] [])
        rw [ht]
        exact tl _ _ _ Xt Nt et Ot _ _ _ _ hfg hfh (Or.inr (Or.inr (Or.inr (Or.inr (Or.inl ⟨rfl, rfl⟩)))))
      · show own_Go _ _ _ _ Tt (mkF m 51 #[.val (.int p1), .val (.int p2), .val (.int p3), .val (.int p4), .val (.long q5), .second, .val (.int p6), .val (.int fg), .val (.int fh), .val (.int (3 : Int32)), .val (.int ((((p6.toUInt32 >>> ((4 : Int32) &&& 31).toUInt32).toInt32) &&& (3 : Int32)) % (3 : Int32))), .unset, .unset, .unset, .unset, .unset, .unset, .unset, .unset, .unset, .unset, .unset, .unset] [])
        rw [ht]
        exact tl _ _ _ Xt Nt et Ot _ _ _ _ hfg hfh (Or.inr (Or.inr (Or.inr (Or.inr (Or.inr (⟨rfl, rfl⟩))))))
  refine own_st (fun _ k => XS.iload X0.here hx rfl (hb hby at_0) rfl k) ?_
  refine own_st (fun _ k => XS.iconst X0.here hx rfl (hb hby at_2) k) ?_
  refine own_st (fun _ k => XS.iand X0.here hx rfl (hb hby at_3) rfl k) ?_
  by_cases h1 : (p6 &&& (1 : Int32)) = (0 : Int32)
  · refine own_st (fun _ k => XS.ifYes X0.here hx rfl (pc0 := 4) (pc' := 11) rfl (hb hby at_4) rfl ((if0 _ _).trans (teq (h1 : (p6 &&& (1 : Int32)) = (0 : Int32))).1) (by decide) (by decide) k) ?_
    refine own_st (fun _ k => XS.iconst X0.here hx rfl (hb hby at_11) k) ?_
    refine own_st (fun _ k => XS.istore X0.here hx rfl (hb hby at_12) rfl (l' := #[.val (.int p1), .val (.int p2), .val (.int p3), .val (.int p4), .val (.long q5), .second, .val (.int p6), .val (.int (0 : Int32)), .unset, .unset, .unset, .unset, .unset, .unset, .unset, .unset, .unset, .unset, .unset, .unset, .unset, .unset, .unset]) rfl k) ?_
    show own_Go _ _ _ _ T0 (mkF m 14 #[.val (.int p1), .val (.int p2), .val (.int p3), .val (.int p4), .val (.long q5), .second, .val (.int p6), .val (.int (0 : Int32)), .unset, .unset, .unset, .unset, .unset, .unset, .unset, .unset, .unset, .unset, .unset, .unset, .unset, .unset, .unset] [])
    refine own_st (fun _ k => XS.iload X0.here hx rfl (hb hby at_14) rfl k) ?_
    refine own_st (fun _ k => XS.iconst X0.here hx rfl (hb hby at_16) k) ?_
    refine own_st (fun _ k => XS.iand X0.here hx rfl (hb hby at_17) rfl k) ?_
    by_cases h2 : (p6 &&& (2 : Int32)) = (0 : Int32)
    · refine own_st (fun _ k => XS.ifYes X0.here hx rfl (pc0 := 18) (pc' := 25) rfl (hb hby at_18) rfl ((if0 _ _).trans (teq (h2 : (p6 &&& (2 : Int32)) = (0 : Int32))).1) (by decide) (by decide) k) ?_
      refine own_st (fun _ k => XS.iconst X0.here hx rfl (hb hby at_25) k) ?_
      refine own_st (fun _ k => XS.istore X0.here hx rfl (hb hby at_26) rfl (l' := #[.val (.int p1), .val (.int p2), .val (.int p3), .val (.int p4), .val (.long q5), .second, .val (.int p6), .val (.int (0 : Int32)), .val (.int (0 : Int32)), .unset, .unset, .unset, .unset, .unset, .unset, .unset, .unset, .unset, .unset, .unset, .unset, .unset, .unset]) rfl k) ?_
      show own_Go _ _ _ _ T0 (mkF m 28 #[.val (.int p1), .val (.int p2), .val (.int p3), .val (.int p4), .val (.long q5), .second, .val (.int p6), .val (.int (0 : Int32)), .val (.int (0 : Int32)), .unset, .unset, .unset, .unset, .unset, .unset, .unset, .unset, .unset, .unset, .unset, .unset, .unset, .unset] [])
      exact tl2 _ _ _ X0 N0 e0 O0 _ _ (Or.inl rfl) (Or.inl rfl)
    · refine own_st (fun _ k => XS.ifNo X0.here hx rfl (hb hby at_18) rfl ((if0 _ _).trans (feq (h2 : ¬ ((p6 &&& (2 : Int32)) = (0 : Int32)))).1) k) ?_
      refine own_st (fun _ k => XS.iconst X0.here hx rfl (hb hby at_21) k) ?_
      refine own_st (fun _ k => XS.goto X0.here hx rfl (pc0 := 22) (pc' := 26) rfl (hb hby at_22) (by decide) (by decide) k) ?_
      show own_Go _ _ _ _ T0 (mkF m 26 #[.val (.int p1), .val (.int p2), .val (.int p3), .val (.int p4), .val (.long q5), .second, .val (.int p6), .val (.int (0 : Int32)), .unset, .unset, .unset, .unset, .unset, .unset, .unset, .unset, .unset, .unset, .unset, .unset, .unset, .unset, .unset] [(.int (1 : Int32))])
      refine own_st (fun _ k => XS.istore X0.here hx rfl (hb hby at_26) rfl (l' := #[.val (.int p1), .val (.int p2), .val (.int p3), .val (.int p4), .val (.long q5), .second, .val (.int p6), .val (.int (0 : Int32)), .val (.int (1 : Int32)), .unset, .unset, .unset, .unset, .unset, .unset, .unset, .unset, .unset, .unset, .unset, .unset, .unset, .unset]) rfl k) ?_
      exact tl2 _ _ _ X0 N0 e0 O0 _ _ (Or.inl rfl) (Or.inr rfl)
  · refine own_st (fun _ k => XS.ifNo X0.here hx rfl (hb hby at_4) rfl ((if0 _ _).trans (feq (h1 : ¬ ((p6 &&& (1 : Int32)) = (0 : Int32)))).1) k) ?_
    refine own_st (fun _ k => XS.iconst X0.here hx rfl (hb hby at_7) k) ?_
    refine own_st (fun _ k => XS.goto X0.here hx rfl (pc0 := 8) (pc' := 12) rfl (hb hby at_8) (by decide) (by decide) k) ?_
    show own_Go _ _ _ _ T0 (mkF m 12 #[.val (.int p1), .val (.int p2), .val (.int p3), .val (.int p4), .val (.long q5), .second, .val (.int p6), .unset, .unset, .unset, .unset, .unset, .unset, .unset, .unset, .unset, .unset, .unset, .unset, .unset, .unset, .unset, .unset] [(.int (1 : Int32))])
    refine own_st (fun _ k => XS.istore X0.here hx rfl (hb hby at_12) rfl (l' := #[.val (.int p1), .val (.int p2), .val (.int p3), .val (.int p4), .val (.long q5), .second, .val (.int p6), .val (.int (1 : Int32)), .unset, .unset, .unset, .unset, .unset, .unset, .unset, .unset, .unset, .unset, .unset, .unset, .unset, .unset, .unset]) rfl k) ?_
    refine own_st (fun _ k => XS.iload X0.here hx rfl (hb hby at_14) rfl k) ?_
    refine own_st (fun _ k => XS.iconst X0.here hx rfl (hb hby at_16) k) ?_
    refine own_st (fun _ k => XS.iand X0.here hx rfl (hb hby at_17) rfl k) ?_
    by_cases h2 : (p6 &&& (2 : Int32)) = (0 : Int32)
    · refine own_st (fun _ k => XS.ifYes X0.here hx rfl (pc0 := 18) (pc' := 25) rfl (hb hby at_18) rfl ((if0 _ _).trans (teq (h2 : (p6 &&& (2 : Int32)) = (0 : Int32))).1) (by decide) (by decide) k) ?_
      refine own_st (fun _ k => XS.iconst X0.here hx rfl (hb hby at_25) k) ?_
      show own_Go _ _ _ _ T0 (mkF m 26 #[.val (.int p1), .val (.int p2), .val (.int p3), .val (.int p4), .val (.long q5), .second, .val (.int p6), .val (.int (1 : Int32)), .unset, .unset, .unset, .unset, .unset, .unset, .unset, .unset, .unset, .unset, .unset, .unset, .unset, .unset, .unset] [(.int (0 : Int32))])
      refine own_st (fun _ k => XS.istore X0.here hx rfl (hb hby at_26) rfl (l' := #[.val (.int p1), .val (.int p2), .val (.int p3), .val (.int p4), .val (.long q5), .second, .val (.int p6), .val (.int (1 : Int32)), .val (.int (0 : Int32)), .unset, .unset, .unset, .unset, .unset, .unset, .unset, .unset, .unset, .unset, .unset, .unset, .unset, .unset]) rfl k) ?_
      exact tl2 _ _ _ X0 N0 e0 O0 _ _ (Or.inr rfl) (Or.inl rfl)
    · refine own_st (fun _ k => XS.ifNo X0.here hx rfl (hb hby at_18) rfl ((if0 _ _).trans (feq (h2 : ¬ ((p6 &&& (2 : Int32)) = (0 : Int32)))).1) k) ?_
      refine own_st (fun _ k => XS.iconst X0.here hx rfl (hb hby at_21) k) ?_
      show own_Go _ _ _ _ T0 (mkF m 22 #[.val (.int p1), .val (.int p2), .val (.int p3), .val (.int p4), .val (.long q5), .second, .val (.int p6), .val (.int (1 : Int32)), .unset, .unset, .unset, .unset, .unset, .unset, .unset, .unset, .unset, .unset, .unset, .unset, .unset, .unset, .unset] [(.int (1 : Int32))])
      refine own_st (fun _ k => XS.goto X0.here hx rfl (pc0 := 22) (pc' := 26) rfl (hb hby at_22) (by decide) (by decide) k) ?_
      refine own_st (fun _ k => XS.istore X0.here hx rfl (hb hby at_26) rfl (l' := #[.val (.int p1), .val (.int p2), .val (.int p3), .val (.int p4), .val (.long q5), .second, .val (.int p6), .val (.int (1 : Int32)), .val (.int (1 : Int32)), .unset, .unset, .unset, .unset, .unset, .unset, .unset, .unset, .unset, .unset, .unset, .unset, .unset, .unset]) rfl k) ?_
      exact tl2 _ _ _ X0 N0 e0 O0 _ _ (Or.inr rfl) (Or.inr rfl)
set_option maxRecDepth 65536 in
set_option maxHeartbeats 40000000 in
theorem comes_1 {Post : Tables → Env → Array Value → State → Outcome → State → Prop} (hpost : ∀ tb e args s v u, (limb_1_1.after args s (.returned v) u = true ∧ limb_1_2.after args s (.returned v) u = true ∧ True) → FrameEnd s (.returned v) u (Jvm.fieldLocs frame_1_writes args s ++ Jvm.arrayLocs frame_1_arrays args s ++ Jvm.staticLocs frame_1_statics s) 32 128 → Post tb e args s (.returned v) u) :
    ArmFor flags0 classFile x code maxLocals ret World_1 tables_1 room_1 Calls_1 rest_1 Pre_1 Post := by
  intro l hfl _ _ p e ha hc hk s m args below hf hA hF happ hP
  obtain ⟨hcalls, hrest, hpre⟩ := hP
  obtain ⟨-, -, -, hnamed, -, -, -, hat⟩ := (Spec.applies_iff hf).mp happ
  obtain ⟨hg, hn⟩ := and_e (Cond.before_iff.mp (show (Jvm.Cond.and given_1 narrow_1).before args s = true from hpre))
  obtain ⟨q1, q2⟩ := and_e hg
  obtain ⟨q3, q4⟩ := and_e q2
  obtain ⟨q5, q6⟩ := and_e q4
  obtain ⟨q7, q8⟩ := and_e q6
  obtain ⟨q9, q10⟩ := and_e q8
  obtain ⟨q11, q12⟩ := and_e q10
  obtain ⟨w0_, w1_, w2_, w3_, w4_, w5_, rfl⟩ : ∃ w0_ w1_ w2_ w3_ w4_ w5_ : Value, args = #[w0_, w1_, w2_, w3_, w4_, w5_] := by
    have hs : args.size = 6 := by simpa [Cond.value, given_1] using q1
    obtain ⟨L⟩ := args
    match L, hs with
    | [w0_, w1_, w2_, w3_, w4_, w5_], _ => exact ⟨w0_, w1_, w2_, w3_, w4_, w5_, rfl⟩
  have hw : own_W s _ := fun d (hd : d ∈ tables_1) => atoms_spec (ws := Jvm.Cond.code x code maxLocals ret :: tables_1) hat d (List.mem_cons_of_mem _ hd)
  have hfit : Fit s := fun {y c} hc i hi => by
    obtain ⟨ha, rfl⟩ := Array.getElem?_eq_some_iff.mp hc
    have q := List.all_eq_true.mp ((Array.all_eq_true_iff_forall_mem.mp hF) _ (Array.getElem_mem ha)) i (List.mem_range.mpr hi)
    simpa [Array.getElem?_eq_getElem hi] using q
  obtain ⟨i0, ei0⟩ := is_v q3
  obtain rfl : w0_ = (.int i0) := Option.some.inj ei0
  obtain ⟨i1, ei1⟩ := is_v q5
  obtain rfl : w1_ = (.int i1) := Option.some.inj ei1
  obtain ⟨i2, ei2⟩ := is_v q7
  obtain rfl : w2_ = (.int i2) := Option.some.inj ei2
  obtain ⟨i3, ei3⟩ := is_v q9
  obtain rfl : w3_ = (.int i3) := Option.some.inj ei3
  obtain ⟨i4, ei4⟩ := isL_v q11
  obtain rfl : w4_ = (.long i4) := Option.some.inj ei4
  obtain ⟨i5, ei5⟩ := is_v q12
  obtain rfl : w5_ = (.int i5) := Option.some.inj ei5
  have hn : narrow_1.value _ s none s [] = some true := hn
  obtain ⟨q13, q14⟩ := and_e hn
  obtain ⟨q15, q16⟩ := and_e q14
  obtain ⟨q17, q18⟩ := and_e q16
  obtain ⟨w19, vw19⟩ := arr_v q13
  obtain ⟨cA20, A20⟩ := Arr.start vw19 q13
  have S21 := Sta.start vw19 (Or.inr ⟨(own_w13 hw), (own_w19 hw)⟩)
  obtain ⟨w22, vw22⟩ := arr_v q17
  obtain ⟨cA23, A23⟩ := Arr.start vw22 q17
  have S24 := Sta.start vw22 (Or.inr ⟨(own_w13 hw), (own_w23 hw)⟩)
  obtain ⟨n, o, r1, r2, r3, _, L, rfl, ⟨rfl, N⟩, hq⟩ := own_law l hw tables_1 i0 i1 i2 i3 i4 i5 w19 w22 s.heap s.heap.size (Nat.le_refl _) S21 S24 p e ha hc hk s m _ below hf ((Spec.applies_iff_loose hf).mp happ).1 ⟨rfl, State.Warmed39.refl s, rfl⟩ trivial
  refine ⟨n, _, r1, r2, r3, hpost _ _ _ _ _ _ ⟨Cond.after_iff.mpr rfl, Cond.after_iff.mpr (eq_i res_at (Term.int_eval (1)) rfl), trivial⟩ ⟨hq.1, hq.2.1, (hq.2.2.sift fun y hy => Or.inr (N y hy)).mono (by decide) (by decide)⟩⟩
theorem main_1_1 : Claimed_1_1 := comes_1 fun _ _ _ _ _ _ h hF => ⟨h.1, hF⟩
theorem main_1_2 : Claimed_1_2 := comes_1 fun _ _ _ _ _ _ h hF => ⟨h.2.1, hF⟩
end Jvm.Pilot.@@N@@
namespace Jvm.Pilot.@@N@@
open Jvm Jvm.ClassFile Sem Op Lib Jvm.Free Jvm.Stand Jvm.Pilot.@@N@@.Jvm.D
/-! MADE BY PROGRAM (witnessworld.py) out of the Statement's table words and the real class files: 11 classes; the members and pool entries that the words name. The judged class is class 1, her method 1. -/
namespace start1
open Jvm.ClassFile
def u (s : String) : CpInfo := .utf8 (stringToUtf16 s)
/-- a pool by its gaps: so many unusable entries, then the entry; so many at the end -/
def gap : Nat → List CpInfo → List CpInfo
  | 0, r => r
  | n + 1, r => .unusable :: gap n r
def poolList (es : List (Nat × CpInfo)) (last : Nat) : List CpInfo := es.foldr (fun e r => gap e.1 (e.2 :: r)) (gap last [])
def pool (es : List (Nat × CpInfo)) (last : Nat) : Array CpInfo := ⟨poolList es last⟩
def fileOf (pool : Array CpInfo) (this : Nat) (attrs : Array Attribute := #[]) (ms : Array MethodInfo := #[]) (fl : Nat := 33) (sup : Nat := 0) (ifs : Array Nat := #[]) (fds : Array FieldInfo := #[]) : ClassFile where
  minorVersion := 0
  majorVersion := 65
  constantPool := pool
  accessFlags := fl
  thisClass := this
  superClass := sup
  interfaces := ifs
  fields := fds
  methods := ms
  attributes := attrs
def plain (name : String) (sup : Option ClassId) : Class where
  name := name
  kind := .ordinary
  loader := none
  accessFlags := 33
  super := sup
  interfaces := #[]
  cf := none
  fields := #[]
  methods := #[]
  instanceTypes := #[]
  staticTypes := #[]
  resolved := #[]
  callSites := []
  init := .initialized
  statics := none
  mirror := none

def pool0 : Array CpInfo := pool [(5, u "<init>"), (0, u "()V"), (1, .class_ 10), (1, u "java/lang/Object")] 113

def k0c0 : Code := { maxStack := 0, maxLocals := 1, code := object_method_1_code, exceptionTable := #[], attributes := #[] }
def k0m0 : Method := { name := "<init>", desc := "()V", sig := { parameters := [], returnType := none }, accessFlags := 1, code := some k0c0 }
/-- java/lang/Object -/
def k0 : Class := { plain "java/lang/Object" none with
  accessFlags := 33
  interfaces := #[]
  cf := some (fileOf pool0 8 #[] #[{ accessFlags := 1, nameIndex := 5, descriptorIndex := 6, attributes := #[] }] 33 0 #[] #[])
  fields := #[]
  methods := #[k0m0]
  instanceTypes := #[]
  staticTypes := #[]
  resolved := Array.replicate 124 none
  statics := none }

def pool1 : Array CpInfo := pool [(2, .class_ 4), (0, .nameAndType 5 6), (0, u "java/lang/Object"), (0, u "<init>"), (0, u "()V"), (0, .class_ 8), (0, u "com/example/sheaf/sheaf/CountedKeys"), (0, .methodref 7 3), (0, .fieldref 7 11), (0, .nameAndType 12 13), (0, u "counts"), (0, u "[I"), (0, .fieldref 7 15), (0, .nameAndType 16 17), (0, u "groups"), (0, u "[Ljava/lang/Object;"), (0, .fieldref 7 19), (0, .nameAndType 20 13), (0, u "heads"), (0, .methodref 7 22), (0, .nameAndType 23 24), (0, u "move"), (0, u "(II)V"), (0, .methodref 26 27), (0, .class_ 28), (0, .nameAndType 29 30), (0, u "com/example/sheaf/sheaf/CountedKeysMovePinLaw"), (0, u "intsMoved"), (0, u "([I[III)Z"), (0, .methodref 26 32), (0, .nameAndType 33 34), (0, u "refsMoved"), (0, u "([Ljava/lang/Object;[Ljava/lang/Object;II)Z"), (0, .methodref 26 36), (0, .nameAndType 37 38), (0, u "intAfter"), (0, u "([IIII)I"), (0, .methodref 26 40), (0, .nameAndType 41 42), (0, u "refAfter"), (0, u "([Ljava/lang/Object;III)Ljava/lang/Object;"), (2, u "law"), (0, u "(IIIIJI)Z")] 5

def k1m0 : Method := { name := "<init>", desc := "()V", sig := { parameters := [], returnType := none }, accessFlags := 1, code := none }
def k1c1 : Code := { maxStack := 5, maxLocals := 23, code := code, exceptionTable := #[], attributes := #[] }
def k1m1 : Method := { name := "law", desc := "(IIIIJI)Z", sig := { parameters := [.int, .int, .int, .int, .long, .int], returnType := some .boolean }, accessFlags := 9, code := some k1c1 }
def k1c2 : Code := { maxStack := 2, maxLocals := 4, code := method_3_code, exceptionTable := #[], attributes := #[] }
def k1m2 : Method := { name := "intAfter", desc := "([IIII)I", sig := { parameters := [(.array .int), .int, .int, .int], returnType := some .int }, accessFlags := 10, code := some k1c2 }
def k1c3 : Code := { maxStack := 5, maxLocals := 4, code := method_4_code, exceptionTable := #[], attributes := #[] }
def k1m3 : Method := { name := "intsMoved", desc := "([I[III)Z", sig := { parameters := [(.array .int), (.array .int), .int, .int], returnType := some .boolean }, accessFlags := 10, code := some k1c3 }
def k1c4 : Code := { maxStack := 2, maxLocals := 4, code := method_5_code, exceptionTable := #[], attributes := #[] }
def k1m4 : Method := { name := "refAfter", desc := "([Ljava/lang/Object;III)Ljava/lang/Object;", sig := { parameters := [(.array (.object "java/lang/Object")), .int, .int, .int], returnType := some (.object "java/lang/Object") }, accessFlags := 10, code := some k1c4 }
def k1c5 : Code := { maxStack := 5, maxLocals := 4, code := method_6_code, exceptionTable := #[], attributes := #[] }
def k1m5 : Method := { name := "refsMoved", desc := "([Ljava/lang/Object;[Ljava/lang/Object;II)Z", sig := { parameters := [(.array (.object "java/lang/Object")), (.array (.object "java/lang/Object")), .int, .int], returnType := some .boolean }, accessFlags := 10, code := some k1c5 }
/-- com/example/sheaf/sheaf/CountedKeysMovePinLaw -/
def k1 : Class := { plain "com/example/sheaf/sheaf/CountedKeysMovePinLaw" (some 0) with
  accessFlags := 49
  interfaces := #[]
  cf := some (fileOf pool1 26 #[] #[{ accessFlags := 1, nameIndex := 5, descriptorIndex := 6, attributes := #[] }, { accessFlags := 9, nameIndex := 45, descriptorIndex := 46, attributes := #[] }, { accessFlags := 10, nameIndex := 37, descriptorIndex := 38, attributes := #[] }, { accessFlags := 10, nameIndex := 29, descriptorIndex := 30, attributes := #[] }, { accessFlags := 10, nameIndex := 41, descriptorIndex := 42, attributes := #[] }, { accessFlags := 10, nameIndex := 33, descriptorIndex := 34, attributes := #[] }] 49 2 #[] #[])
  fields := #[]
  methods := #[k1m0, k1m1, k1m2, k1m3, k1m4, k1m5]
  instanceTypes := #[]
  staticTypes := #[]
  resolved := Array.replicate 52 none
  statics := none }

def pool2 : Array CpInfo := pool [(1, .methodref 2 3), (0, .class_ 4), (0, .nameAndType 5 6), (0, u "java/lang/Object"), (0, u "<init>"), (0, u "()V"), (0, .fieldref 8 9), (0, .class_ 10), (0, .nameAndType 11 12), (0, u "com/example/sheaf/sheaf/CompactHash"), (0, u "NO_OBJECTS"), (0, u "[Ljava/lang/Object;"), (0, .fieldref 8 14), (0, .nameAndType 15 12), (0, u "keys"), (0, .fieldref 8 17), (0, .nameAndType 18 19), (0, u "NO_INTS"), (0, u "[I"), (0, .fieldref 8 21), (0, .nameAndType 22 19), (0, u "index"), (2, u "size"), (0, u "I"), (13, u "expected"), (22, u "used"), (9, u "REMOVED"), (0, u "Ljava/lang/Object;"), (42, u "EMPTY"), (2, u "DELETED"), (1, u "MIN_INDEX_LENGTH"), (1, u "MAX_INDEX_LENGTH"), (0, u "MIN_CAPACITY")] 31

def k2c0 : Code := { maxStack := 2, maxLocals := 1, code := prog_58_method_1_code, exceptionTable := #[], attributes := #[] }
def k2m0 : Method := { name := "<init>", desc := "()V", sig := { parameters := [], returnType := none }, accessFlags := 0, code := some k2c0 }
/-- com/example/sheaf/sheaf/CompactHash -/
def k2 : Class := { plain "com/example/sheaf/sheaf/CompactHash" (some 0) with
  accessFlags := 1056
  interfaces := #[]
  cf := some (fileOf pool2 8 #[] #[{ accessFlags := 0, nameIndex := 5, descriptorIndex := 6, attributes := #[] }] 1056 2 #[] #[{ accessFlags := 24, nameIndex := 11, descriptorIndex := 12, attributes := #[] }, { accessFlags := 24, nameIndex := 18, descriptorIndex := 19, attributes := #[] }, { accessFlags := 26, nameIndex := 73, descriptorIndex := 74, attributes := #[] }, { accessFlags := 26, nameIndex := 117, descriptorIndex := 26, attributes := #[] }, { accessFlags := 26, nameIndex := 120, descriptorIndex := 26, attributes := #[] }, { accessFlags := 26, nameIndex := 122, descriptorIndex := 26, attributes := #[] }, { accessFlags := 26, nameIndex := 124, descriptorIndex := 26, attributes := #[] }, { accessFlags := 26, nameIndex := 125, descriptorIndex := 26, attributes := #[] }, { accessFlags := 0, nameIndex := 15, descriptorIndex := 12, attributes := #[] }, { accessFlags := 0, nameIndex := 63, descriptorIndex := 26, attributes := #[] }, { accessFlags := 2, nameIndex := 22, descriptorIndex := 19, attributes := #[] }, { accessFlags := 2, nameIndex := 25, descriptorIndex := 26, attributes := #[] }, { accessFlags := 2, nameIndex := 40, descriptorIndex := 26, attributes := #[] }])
  fields := #[{ name := "NO_OBJECTS", type := (.array (.object "java/lang/Object")), accessFlags := 24, slot := 0, constantValue := 0 }, { name := "NO_INTS", type := (.array .int), accessFlags := 24, slot := 1, constantValue := 0 }, { name := "REMOVED", type := (.object "java/lang/Object"), accessFlags := 26, slot := 2, constantValue := 0 }, { name := "EMPTY", type := .int, accessFlags := 26, slot := 3, constantValue := 0 }, { name := "DELETED", type := .int, accessFlags := 26, slot := 4, constantValue := 0 }, { name := "MIN_INDEX_LENGTH", type := .int, accessFlags := 26, slot := 5, constantValue := 0 }, { name := "MAX_INDEX_LENGTH", type := .int, accessFlags := 26, slot := 6, constantValue := 0 }, { name := "MIN_CAPACITY", type := .int, accessFlags := 26, slot := 7, constantValue := 0 }, { name := "keys", type := (.array (.object "java/lang/Object")), accessFlags := 0, slot := 0, constantValue := 0 }, { name := "used", type := .int, accessFlags := 0, slot := 1, constantValue := 0 }, { name := "index", type := (.array .int), accessFlags := 2, slot := 2, constantValue := 0 }, { name := "size", type := .int, accessFlags := 2, slot := 3, constantValue := 0 }, { name := "expected", type := .int, accessFlags := 2, slot := 4, constantValue := 0 }]
  methods := #[k2m0]
  instanceTypes := #[(.array (.object "java/lang/Object")), .int, (.array .int), .int, .int]
  staticTypes := #[(.array (.object "java/lang/Object")), (.array .int), (.object "java/lang/Object"), .int, .int, .int, .int, .int]
  resolved := Array.replicate 157 none
  statics := some 0 }

def pool3 : Array CpInfo := pool [(1, .methodref 2 3), (0, .class_ 4), (0, .nameAndType 5 6), (0, u "com/example/sheaf/sheaf/CompactHash"), (0, u "<init>"), (0, u "()V"), (0, .fieldref 8 9), (0, .class_ 10), (0, .nameAndType 11 12), (0, u "com/example/sheaf/sheaf/CountedKeys"), (0, u "NO_INTS"), (0, u "[I"), (0, .fieldref 8 14), (0, .nameAndType 15 12), (0, u "counts"), (0, .fieldref 8 17), (0, .nameAndType 18 19), (0, u "groups"), (0, u "[Ljava/lang/Object;"), (0, .fieldref 8 21), (0, .nameAndType 22 12), (0, u "heads"), (50, u "move"), (0, u "(II)V")] 3

def k3c0 : Code := { maxStack := 2, maxLocals := 1, code := prog_69_method_1_code, exceptionTable := #[], attributes := #[] }
def k3m0 : Method := { name := "<init>", desc := "()V", sig := { parameters := [], returnType := none }, accessFlags := 0, code := some k3c0 }
def k3c1 : Code := { maxStack := 4, maxLocals := 3, code := prog_69_method_11_code, exceptionTable := #[], attributes := #[] }
def k3m1 : Method := { name := "move", desc := "(II)V", sig := { parameters := [.int, .int], returnType := none }, accessFlags := 0, code := some k3c1 }
/-- com/example/sheaf/sheaf/CountedKeys -/
def k3 : Class := { plain "com/example/sheaf/sheaf/CountedKeys" (some 2) with
  accessFlags := 48
  interfaces := #[]
  cf := some (fileOf pool3 8 #[] #[{ accessFlags := 0, nameIndex := 5, descriptorIndex := 6, attributes := #[] }, { accessFlags := 0, nameIndex := 73, descriptorIndex := 74, attributes := #[] }] 48 2 #[] #[{ accessFlags := 0, nameIndex := 15, descriptorIndex := 12, attributes := #[] }, { accessFlags := 0, nameIndex := 18, descriptorIndex := 19, attributes := #[] }, { accessFlags := 0, nameIndex := 22, descriptorIndex := 12, attributes := #[] }])
  fields := #[{ name := "counts", type := (.array .int), accessFlags := 0, slot := 5, constantValue := 0 }, { name := "groups", type := (.array (.object "java/lang/Object")), accessFlags := 0, slot := 6, constantValue := 0 }, { name := "heads", type := (.array .int), accessFlags := 0, slot := 7, constantValue := 0 }]
  methods := #[k3m0, k3m1]
  instanceTypes := #[(.array (.object "java/lang/Object")), .int, (.array .int), .int, .int, (.array .int), (.array (.object "java/lang/Object")), (.array .int)]
  staticTypes := #[]
  resolved := Array.replicate 78 none
  statics := none }

def pool4 : Array CpInfo := pool [(1, u "java/lang/Cloneable"), (0, .class_ 1), (0, u "java/lang/Object"), (0, .class_ 3)] 3

/-- java/lang/Cloneable -/
def k4 : Class := { plain "java/lang/Cloneable" (some 0) with
  accessFlags := 1537
  interfaces := #[]
  cf := some (fileOf pool4 2 #[] #[] 1537 4 #[] #[])
  fields := #[]
  methods := #[]
  instanceTypes := #[]
  staticTypes := #[]
  resolved := Array.replicate 8 none
  statics := none }

def pool5 : Array CpInfo := pool [(1, u "java/io/Serializable"), (0, .class_ 1), (0, u "java/lang/Object"), (0, .class_ 3)] 3

/-- java/io/Serializable -/
def k5 : Class := { plain "java/io/Serializable" (some 0) with
  accessFlags := 1537
  interfaces := #[]
  cf := some (fileOf pool5 2 #[] #[] 1537 4 #[] #[])
  fields := #[]
  methods := #[]
  instanceTypes := #[]
  staticTypes := #[]
  resolved := Array.replicate 8 none
  statics := none }

/-- the primitive byte -/
def k6 : Class := { plain "byte" none with kind := .primitive 'B', accessFlags := 0x411 }
/-- [B -/
def k7 : Class := { plain "[B" (some 0) with kind := .array 6 .byte, interfaces := #[4, 5], accessFlags := 1041 }

/-- the primitive int -/
def k8 : Class := { plain "int" none with kind := .primitive 'I', accessFlags := 0x411 }
/-- [I -/
def k9 : Class := { plain "[I" (some 0) with kind := .array 8 .int, interfaces := #[4, 5], accessFlags := 1041 }

/-- [Ljava/lang/Object; -/
def k10 : Class := { plain "[Ljava/lang/Object;" (some 0) with kind := .array 0 (.object "java/lang/Object"), interfaces := #[4, 5], accessFlags := 1041 }

def heap : Heap := #[{ cls := 2, slots := #[.ref 1, .ref 2, .null, .int 0, .int 0, .int 0, .int 0, .int 0], vm := .statics 2 },
  { cls := 10, slots := #[], vm := .none },
  { cls := 9, slots := #[], vm := .none }]
def classes : Array Class := #[k0, k1, k2, k3, k4, k5, k6, k7, k8, k9, k10]
def interned : List (Array UInt16 × Addr) := []
def slotsUsed : Nat := 8
def theMethod : MethodId := ⟨1, 1⟩
def args0 : Array Value := #[.int 1, .int 2, .int 3, .int 4, .long 5, .int 63]
def aboutOver (below : List Frame) : State where
  vm := { classes := classes, interned := interned.toArray }
  heap := heap
  slotsUsed := slotsUsed
  threads := #[{ frames := .invoking theMethod args0 :: below }]
def below0 : List Frame := [.native { method := ⟨0, 0⟩, args := #[] }]
def about1 : State := aboutOver below0
def p0 : Program := .bare "" "" ""
def e0 : Env := launch0.env 0 0 0
theorem w_frames : about1.frames = Frame.invoking theMethod args0 :: below0 := rfl
set_option maxRecDepth 65536 in
theorem w_args : argsFit about1.vm theMethod args0 = true := by decide +kernel
set_option maxRecDepth 65536 in
theorem w_heap : heapFits about1 = true := by decide +kernel
set_option maxRecDepth 65536 in
theorem w_runnable : about1.curStatus? = some .runnable := by decide +kernel
set_option maxRecDepth 65536 in
theorem w_alone : about1.alone = true := by decide +kernel
set_option maxRecDepth 65536 in
theorem w_named : about1.methodNamed? x = some theMethod := by decide +kernel
set_option maxRecDepth 65536 in
theorem w_hears : about1.hears theMethod below0 = true := by decide +kernel
set_option maxRecDepth 65536 in
theorem w_ripe : about1.ripe theMethod args0 below0 = true := by decide +kernel
theorem w_running : about1.status = .running := rfl
set_option maxRecDepth 65536 in
theorem w_room : about1.hasRoom e0.platform room_1 = true :=
  launch0.hasRoom_least _ room_1 (by decide +kernel) (by decide +kernel) (by decide +kernel) (by decide +kernel) (by decide +kernel) (by decide +kernel)
theorem allAtoms_all (ts : List Jvm.Cond) (a : Array Jvm.Value) (st : Jvm.State) : (allAtoms ts).before a st = ts.all (fun c => c.before a st) := by
  induction ts with
  | nil => rfl
  | cons c t ih =>
    show (Jvm.Cond.and c (allAtoms t)).before a st = _
    rw [Jvm.Cond.before_and, ih, List.all_cons]
def words1 : List Jvm.Cond := Jvm.Cond.code x code maxLocals ret :: tables_1
/-- a 'code' word, met by the world's own term for the bytes: nothing is compared byte by byte -/
theorem code_word {y : MethodName} {bytes : ByteArray} {mx : Nat} {rt : Option FieldType} {a : Array Value} {s : State} {m : MethodId} {meth : Method} {c : Code} (h1 : s.methodNamed? y = some m) (h2 : s.vm.method? m = some meth) (h3 : meth.code = some c) (h4 : c.code = bytes)
    (h5 : (c.maxLocals == mx && c.exceptionTable.isEmpty && decide (c.maxStack ≤ mostOperands) && decide (meth.sig.returnType = rt) && !meth.locks && decide (parseMethodDescriptor y.desc = some meth.sig)) = true) : (Jvm.Cond.code y bytes mx rt).before a s = true := by
  simp only [Bool.and_eq_true, beq_iff_eq, Bool.not_eq_true', decide_eq_true_eq] at h5
  obtain ⟨⟨⟨⟨⟨g1, g2⟩, g3⟩, g4⟩, g5⟩, g6⟩ := h5
  simp [Cond.before, Cond.holds, Cond.value, h1, h2, h3, h4, g1, g2, g3, g4, g5, g6]
def isCode : Jvm.Cond → Bool
  | .code _ _ _ _ => true
  | _ => false
theorem all_split {L : List Jvm.Cond} {P : Jvm.Cond → Bool} (h1 : L.all (fun c => isCode c || P c) = true) (h2 : ∀ c ∈ L.filter isCode, P c = true) : L.all P = true := by
  refine List.all_eq_true.mpr fun c hc => ?_
  have h := List.all_eq_true.mp h1 c hc
  rcases Bool.eq_false_or_eq_true (isCode c) with hi | hi
  · exact h2 c (List.mem_filter.mpr ⟨hc, hi⟩)
  · simpa [hi] using h
set_option maxRecDepth 65536 in
theorem w_c0 : (Jvm.Cond.code x code maxLocals ret).before args0 about1 = true := code_word (m := ⟨1, 1⟩) (meth := k1m1) (c := k1c1) (by decide +kernel) rfl rfl rfl (by decide +kernel)
set_option maxRecDepth 65536 in
theorem w_c1 : (Jvm.Cond.code ({ cls := "com/example/sheaf/sheaf/CountedKeys", name := "<init>", desc := "()V" } : Jvm.MethodName) prog_69_method_1_code (1 : Nat) (Option.none : Option Jvm.ClassFile.FieldType)).before args0 about1 = true := code_word (m := ⟨3, 0⟩) (meth := k3m0) (c := k3c0) (by decide +kernel) rfl rfl rfl (by decide +kernel)
set_option maxRecDepth 65536 in
theorem w_c2 : (Jvm.Cond.code ({ cls := "com/example/sheaf/sheaf/CompactHash", name := "<init>", desc := "()V" } : Jvm.MethodName) prog_58_method_1_code (1 : Nat) (Option.none : Option Jvm.ClassFile.FieldType)).before args0 about1 = true := code_word (m := ⟨2, 0⟩) (meth := k2m0) (c := k2c0) (by decide +kernel) rfl rfl rfl (by decide +kernel)
set_option maxRecDepth 65536 in
theorem w_c3 : (Jvm.Cond.code ({ cls := "java/lang/Object", name := "<init>", desc := "()V" } : Jvm.MethodName) object_method_1_code (1 : Nat) (Option.none : Option Jvm.ClassFile.FieldType)).before args0 about1 = true := code_word (m := ⟨0, 0⟩) (meth := k0m0) (c := k0c0) (by decide +kernel) rfl rfl rfl (by decide +kernel)
set_option maxRecDepth 65536 in
theorem w_c4 : (Jvm.Cond.code ({ cls := "com/example/sheaf/sheaf/CountedKeys", name := "move", desc := "(II)V" } : Jvm.MethodName) prog_69_method_11_code (3 : Nat) (Option.none : Option Jvm.ClassFile.FieldType)).before args0 about1 = true := code_word (m := ⟨3, 1⟩) (meth := k3m1) (c := k3c1) (by decide +kernel) rfl rfl rfl (by decide +kernel)
set_option maxRecDepth 65536 in
theorem w_c5 : (Jvm.Cond.code ({ cls := "com/example/sheaf/sheaf/CountedKeysMovePinLaw", name := "intsMoved", desc := "([I[III)Z" } : Jvm.MethodName) method_4_code (4 : Nat) (Option.some Jvm.ClassFile.FieldType.boolean)).before args0 about1 = true := code_word (m := ⟨1, 3⟩) (meth := k1m3) (c := k1c3) (by decide +kernel) rfl rfl rfl (by decide +kernel)
set_option maxRecDepth 65536 in
theorem w_c6 : (Jvm.Cond.code ({ cls := "com/example/sheaf/sheaf/CountedKeysMovePinLaw", name := "intAfter", desc := "([IIII)I" } : Jvm.MethodName) method_3_code (4 : Nat) (Option.some Jvm.ClassFile.FieldType.int)).before args0 about1 = true := code_word (m := ⟨1, 2⟩) (meth := k1m2) (c := k1c2) (by decide +kernel) rfl rfl rfl (by decide +kernel)
set_option maxRecDepth 65536 in
theorem w_c7 : (Jvm.Cond.code ({ cls := "com/example/sheaf/sheaf/CountedKeysMovePinLaw", name := "refsMoved", desc := "([Ljava/lang/Object;[Ljava/lang/Object;II)Z" } : Jvm.MethodName) method_6_code (4 : Nat) (Option.some Jvm.ClassFile.FieldType.boolean)).before args0 about1 = true := code_word (m := ⟨1, 5⟩) (meth := k1m5) (c := k1c5) (by decide +kernel) rfl rfl rfl (by decide +kernel)
set_option maxRecDepth 65536 in
theorem w_c8 : (Jvm.Cond.code ({ cls := "com/example/sheaf/sheaf/CountedKeysMovePinLaw", name := "refAfter", desc := "([Ljava/lang/Object;III)Ljava/lang/Object;" } : Jvm.MethodName) method_5_code (4 : Nat) (Option.some (Jvm.ClassFile.FieldType.object "java/lang/Object"))).before args0 about1 = true := code_word (m := ⟨1, 4⟩) (meth := k1m4) (c := k1c4) (by decide +kernel) rfl rfl rfl (by decide +kernel)
def codes1 : List Jvm.Cond := [Jvm.Cond.code x code maxLocals ret, Jvm.Cond.code ({ cls := "com/example/sheaf/sheaf/CountedKeys", name := "<init>", desc := "()V" } : Jvm.MethodName) prog_69_method_1_code (1 : Nat) (Option.none : Option Jvm.ClassFile.FieldType), Jvm.Cond.code ({ cls := "com/example/sheaf/sheaf/CompactHash", name := "<init>", desc := "()V" } : Jvm.MethodName) prog_58_method_1_code (1 : Nat) (Option.none : Option Jvm.ClassFile.FieldType), Jvm.Cond.code ({ cls := "java/lang/Object", name := "<init>", desc := "()V" } : Jvm.MethodName) object_method_1_code (1 : Nat) (Option.none : Option Jvm.ClassFile.FieldType), Jvm.Cond.code ({ cls := "com/example/sheaf/sheaf/CountedKeys", name := "move", desc := "(II)V" } : Jvm.MethodName) prog_69_method_11_code (3 : Nat) (Option.none : Option Jvm.ClassFile.FieldType), Jvm.Cond.code ({ cls := "com/example/sheaf/sheaf/CountedKeysMovePinLaw", name := "intsMoved", desc := "([I[III)Z" } : Jvm.MethodName) method_4_code (4 : Nat) (Option.some Jvm.ClassFile.FieldType.boolean), Jvm.Cond.code ({ cls := "com/example/sheaf/sheaf/CountedKeysMovePinLaw", name := "intAfter", desc := "([IIII)I" } : Jvm.MethodName) method_3_code (4 : Nat) (Option.some Jvm.ClassFile.FieldType.int), Jvm.Cond.code ({ cls := "com/example/sheaf/sheaf/CountedKeysMovePinLaw", name := "refsMoved", desc := "([Ljava/lang/Object;[Ljava/lang/Object;II)Z" } : Jvm.MethodName) method_6_code (4 : Nat) (Option.some Jvm.ClassFile.FieldType.boolean), Jvm.Cond.code ({ cls := "com/example/sheaf/sheaf/CountedKeysMovePinLaw", name := "refAfter", desc := "([Ljava/lang/Object;III)Ljava/lang/Object;" } : Jvm.MethodName) method_5_code (4 : Nat) (Option.some (Jvm.ClassFile.FieldType.object "java/lang/Object"))]
set_option maxRecDepth 65536 in
theorem codes_eq : words1.filter isCode = codes1 := rfl
theorem w_codes : ∀ c ∈ words1.filter isCode, c.before args0 about1 = true := by
  rw [codes_eq]
  intro c hc
  simp only [codes1, List.mem_cons, List.not_mem_nil, or_false] at hc
  rcases hc with rfl | rfl | rfl | rfl | rfl | rfl | rfl | rfl | rfl
  · exact w_c0
  · exact w_c1
  · exact w_c2
  · exact w_c3
  · exact w_c4
  · exact w_c5
  · exact w_c6
  · exact w_c7
  · exact w_c8
set_option maxRecDepth 65536 in
theorem w_t1 : (words1.take 24).all (fun c => isCode c || c.before args0 about1) = true := by decide +kernel
set_option maxRecDepth 65536 in
theorem w_t2 : ((words1.drop 24).take 24).all (fun c => isCode c || c.before args0 about1) = true := by decide +kernel
set_option maxRecDepth 65536 in
theorem w_t3 : ((words1.drop 24).drop 24).all (fun c => isCode c || c.before args0 about1) = true := by decide +kernel
theorem w_tables : (allAtoms (Jvm.Cond.code x code maxLocals ret :: tables_1)).before args0 about1 = true := by
  rw [allAtoms_all]
  show words1.all (fun c => c.before args0 about1) = true
  refine all_split ?_ w_codes
  rw [← List.take_append_drop 24 words1, List.all_append, w_t1, ← List.take_append_drop 24 (words1.drop 24), List.all_append, w_t2, w_t3]
  rfl
set_option maxRecDepth 65536 in
theorem w_case : (Jvm.Cond.and given_1 narrow_1).before args0 about1 = true := by decide +kernel
theorem w_applies : (headSpec (Jvm.Cond.code x code maxLocals ret :: tables_1) room_1).applies x e0.platform about1 = true :=
  (Spec.applies_iff w_frames).mpr ⟨w_running, w_runnable, w_alone, w_named, w_hears, w_ripe, w_room, w_tables⟩
theorem atStart : AtStart classFile x code maxLocals ret World_1 tables_1 room_1 Calls_1 rest_1 Pre_1 launch0 p0 e0 about1 theMethod args0 below0 :=
  ⟨lists_1, trivial, launch0.admits_env _ _ _, launch0.least_env, fairChoices_fair.cas, fairChoices_fair.clock, w_frames, w_args, w_heap, w_applies, trivial, trivial, w_case⟩
end start1
theorem witness_1 : WitnessClaimed_1 := ⟨start1.p0, start1.e0, start1.about1, start1.theMethod, start1.args0, start1.below0, start1.atStart⟩
end Jvm.Pilot.@@N@@
