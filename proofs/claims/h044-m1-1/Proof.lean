import JvmDerived
import JvmDerived.Pilot.@@N@@Statement
import JvmDerived.Pilot.@@N@@Code
set_option linter.unusedVariables false
set_option linter.unusedSimpArgs false
namespace Jvm.Pilot.@@N@@
open Jvm Jvm.ClassFile Sem Op Lib Jvm.Free Jvm.Stand Jvm.LawKit Jvm.RoadKit Bundle Jvm.Pilot.@@N@@.Jvm.D
section OwnKit
variable {p : Program} {l : Launch} {e : Env} {R : Room} {s : State} {m : MethodId} {args : Array Value} {below : List Frame} {meth : Method} {c : Code} {T : State} {locs : List Loc} {cells slots : Nat} {Z : State} {a0 : Array Value} {h h' h0 : Heap}
/-- the run comes, from the frame g over T, to an end of which F holds -/
def own_Go (tb : Tables) (e : Env) (below : List Frame) (F : State → Outcome → Prop) (T : State) (g : JFrame) : Prop := ∃ s₂ o, Steps tb e below (T.setTop g) s₂ ∧ F s₂ o
theorem own_st {tb : Tables} {F : State → Outcome → Prop} {T' : State} {g g' : JFrame} (st : ∀ t, Steps tb e below (T'.setTop g') t → Steps tb e below (T.setTop g) t) (k : own_Go tb e below F T' g') : own_Go tb e below F T g := by
  obtain ⟨a, o, h1, h2⟩ := k
  exact ⟨a, o, st a h1, h2⟩
/-- the end that a contract asks -/
def own_F (below : List Frame) (s : State) (Q : Option Value → Heap → List Loc → Prop) (C S : Nat) : State → Outcome → Prop := fun s₂ o => s₂.status = .running ∧ Ended s₂ below o ∧ ∃ v L, o = .returned v ∧ Q v s₂.heap L ∧ FrameEnd s o s₂ L C S
/-- what a body's walk knows of the body -/
def own_In (p : Program) (s : State) (m : MethodId) (meth : Method) (c : Code) (Z : State) (bytes : ByteArray) (maxL : Nat) (own nm : String) (ret : Option FieldType) : Prop := p.tables.exec = Jvm.exec ∧ c.code = bytes ∧ c.maxLocals = maxL ∧ s.vm.findClass own = some m.cls ∧ meth.name = nm ∧ meth.sig.returnType = ret ∧ meth.locks = false ∧ Z.Warmed39 s.vm
theorem own_enter {y : MethodName} {bytes : ByteArray} {maxL : Nat} {ret : Option FieldType} {ws : List Jvm.Cond} {rm : Room} {as' : Array Value} {Q : Option Value → Heap → List Loc → Prop} {C S : Nat} (hp : plainFor y = true)
    (body : ∀ (p : Program) (e : Env) (s : State) (m : MethodId) (below : List Frame) (meth : Method) (c : Code) (T : State), Stand p l e rm s m as' below meth c T [] 0 0 → own_In p s m meth c Z bytes maxL y.cls y.name ret → T.heap = h0 → own_Go p.tables e below (own_F below s Q C S) T (entryFrame m as' maxL)) :
    MetFree l y (head1 (Jvm.Cond.code y bytes maxL ret :: ws) rm) (fun a U => a = as' ∧ Z.Warmed39 U.vm ∧ U.heap = h0) (fun _ _ _ _ _ => True) (fun _ U o U' => ∃ v L, o = .returned v ∧ Q v U'.heap L ∧ FrameEnd U o U' L C S) := by
  refine MetFree.of_bodySF hp hisR ?_
  intro p e s m args below meth c s₁ Bd hml0 hP hK
  obtain ⟨rfl, hZ, hh⟩ := hP
  exact body p e s m below meth c s₁ (Stand.of_body Bd) ⟨Bd.exec, Bd.bytes, hml0, findClass_of_methodNamed Bd.named, (name_of_methodNamed Bd.named Bd.method).1, Bd.returns, Bd.notSynchronized, hZ⟩ (by rw [← hh, Bd.state]; rfl)
theorem own_cast {tb : Tables} {F : State → Outcome → Prop} {g g' : JFrame} (q : g = g') (k : own_Go tb e below F T g') : own_Go tb e below F T g := q ▸ k
/-- the end of a walk: a boolean, byte, char or short -/
theorem own_retN (X : Stand p l e R s m args below meth c T locs cells slots) (hx : p.tables.exec = Jvm.exec) {t : FieldType} (hret : meth.sig.returnType = some t) (ht : t = .boolean ∨ t = .byte ∨ t = .char ∨ t = .short) (hlk : meth.locks = false) {pc : Nat} {Ls : Array Slot} {z : Int32} {rest : List Value}
    (hd : decode c.code pc = .ok (.ireturn, 1)) {Q : Option Value → Heap → List Loc → Prop} {C S : Nat} (hQ : Q (some (.int (nar t z))) T.heap locs) (hC : cells ≤ C) (hS : slots ≤ S) : own_Go p.tables e below (own_F below s Q C S) T (mkF m pc Ls (.int z :: rest)) := by
  obtain ⟨fs, hr, hrun, hended, hW, hsame⟩ := X.leave (v := some (.int (nar t z))) (fun q => by rw [hret] at q; cases q)
  exact ⟨_, _, retN X hx hret ht hd hr, hrun, hended, _, _, rfl, hQ, ⟨_, rfl⟩, hW, hsame.mono hC hS⟩
theorem own_retO (X : Stand p l e R s m args below meth c T locs cells slots) (hx : p.tables.exec = Jvm.exec) {t : FieldType} (hret : meth.sig.returnType = some t) (hlk : meth.locks = false) {pc : Nat} {Ls : Array Slot} {w : Value} {i : Instr} {rest : List Value} (hn : narrow t w = w)
    (hi : (i = .ireturn ∧ (t = .int ∨ t = .boolean ∨ t = .byte ∨ t = .char ∨ t = .short) ∧ ∃ z, w = .int z) ∨ (i = .lreturn ∧ t = .long ∧ ∃ z, w = .long z) ∨ (i = .dreturn ∧ t = .double ∧ ∃ z, w = .double z) ∨ (i = .freturn ∧ t = .float ∧ ∃ z, w = .float z) ∨ (i = .areturn ∧ t.isReference = true ∧ w.isRef = true))
    (hd : decode c.code pc = .ok (i, 1)) {Q : Option Value → Heap → List Loc → Prop} {C S : Nat} (hQ : Q (some w) T.heap locs) (hC : cells ≤ C) (hS : slots ≤ S) : own_Go p.tables e below (own_F below s Q C S) T (mkF m pc Ls (w :: rest)) := by
  obtain ⟨fs, hr, hrun, hended, hW, hsame⟩ := X.leave (v := some w) (fun q => by rw [hret] at q; cases q)
  exact ⟨_, _, retOut X hx hret hn hi hd hr, hrun, hended, _, _, rfl, hQ, ⟨_, rfl⟩, hW, hsame.mono hC hS⟩
/-- a reference -/
theorem own_retA (X : Stand p l e R s m args below meth c T locs cells slots) (hx : p.tables.exec = Jvm.exec) {t : FieldType} (hret : meth.sig.returnType = some t) (ht : t.isReference = true) (hlk : meth.locks = false) {pc : Nat} {Ls : Array Slot} {w : Value} {rest : List Value} (hw : w.isRef = true)
    (hd : decode c.code pc = .ok (.areturn, 1)) {Q : Option Value → Heap → List Loc → Prop} {C S : Nat} (hQ : Q (some w) T.heap locs) (hC : cells ≤ C) (hS : slots ≤ S) : own_Go p.tables e below (own_F below s Q C S) T (mkF m pc Ls (w :: rest)) := by
  refine own_retO X hx hret hlk ?_ (Or.inr (Or.inr (Or.inr (Or.inr ⟨rfl, ht, hw⟩)))) hd hQ hC hS
  rcases ref_cases hw with rfl | ⟨a, rfl⟩ <;> cases t <;> first | rfl | (simp [FieldType.isReference] at ht)
/-- an int -/
theorem own_retI (X : Stand p l e R s m args below meth c T locs cells slots) (hx : p.tables.exec = Jvm.exec) (hret : meth.sig.returnType = some .int) (hlk : meth.locks = false) {pc : Nat} {Ls : Array Slot} {z : Int32} {rest : List Value}
    (hd : decode c.code pc = .ok (.ireturn, 1)) {Q : Option Value → Heap → List Loc → Prop} {C S : Nat} (hQ : Q (some (.int z)) T.heap locs) (hC : cells ≤ C) (hS : slots ≤ S) : own_Go p.tables e below (own_F below s Q C S) T (mkF m pc Ls (.int z :: rest)) :=
  own_retO X hx hret hlk rfl (Or.inl ⟨rfl, Or.inl rfl, z, rfl⟩) hd hQ hC hS
/-- nothing -/
theorem own_retV (X : Stand p l e R s m args below meth c T locs cells slots) (hx : p.tables.exec = Jvm.exec) (hret : meth.sig.returnType = none) (hlk : meth.locks = false) {pc : Nat} {Ls : Array Slot}
    (hd : decode c.code pc = .ok (.return_, 1)) {Q : Option Value → Heap → List Loc → Prop} {C S : Nat} (hQ : Q none T.heap locs) (hC : cells ≤ C) (hS : slots ≤ S) : own_Go p.tables e below (own_F below s Q C S) T (mkF m pc Ls []) := by
  obtain ⟨fs, hr, hrun, hended, hW, hsame⟩ := X.leave (v := none) (fun _ => rfl)
  exact ⟨_, _, X.returnOut hx hret hd hr, hrun, hended, _, _, rfl, hQ, ⟨_, rfl⟩, hW, hsame.mono hC hS⟩
/-- calls, each by its callee's contract -/
theorem own_callS (X : Stand p l e R s m args below meth c T locs cells slots) (hx : p.tables.exec = Jvm.exec) (hZ : Z.Warmed39 s.vm) {own : String} {index : Nat} {y : MethodName} {bytes : ByteArray} {maxL : Nat} {ret : Option FieldType} (hown : s.vm.findClass own = some m.cls)
    (w1 : (Jvm.Cond.methodLink own index y).before a0 Z = true) (w2 : (Jvm.Cond.static y).before a0 Z = true) (w3 : (Jvm.Cond.initialized y.cls).before a0 Z = true) (w4 : (Jvm.Cond.code y bytes maxL ret).before a0 Z = true) (hy : y.cls ≠ "java/lang/invoke/MethodHandle" ∧ y.cls ≠ "java/lang/invoke/VarHandle")
    {rm : Room} {as' : Array Value} {Q : Option Value → Heap → List Loc → Prop} (hM : MetFree l y (head1 [Jvm.Cond.code y bytes maxL ret] rm) (fun a U => a = as' ∧ Z.Warmed39 U.vm ∧ U.heap = h) (fun _ _ _ _ _ => True) (fun _ U o U' => ∃ v L, o = .returned v ∧ Q v U'.heap L ∧ FrameEnd U o U' L rm.cells rm.slots))
    (eT : T.heap = h) {g : JFrame} (hg : g.method = m) (hsize : g.locals.size = c.maxLocals) {argsL rest : List Value} (hlen : ∀ sig, parseMethodDescriptor y.desc = some sig → argsL.length = sig.parameters.length) (hstack : g.stack = argsL.reverse ++ rest) (has : argsL.toArray = as') {W : Nat} (hW : 2 * g.monitorRoom + (rest.map fun v => v.category).sum ≤ W)
    (hd : decode c.code g.pc = .ok (.invokestatic index, 3)) (hf : rm.frames + 1 ≤ R.frames) (hl : W + (maxL + 11) + rm.locals ≤ R.locals) (hc : cells + rm.cells ≤ R.cells) (hs : slots + rm.slots ≤ R.slots) :
    ∃ v T' L, Q v T'.heap L ∧ Stand p l e R s m args below meth c T' (locs ++ L) (cells + rm.cells) (slots + rm.slots) ∧ ∀ t, Steps p.tables e below (T'.setTop { g with pc := g.pc + 3, stack := v.toList ++ rest }) t → Steps p.tables e below (T.setTop g) t := by
  obtain ⟨v, vm₁, ⟨T', L', k', n'⟩, -, X', ⟨L, hQ, l1, y1, z1⟩, st⟩ := Jvm.LawKit.callS X hx (y := y) hown (mvT hZ w1) (mvT hZ w2) (mvT hZ w3) (mvT hZ w4) hy (backOf (W := W) hM hZ w4 w3 hf hl) hg hsize (argsL := argsL) (rest := rest) hlen hstack hW hd (fun _ _ => ⟨has, eT, hc, hs⟩)
  dsimp only [Pt.U, Pt.locs, Pt.cells, Pt.slots] at X' l1 y1 z1 st hQ
  subst l1 y1 z1
  exact ⟨v, T', L, hQ, X', st⟩
theorem own_callI (X : Stand p l e R s m args below meth c T locs cells slots) (hx : p.tables.exec = Jvm.exec) (hZ : Z.Warmed39 s.vm) {own : String} {index : Nat} {y : MethodName} {bytes : ByteArray} {maxL : Nat} (hn : y.name = "<init>") (hown : s.vm.findClass own = some m.cls)
    (w1 : (Jvm.Cond.methodLink own index y).before a0 Z = true) (w2 : (Jvm.Cond.instanceMethod y).before a0 Z = true) (w3 : (Jvm.Cond.initialized y.cls).before a0 Z = true) (w4 : (Jvm.Cond.code y bytes maxL none).before a0 Z = true) (hy : y.cls ≠ "java/lang/invoke/MethodHandle" ∧ y.cls ≠ "java/lang/invoke/VarHandle")
    {rm : Room} {as' : Array Value} {Q : Option Value → Heap → List Loc → Prop} (hM : MetFree l y (head1 [Jvm.Cond.code y bytes maxL none] rm) (fun a U => a = as' ∧ Z.Warmed39 U.vm ∧ U.heap = h) (fun _ _ _ _ _ => True) (fun _ U o U' => ∃ v L, o = .returned v ∧ Q v U'.heap L ∧ FrameEnd U o U' L rm.cells rm.slots))
    (eT : T.heap = h) {g : JFrame} (hg : g.method = m) (hsize : g.locals.size = c.maxLocals) {a : Addr} {argsL rest : List Value} (hlen : ∀ sig, parseMethodDescriptor y.desc = some sig → argsL.length = sig.parameters.length) (hstack : g.stack = argsL.reverse ++ .ref a :: rest) (has : (.ref a :: argsL).toArray = as') {W : Nat} (hW : 2 * g.monitorRoom + (rest.map fun v => v.category).sum ≤ W)
    (hd : decode c.code g.pc = .ok (.invokespecial index, 3)) (hf : rm.frames + 1 ≤ R.frames) (hl : W + (maxL + 11) + rm.locals ≤ R.locals) (hc : cells + rm.cells ≤ R.cells) (hs : slots + rm.slots ≤ R.slots) :
    ∃ v T' L, Q v T'.heap L ∧ Stand p l e R s m args below meth c T' (locs ++ L) (cells + rm.cells) (slots + rm.slots) ∧ ∀ t, Steps p.tables e below (T'.setTop { g with pc := g.pc + 3, stack := v.toList ++ rest }) t → Steps p.tables e below (T.setTop g) t := by
  obtain ⟨v, vm₁, ⟨T', L', k', n'⟩, -, X', ⟨L, hQ, l1, y1, z1⟩, st⟩ := X.specialBack hx (y := y) hn hown (mvT hZ w1) (mvT hZ w2) (mvT hZ w4) hy (backOf (W := W) hM hZ w4 w3 hf hl) hg hsize (Steps.refl _) (a := a) (argsL := argsL) (rest := rest) hlen hstack hW hd (fun _ _ => ⟨has, eT, hc, hs⟩)
  dsimp only [Pt.U, Pt.locs, Pt.cells, Pt.slots] at X' l1 y1 z1 st hQ
  subst l1 y1 z1
  exact ⟨v, T', L, hQ, X', fun t k => st.trans k⟩
theorem own_callV (X : Stand p l e R s m args below meth c T locs cells slots) (hx : p.tables.exec = Jvm.exec) (hZ : Z.Warmed39 s.vm) {own C : String} {index : Nat} {y : MethodName} {bytes : ByteArray} {maxL : Nat} {ret : Option FieldType} (hown : s.vm.findClass own = some m.cls)
    (w1 : (Jvm.Cond.methodLink own index y).before a0 Z = true) (w2 : (Jvm.Cond.declares y).before a0 Z = true) (w3 : (Jvm.Cond.selects C y y).before a0 Z = true) (w5 : (Jvm.Cond.instanceMethod y).before a0 Z = true) (w6 : (Jvm.Cond.initialized y.cls).before a0 Z = true) (w4 : (Jvm.Cond.code y bytes maxL ret).before a0 Z = true) (hy : y.cls ≠ "java/lang/invoke/MethodHandle" ∧ y.cls ≠ "java/lang/invoke/VarHandle")
    {rm : Room} {as' : Array Value} {Q : Option Value → Heap → List Loc → Prop} (hM : MetFree l y (head1 [Jvm.Cond.code y bytes maxL ret] rm) (fun a U => a = as' ∧ Z.Warmed39 U.vm ∧ U.heap = h) (fun _ _ _ _ _ => True) (fun _ U o U' => ∃ v L, o = .returned v ∧ Q v U'.heap L ∧ FrameEnd U o U' L rm.cells rm.slots))
    (eT : T.heap = h) {a : Addr} (E : Exa Z h a C) {g : JFrame} (hg : g.method = m) (hsize : g.locals.size = c.maxLocals) {argsL rest : List Value} (hlen : ∀ sig, parseMethodDescriptor y.desc = some sig → argsL.length = sig.parameters.length) (hstack : g.stack = argsL.reverse ++ .ref a :: rest) (has : (.ref a :: argsL).toArray = as') {W : Nat} (hW : 2 * g.monitorRoom + (rest.map fun v => v.category).sum ≤ W)
    (hd : decode c.code g.pc = .ok (.invokevirtual index, 3)) (hf : rm.frames + 1 ≤ R.frames) (hl : W + (maxL + 11) + rm.locals ≤ R.locals) (hc : cells + rm.cells ≤ R.cells) (hs : slots + rm.slots ≤ R.slots) :
    ∃ v T' L, Q v T'.heap L ∧ Stand p l e R s m args below meth c T' (locs ++ L) (cells + rm.cells) (slots + rm.slots) ∧ ∀ t, Steps p.tables e below (T'.setTop { g with pc := g.pc + 3, stack := v.toList ++ rest }) t → Steps p.tables e below (T.setTop g) t := by
  obtain ⟨cq, kq, qa, qb, qc⟩ := isOf hZ eT E
  obtain ⟨v, vm₁, ⟨T', L', k', n'⟩, -, X', ⟨L, hQ, l1, y1, z1⟩, st⟩ := X.virtualBack hx (y := y) (z := y) hown (mvT hZ w1) (mvT hZ w2) (notFace_of_selects (args := #[]) (mvT hZ w3)) (mvT hZ w3) (mvT hZ w5) hy (backOf (W := W) hM hZ w4 w6 hf hl) qa qc hg hsize (Steps.refl _) (argsL := argsL) (rest := rest) hlen hstack hW hd (fun _ _ => ⟨has, eT, hc, hs⟩)
  dsimp only [Pt.U, Pt.locs, Pt.cells, Pt.slots] at X' l1 y1 z1 st hQ
  subst l1 y1 z1
  exact ⟨v, T', L, hQ, X', fun t k => st.trans k⟩
/-- a method that a class above declares -/
theorem own_callU (X : Stand p l e R s m args below meth c T locs cells slots) (hx : p.tables.exec = Jvm.exec) (hZ : Z.Warmed39 s.vm) {own C owner : String} {index : Nat} {x y : MethodName} {bytes : ByteArray} {maxL : Nat} {ret : Option FieldType} (hown : s.vm.findClass own = some m.cls)
    (w1 : (Jvm.Cond.methodLink own index x).before a0 Z = true) (w0 : (Jvm.Cond.sameMethod x.cls owner x.name x.desc).before a0 Z = true) (w2 : (Jvm.Cond.declares ⟨owner, x.name, x.desc⟩).before a0 Z = true) (hy : owner ≠ "java/lang/invoke/MethodHandle" ∧ owner ≠ "java/lang/invoke/VarHandle") (w3 : (Jvm.Cond.selects C x y).before a0 Z = true) (w5 : (Jvm.Cond.instanceMethod y).before a0 Z = true) (w6 : (Jvm.Cond.initialized y.cls).before a0 Z = true) (w4 : (Jvm.Cond.code y bytes maxL ret).before a0 Z = true)
    {rm : Room} {as' : Array Value} {Q : Option Value → Heap → List Loc → Prop} (hM : MetFree l y (head1 [Jvm.Cond.code y bytes maxL ret] rm) (fun a U => a = as' ∧ Z.Warmed39 U.vm ∧ U.heap = h) (fun _ _ _ _ _ => True) (fun _ U o U' => ∃ v L, o = .returned v ∧ Q v U'.heap L ∧ FrameEnd U o U' L rm.cells rm.slots))
    (eT : T.heap = h) {a : Addr} (E : Exa Z h a C) {g : JFrame} (hg : g.method = m) (hsize : g.locals.size = c.maxLocals) {argsL rest : List Value} (hlen : ∀ sig, parseMethodDescriptor x.desc = some sig → argsL.length = sig.parameters.length) (hstack : g.stack = argsL.reverse ++ .ref a :: rest) (has : (.ref a :: argsL).toArray = as') {W : Nat} (hW : 2 * g.monitorRoom + (rest.map fun v => v.category).sum ≤ W)
    (hd : decode c.code g.pc = .ok (.invokevirtual index, 3)) (hf : rm.frames + 1 ≤ R.frames) (hl : W + (maxL + 11) + rm.locals ≤ R.locals) (hc : cells + rm.cells ≤ R.cells) (hs : slots + rm.slots ≤ R.slots) :
    ∃ v T' L, Q v T'.heap L ∧ Stand p l e R s m args below meth c T' (locs ++ L) (cells + rm.cells) (slots + rm.slots) ∧ ∀ t, Steps p.tables e below (T'.setTop { g with pc := g.pc + 3, stack := v.toList ++ rest }) t → Steps p.tables e below (T.setTop g) t := by
  obtain ⟨cq, kq, qa, qb, qc⟩ := isOf hZ eT E
  obtain ⟨v, vm₁, ⟨T', L', k', n'⟩, -, X', ⟨L, hQ, l1, y1, z1⟩, st⟩ := X.virtualBackUp hx (x := x) (y := y) hown (mvT hZ w1) (mvT hZ w0) (mvT hZ w2) hy (mvT hZ w3) (mvT hZ w5) (backOf (W := W) hM hZ w4 w6 hf hl) qa qc hg hsize (Steps.refl _) (argsL := argsL) (rest := rest) hlen hstack hW hd (fun _ _ => ⟨has, eT, hc, hs⟩)
  dsimp only [Pt.U, Pt.locs, Pt.cells, Pt.slots] at X' l1 y1 z1 st hQ
  subst l1 y1 z1
  exact ⟨v, T', L, hQ, X', fun t k => st.trans k⟩
/-- heaps -/
theorem own_extr (h : Heap) : Ext h h := ⟨Nat.le_refl _, fun _ _ q => q⟩
theorem own_extt (O : Ext h0 h) (E : Ext h h') : Ext h0 h' := ⟨Nat.le_trans O.1 E.1, fun a c q => E.2 a c (O.2 a c q)⟩
theorem own_extw (O : Ext h0 h) {a : Addr} {sl : Nat} {v : Value} (W : Wr h h' a sl v) (q : h0.size ≤ a) : Ext h0 h' :=
  ⟨Nat.le_trans O.1 (Keep.of_wr W).1, fun x c r => (Keep.of_wr W).2.1 x c (O.2 x c r) (fun z => by cases List.mem_singleton.mp z; exact absurd (Array.getElem?_eq_some_iff.mp r).1 (Nat.not_lt.mpr q))⟩
theorem own_extk (O : Ext h0 h) {a : Addr} (K : Keep h h' [a]) (q : h0.size ≤ a) : Ext h0 h' :=
  ⟨Nat.le_trans O.1 K.1, fun x c r => K.2.1 x c (O.2 x c r) (fun z => by cases List.mem_singleton.mp z; exact absurd (Array.getElem?_eq_some_iff.mp r).1 (Nat.not_lt.mpr q))⟩
/-- arrays: a store and a load by the array's fact -/
theorem own_stZ (X : Stand p l e R s m args below meth c T locs cells slots) (hx : p.tables.exec = Jvm.exec) (hZ : Z.Warmed39 s.vm) (eT : T.heap = h) {a : Addr} {k : ClassId} {n : Int32} {vs : List Value} {dv : Value} (V : Arv Z h a k .boolean n vs dv) {j x : Int32} (hj : ¬ j < 0 ∧ j < n) (i : Nat) (hi : j.toNatClampNeg = i) (hil : i < vs.length) {g : JFrame} (hg : g.method = m) {rest : List Value} (hs : g.stack = .int x :: .int j :: .ref a :: rest) (hd : decode c.code g.pc = .ok (.bastore, 1)) :
    ∃ T' h', Stand p l e R s m args below meth c T' (locs ++ [⟨a, j.toNatClampNeg⟩]) cells slots ∧ T'.heap = h' ∧ Wr h h' a j.toNatClampNeg (.int (nar .boolean x)) ∧ Arv Z h' a k .boolean n (vs.set i (.int (nar .boolean x))) dv ∧ ∀ t, Steps p.tables e below (T'.setTop { g with pc := g.pc + 1, stack := rest }) t → Steps p.tables e below (T.setTop g) t := by
  obtain ⟨cl, A, q1, S1, N1, H1, G1⟩ := V
  obtain ⟨T', h', X', e', W', st⟩ := stZ X hx hZ eT A (j := j) (inb_of S1 hj) hg hs hd
  exact ⟨T', h', X', e', W', Arv.set A q1 S1 N1 H1 G1 (fits_nar_bool x) W' i hi hil, st⟩
theorem own_stB (X : Stand p l e R s m args below meth c T locs cells slots) (hx : p.tables.exec = Jvm.exec) (hZ : Z.Warmed39 s.vm) (eT : T.heap = h) {a : Addr} {k : ClassId} {n : Int32} {vs : List Value} {dv : Value} (V : Arv Z h a k .byte n vs dv) {j x : Int32} (hj : ¬ j < 0 ∧ j < n) (i : Nat) (hi : j.toNatClampNeg = i) (hil : i < vs.length) {g : JFrame} (hg : g.method = m) {rest : List Value} (hs : g.stack = .int x :: .int j :: .ref a :: rest) (hd : decode c.code g.pc = .ok (.bastore, 1)) :
    ∃ T' h', Stand p l e R s m args below meth c T' (locs ++ [⟨a, j.toNatClampNeg⟩]) cells slots ∧ T'.heap = h' ∧ Wr h h' a j.toNatClampNeg (.int (nar .byte x)) ∧ Arv Z h' a k .byte n (vs.set i (.int (nar .byte x))) dv ∧ ∀ t, Steps p.tables e below (T'.setTop { g with pc := g.pc + 1, stack := rest }) t → Steps p.tables e below (T.setTop g) t := by
  obtain ⟨cl, A, q1, S1, N1, H1, G1⟩ := V
  obtain ⟨T', h', X', e', W', st⟩ := stB X hx hZ eT A (j := j) (inb_of S1 hj) hg hs hd
  exact ⟨T', h', X', e', W', Arv.set A q1 S1 N1 H1 G1 (fits_nar_byte x) W' i hi hil, st⟩
theorem own_stI (X : Stand p l e R s m args below meth c T locs cells slots) (hx : p.tables.exec = Jvm.exec) (hZ : Z.Warmed39 s.vm) (eT : T.heap = h) {a : Addr} {k : ClassId} {n : Int32} {vs : List Value} {dv : Value} (V : Arv Z h a k .int n vs dv) {j x : Int32} (hj : ¬ j < 0 ∧ j < n) (i : Nat) (hi : j.toNatClampNeg = i) (hil : i < vs.length) {g : JFrame} (hg : g.method = m) {rest : List Value} (hs : g.stack = .int x :: .int j :: .ref a :: rest) (hd : decode c.code g.pc = .ok (.iastore, 1)) :
    ∃ T' h', Stand p l e R s m args below meth c T' (locs ++ [⟨a, j.toNatClampNeg⟩]) cells slots ∧ T'.heap = h' ∧ Wr h h' a j.toNatClampNeg (.int x) ∧ Arv Z h' a k .int n (vs.set i (.int x)) dv ∧ ∀ t, Steps p.tables e below (T'.setTop { g with pc := g.pc + 1, stack := rest }) t → Steps p.tables e below (T.setTop g) t := by
  obtain ⟨cl, A, q1, S1, N1, H1, G1⟩ := V
  obtain ⟨T', h', X', e', W', st⟩ := stI X hx hZ eT A (j := j) (inb_of S1 hj) hg hs hd
  exact ⟨T', h', X', e', W', Arv.set A q1 S1 N1 H1 G1 rfl W' i hi hil, st⟩
theorem own_stC (X : Stand p l e R s m args below meth c T locs cells slots) (hx : p.tables.exec = Jvm.exec) (hZ : Z.Warmed39 s.vm) (eT : T.heap = h) {a : Addr} {k : ClassId} {n : Int32} {vs : List Value} {dv : Value} (V : Arv Z h a k .char n vs dv) {j x : Int32} (hj : ¬ j < 0 ∧ j < n) (i : Nat) (hi : j.toNatClampNeg = i) (hil : i < vs.length) {g : JFrame} (hg : g.method = m) {rest : List Value} (hs : g.stack = .int x :: .int j :: .ref a :: rest) (hd : decode c.code g.pc = .ok (.castore, 1)) :
    ∃ T' h', Stand p l e R s m args below meth c T' (locs ++ [⟨a, j.toNatClampNeg⟩]) cells slots ∧ T'.heap = h' ∧ Wr h h' a j.toNatClampNeg (.int (nar .char x)) ∧ Arv Z h' a k .char n (vs.set i (.int (nar .char x))) dv ∧ ∀ t, Steps p.tables e below (T'.setTop { g with pc := g.pc + 1, stack := rest }) t → Steps p.tables e below (T.setTop g) t := by
  obtain ⟨cl, A, q1, S1, N1, H1, G1⟩ := V
  obtain ⟨T', h', X', e', W', st⟩ := stC X hx hZ eT A (j := j) (inb_of S1 hj) hg hs hd
  exact ⟨T', h', X', e', W', Arv.set A q1 S1 N1 H1 G1 (fits_nar_char x) W' i hi hil, st⟩
theorem own_stR (X : Stand p l e R s m args below meth c T locs cells slots) (hx : p.tables.exec = Jvm.exec) (hZ : Z.Warmed39 s.vm) (eT : T.heap = h) {a : Addr} {k : ClassId} {ty : FieldType} {n : Int32} {vs : List Value} {dv : Value} (V : Arv Z h a k ty n vs dv) (hty : ty.isReference = true) {j : Int32} {v : Value} (hv : fits ty v = true) (hj : ¬ j < 0 ∧ j < n) (i : Nat) (hi : j.toNatClampNeg = i) (hil : i < vs.length) (F : ∀ cl : Cell, Arr Z h a cl ty → cl.cls = k → Sto Z h a v) {g : JFrame} (hg : g.method = m) {rest : List Value} (hs : g.stack = v :: .int j :: .ref a :: rest) (hd : decode c.code g.pc = .ok (.aastore, 1)) :
    ∃ T' h', Stand p l e R s m args below meth c T' (locs ++ [⟨a, j.toNatClampNeg⟩]) cells slots ∧ T'.heap = h' ∧ Wr h h' a j.toNatClampNeg v ∧ Arv Z h' a k ty n (vs.set i v) dv ∧ ∀ t, Steps p.tables e below (T'.setTop { g with pc := g.pc + 1, stack := rest }) t → Steps p.tables e below (T.setTop g) t := by
  obtain ⟨cl, A, q1, S1, N1, H1, G1⟩ := V
  obtain ⟨T', h', X', e', W', st⟩ := stR X hx hZ eT A (j := j) (inb_of S1 hj) hty (F cl A q1) hg hs hd
  exact ⟨T', h', X', e', W', Arv.set A q1 S1 N1 H1 G1 hv W' i hi hil, st⟩
theorem own_ldZ (X : Stand p l e R s m args below meth c T locs cells slots) (hx : p.tables.exec = Jvm.exec) (hZ : Z.Warmed39 s.vm) (eT : T.heap = h) {a : Addr} {k : ClassId} {n : Int32} {vs : List Value} {dv v : Value} (V : Arv Z h a k .boolean n vs dv) {j : Int32} (hj : ¬ j < 0 ∧ j < n) (hv : vs.getD j.toNatClampNeg dv = v) {g : JFrame} (hg : g.method = m) {rest : List Value} (hs : g.stack = .int j :: .ref a :: rest) (hd : decode c.code g.pc = .ok (.baload, 1)) :
    ∀ t, Steps p.tables e below (T.setTop { g with pc := g.pc + 1, stack := v :: rest }) t → Steps p.tables e below (T.setTop g) t := by
  obtain ⟨cl, A, q1, S1, N1, H1, G1⟩ := V
  exact X.baloadBooleans hx (by rw [eT]; exact A.1) (State.isArrayOf_alike hZ.alike A.2.1) A.2.2 (inb_of S1 hj) (H1.at (inb_of S1 hj) hv) hg hs hd
theorem own_ldB (X : Stand p l e R s m args below meth c T locs cells slots) (hx : p.tables.exec = Jvm.exec) (hZ : Z.Warmed39 s.vm) (eT : T.heap = h) {a : Addr} {k : ClassId} {n : Int32} {vs : List Value} {dv v : Value} (V : Arv Z h a k .byte n vs dv) {j : Int32} (hj : ¬ j < 0 ∧ j < n) (hv : vs.getD j.toNatClampNeg dv = v) {g : JFrame} (hg : g.method = m) {rest : List Value} (hs : g.stack = .int j :: .ref a :: rest) (hd : decode c.code g.pc = .ok (.baload, 1)) :
    ∀ t, Steps p.tables e below (T.setTop { g with pc := g.pc + 1, stack := v :: rest }) t → Steps p.tables e below (T.setTop g) t := by
  obtain ⟨cl, A, q1, S1, N1, H1, G1⟩ := V
  exact X.baloadBytes hx (by rw [eT]; exact A.1) (State.isArrayOf_alike hZ.alike A.2.1) A.2.2 (inb_of S1 hj) (H1.at (inb_of S1 hj) hv) hg hs hd
theorem own_ldI (X : Stand p l e R s m args below meth c T locs cells slots) (hx : p.tables.exec = Jvm.exec) (hZ : Z.Warmed39 s.vm) (eT : T.heap = h) {a : Addr} {k : ClassId} {n : Int32} {vs : List Value} {dv v : Value} (V : Arv Z h a k .int n vs dv) {j : Int32} (hj : ¬ j < 0 ∧ j < n) (hv : vs.getD j.toNatClampNeg dv = v) {g : JFrame} (hg : g.method = m) {rest : List Value} (hs : g.stack = .int j :: .ref a :: rest) (hd : decode c.code g.pc = .ok (.iaload, 1)) :
    ∀ t, Steps p.tables e below (T.setTop { g with pc := g.pc + 1, stack := v :: rest }) t → Steps p.tables e below (T.setTop g) t := by
  obtain ⟨cl, A, q1, S1, N1, H1, G1⟩ := V
  exact X.iaload hx (by rw [eT]; exact A.1) (State.isArrayOf_alike hZ.alike A.2.1) A.2.2 (inb_of S1 hj) (H1.at (inb_of S1 hj) hv) hg hs hd
theorem own_ldC (X : Stand p l e R s m args below meth c T locs cells slots) (hx : p.tables.exec = Jvm.exec) (hZ : Z.Warmed39 s.vm) (eT : T.heap = h) {a : Addr} {k : ClassId} {n : Int32} {vs : List Value} {dv v : Value} (V : Arv Z h a k .char n vs dv) {j : Int32} (hj : ¬ j < 0 ∧ j < n) (hv : vs.getD j.toNatClampNeg dv = v) {g : JFrame} (hg : g.method = m) {rest : List Value} (hs : g.stack = .int j :: .ref a :: rest) (hd : decode c.code g.pc = .ok (.caload, 1)) :
    ∀ t, Steps p.tables e below (T.setTop { g with pc := g.pc + 1, stack := v :: rest }) t → Steps p.tables e below (T.setTop g) t := by
  obtain ⟨cl, A, q1, S1, N1, H1, G1⟩ := V
  exact X.caload hx (by rw [eT]; exact A.1) (State.isArrayOf_alike hZ.alike A.2.1) A.2.2 (inb_of S1 hj) (H1.at (inb_of S1 hj) hv) hg hs hd
theorem own_ldR (X : Stand p l e R s m args below meth c T locs cells slots) (hx : p.tables.exec = Jvm.exec) (hZ : Z.Warmed39 s.vm) (eT : T.heap = h) {a : Addr} {k : ClassId} {ty : FieldType} {n : Int32} {vs : List Value} {dv v : Value} (V : Arv Z h a k ty n vs dv) (hty : ty.isReference = true) {j : Int32} (hj : ¬ j < 0 ∧ j < n) (hv : vs.getD j.toNatClampNeg dv = v) {g : JFrame} (hg : g.method = m) {rest : List Value} (hs : g.stack = .int j :: .ref a :: rest) (hd : decode c.code g.pc = .ok (.aaload, 1)) :
    ∀ t, Steps p.tables e below (T.setTop { g with pc := g.pc + 1, stack := v :: rest }) t → Steps p.tables e below (T.setTop g) t := by
  obtain ⟨cl, A, q1, S1, N1, H1, G1⟩ := V
  exact X.aaload hx (by rw [eT]; exact A.1) (State.isArrayOf_alike hZ.alike A.2.1) hty A.2.2 (inb_of S1 hj) (H1.at (inb_of S1 hj) hv) hg hs hd
theorem own_len (X : Stand p l e R s m args below meth c T locs cells slots) (hx : p.tables.exec = Jvm.exec) (hZ : Z.Warmed39 s.vm) (eT : T.heap = h) {a : Addr} {k : ClassId} {ty : FieldType} {n : Int32} {vs : List Value} {dv : Value} (V : Arv Z h a k ty n vs dv) {g : JFrame} (hg : g.method = m) {rest : List Value} (hs : g.stack = .ref a :: rest) (hd : decode c.code g.pc = .ok (.arraylength, 1)) :
    ∀ t, Steps p.tables e below (T.setTop { g with pc := g.pc + 1, stack := .int n :: rest }) t → Steps p.tables e below (T.setTop g) t := by
  obtain ⟨cl, A, q1, S1, N1, H1, G1⟩ := V
  intro t k
  refine X.arraylength hx (by rw [eT]; exact A.1) (State.isArrayOf_alike hZ.alike A.2.1) hg hs hd t ?_
  rw [len_of S1 N1]
  exact k
end OwnKit
theorem own_eqi {t : Term} {n : Int32} {args : Array Value} {s : State} (h : (Jvm.Cond.eq t (.int n)).value args s none s [] = some true) : t.eval args s none [] s = some (.int n) := by
  obtain ⟨x, y, h1, h2, h3, -⟩ := cmp_v (Or.inl h)
  cases (Term.int_eval n).symm.trans h2
  cases x <;> simp [Kin, Value.isRef] at h3
  rw [h1]
  have q := h
  simp [Jvm.Cond.value, h1, Term.int_eval] at q
  rw [q]
theorem own_lenw {t : Term} {n : Int32} {args : Array Value} {s : State} {x : Addr} {cl : Cell} {ty : FieldType} (h : (Jvm.Cond.eq (Term.length t) (.int n)).value args s none s [] = some true) (ht : t.eval args s none [] s = some (.ref x)) (A : Arr s s.heap x cl ty) : cl.slots.size < 2 ^ 31 ∧ cl.slots.size.toInt32 = n := by
  obtain ⟨b, cell, e1, e2, e4⟩ := Term.length_spec (own_eqi h)
  obtain rfl : x = b := Value.ref.inj (Option.some.inj (ht.symm.trans e1))
  obtain rfl : cl = cell := Option.some.inj ((A.fin (Vm.Alike.refl _)).symm.trans e2)
  exact ⟨Jvm.Free.SBG.length_lt e1 e2 (own_eqi h), (Value.int.inj e4).symm⟩
theorem own_elemw {t u : Term} {j : Int32} {args : Array Value} {s : State} {x y : Addr} {cl : Cell} {ty : FieldType} (h : (Jvm.Cond.eq (Term.elem t (.int j)) u).value args s none s [] = some true) (ht : t.eval args s none [] s = some (.ref x)) (hu : u.eval args s none [] s = some (.ref y)) (A : Arr s s.heap x cl ty) : cl.slots[j.toNatClampNeg]? = some (.ref y) := by
  obtain ⟨v, w, h1, h2, h3, h4⟩ := cmp_v (Or.inl h)
  cases hu.symm.trans h2
  obtain ⟨-, q⟩ := elem_in h1 ht (Term.int_eval j) A.1
  have r : v = .ref y := gotT (eq_R h1 hu h4.2 rfl) h
  rw [q, r]
theorem own_elemi {t : Term} {j k : Int32} {args : Array Value} {s : State} {x : Addr} {cl : Cell} {ty : FieldType} (h : (Jvm.Cond.eq (Term.elem t (.int j)) (.int k)).value args s none s [] = some true) (ht : t.eval args s none [] s = some (.ref x)) (A : Arr s s.heap x cl ty) : cl.slots[j.toNatClampNeg]? = some (.int k) := by
  obtain ⟨-, q⟩ := elem_in (own_eqi h) ht (Term.int_eval j) A.1
  exact q
abbrev own_W (Z : State) (a0 : Array Value) : Prop := ∀ d ∈ tables_1, d.before a0 Z = true
theorem own_w0 {Z : State} {a0 : Array Value} (hw : own_W Z a0) : (Jvm.Cond.constant "com/example/inqueue/inqueue/cli/CommandTakesArgumentsPinLaw" (7 : Nat) (2147483647 : Int32)).before a0 Z = true := hw _ (List.mem_of_getElem? (i := 0) rfl)
theorem own_w1 {Z : State} {a0 : Array Value} (hw : own_W Z a0) : (Jvm.Cond.fieldLink "com/example/inqueue/inqueue/cli/CommandTakesArgumentsPinLaw" (8 : Nat) "com/example/inqueue/inqueue/cli/Command" "MIGRATE" "Lcom/example/inqueue/inqueue/cli/Command;").before a0 Z = true := hw _ (List.mem_of_getElem? (i := 1) rfl)
theorem own_w2 {Z : State} {a0 : Array Value} (hw : own_W Z a0) : (Jvm.Cond.initialized "com/example/inqueue/inqueue/cli/Command").before a0 Z = true := hw _ (List.mem_of_getElem? (i := 2) rfl)
theorem own_w3 {Z : State} {a0 : Array Value} (hw : own_W Z a0) : (Jvm.Cond.laysStatic "com/example/inqueue/inqueue/cli/Command" "MIGRATE" "Lcom/example/inqueue/inqueue/cli/Command;").before a0 Z = true := hw _ (List.mem_of_getElem? (i := 3) rfl)
theorem own_w4 {Z : State} {a0 : Array Value} (hw : own_W Z a0) : (Jvm.Cond.methodLink "com/example/inqueue/inqueue/cli/CommandTakesArgumentsPinLaw" (38 : Nat) ({ cls := "com/example/inqueue/inqueue/cli/Command", name := "takesArguments", desc := "(I)Z" } : Jvm.MethodName)).before a0 Z = true := hw _ (List.mem_of_getElem? (i := 4) rfl)
theorem own_w5 {Z : State} {a0 : Array Value} (hw : own_W Z a0) : (Jvm.Cond.declares ({ cls := "com/example/inqueue/inqueue/cli/Command", name := "takesArguments", desc := "(I)Z" } : Jvm.MethodName)).before a0 Z = true := hw _ (List.mem_of_getElem? (i := 5) rfl)
theorem own_w6 {Z : State} {a0 : Array Value} (hw : own_W Z a0) : (Jvm.Cond.instanceMethod ({ cls := "com/example/inqueue/inqueue/cli/Command", name := "takesArguments", desc := "(I)Z" } : Jvm.MethodName)).before a0 Z = true := hw _ (List.mem_of_getElem? (i := 6) rfl)
theorem own_w7 {Z : State} {a0 : Array Value} (hw : own_W Z a0) : (Jvm.Cond.selects "com/example/inqueue/inqueue/cli/Command$1" ({ cls := "com/example/inqueue/inqueue/cli/Command", name := "takesArguments", desc := "(I)Z" } : Jvm.MethodName) ({ cls := "com/example/inqueue/inqueue/cli/Command", name := "takesArguments", desc := "(I)Z" } : Jvm.MethodName)).before a0 Z = true := hw _ (List.mem_of_getElem? (i := 7) rfl)
theorem own_w8 {Z : State} {a0 : Array Value} (hw : own_W Z a0) : (Jvm.Cond.code ({ cls := "com/example/inqueue/inqueue/cli/Command", name := "takesArguments", desc := "(I)Z" } : Jvm.MethodName) prog_22_method_7_code (2 : Nat) (Option.some Jvm.ClassFile.FieldType.boolean)).before a0 Z = true := hw _ (List.mem_of_getElem? (i := 8) rfl)
theorem own_w9 {Z : State} {a0 : Array Value} (hw : own_W Z a0) : (Jvm.Cond.fieldLink "com/example/inqueue/inqueue/cli/Command" (60 : Nat) "com/example/inqueue/inqueue/cli/Command" "minArguments" "I").before a0 Z = true := hw _ (List.mem_of_getElem? (i := 9) rfl)
theorem own_w11 {Z : State} {a0 : Array Value} (hw : own_W Z a0) : (Jvm.Cond.fieldLink "com/example/inqueue/inqueue/cli/Command" (64 : Nat) "com/example/inqueue/inqueue/cli/Command" "maxArguments" "I").before a0 Z = true := hw _ (List.mem_of_getElem? (i := 11) rfl)
theorem own_w13 {Z : State} {a0 : Array Value} (hw : own_W Z a0) : (Jvm.Cond.fieldLink "com/example/inqueue/inqueue/cli/CommandTakesArgumentsPinLaw" (26 : Nat) "com/example/inqueue/inqueue/cli/Command" "DEAD" "Lcom/example/inqueue/inqueue/cli/Command;").before a0 Z = true := hw _ (List.mem_of_getElem? (i := 13) rfl)
theorem own_w14 {Z : State} {a0 : Array Value} (hw : own_W Z a0) : (Jvm.Cond.laysStatic "com/example/inqueue/inqueue/cli/Command" "DEAD" "Lcom/example/inqueue/inqueue/cli/Command;").before a0 Z = true := hw _ (List.mem_of_getElem? (i := 14) rfl)
theorem own_w15 {Z : State} {a0 : Array Value} (hw : own_W Z a0) : (Jvm.Cond.selects "com/example/inqueue/inqueue/cli/Command$6" ({ cls := "com/example/inqueue/inqueue/cli/Command", name := "takesArguments", desc := "(I)Z" } : Jvm.MethodName) ({ cls := "com/example/inqueue/inqueue/cli/Command", name := "takesArguments", desc := "(I)Z" } : Jvm.MethodName)).before a0 Z = true := hw _ (List.mem_of_getElem? (i := 15) rfl)
theorem own_w18 {Z : State} {a0 : Array Value} (hw : own_W Z a0) : (Jvm.Cond.fieldLink "com/example/inqueue/inqueue/cli/CommandTakesArgumentsPinLaw" (23 : Nat) "com/example/inqueue/inqueue/cli/Command" "ACK" "Lcom/example/inqueue/inqueue/cli/Command;").before a0 Z = true := hw _ (List.mem_of_getElem? (i := 18) rfl)
theorem own_w19 {Z : State} {a0 : Array Value} (hw : own_W Z a0) : (Jvm.Cond.laysStatic "com/example/inqueue/inqueue/cli/Command" "ACK" "Lcom/example/inqueue/inqueue/cli/Command;").before a0 Z = true := hw _ (List.mem_of_getElem? (i := 19) rfl)
theorem own_w20 {Z : State} {a0 : Array Value} (hw : own_W Z a0) : (Jvm.Cond.selects "com/example/inqueue/inqueue/cli/Command$5" ({ cls := "com/example/inqueue/inqueue/cli/Command", name := "takesArguments", desc := "(I)Z" } : Jvm.MethodName) ({ cls := "com/example/inqueue/inqueue/cli/Command", name := "takesArguments", desc := "(I)Z" } : Jvm.MethodName)).before a0 Z = true := hw _ (List.mem_of_getElem? (i := 20) rfl)
theorem own_w22 {Z : State} {a0 : Array Value} (hw : own_W Z a0) : (Jvm.Cond.fieldLink "com/example/inqueue/inqueue/cli/CommandTakesArgumentsPinLaw" (14 : Nat) "com/example/inqueue/inqueue/cli/Command" "CREATE" "Lcom/example/inqueue/inqueue/cli/Command;").before a0 Z = true := hw _ (List.mem_of_getElem? (i := 22) rfl)
theorem own_w23 {Z : State} {a0 : Array Value} (hw : own_W Z a0) : (Jvm.Cond.laysStatic "com/example/inqueue/inqueue/cli/Command" "CREATE" "Lcom/example/inqueue/inqueue/cli/Command;").before a0 Z = true := hw _ (List.mem_of_getElem? (i := 23) rfl)
theorem own_w24 {Z : State} {a0 : Array Value} (hw : own_W Z a0) : (Jvm.Cond.selects "com/example/inqueue/inqueue/cli/Command$2" ({ cls := "com/example/inqueue/inqueue/cli/Command", name := "takesArguments", desc := "(I)Z" } : Jvm.MethodName) ({ cls := "com/example/inqueue/inqueue/cli/Command", name := "takesArguments", desc := "(I)Z" } : Jvm.MethodName)).before a0 Z = true := hw _ (List.mem_of_getElem? (i := 24) rfl)
theorem own_w27 {Z : State} {a0 : Array Value} (hw : own_W Z a0) : (Jvm.Cond.fieldLink "com/example/inqueue/inqueue/cli/CommandTakesArgumentsPinLaw" (29 : Nat) "com/example/inqueue/inqueue/cli/Command" "REQUEUE" "Lcom/example/inqueue/inqueue/cli/Command;").before a0 Z = true := hw _ (List.mem_of_getElem? (i := 27) rfl)
theorem own_w28 {Z : State} {a0 : Array Value} (hw : own_W Z a0) : (Jvm.Cond.laysStatic "com/example/inqueue/inqueue/cli/Command" "REQUEUE" "Lcom/example/inqueue/inqueue/cli/Command;").before a0 Z = true := hw _ (List.mem_of_getElem? (i := 28) rfl)
theorem own_w29 {Z : State} {a0 : Array Value} (hw : own_W Z a0) : (Jvm.Cond.selects "com/example/inqueue/inqueue/cli/Command$7" ({ cls := "com/example/inqueue/inqueue/cli/Command", name := "takesArguments", desc := "(I)Z" } : Jvm.MethodName) ({ cls := "com/example/inqueue/inqueue/cli/Command", name := "takesArguments", desc := "(I)Z" } : Jvm.MethodName)).before a0 Z = true := hw _ (List.mem_of_getElem? (i := 29) rfl)
theorem own_w31 {Z : State} {a0 : Array Value} (hw : own_W Z a0) : (Jvm.Cond.fieldLink "com/example/inqueue/inqueue/cli/CommandTakesArgumentsPinLaw" (35 : Nat) "com/example/inqueue/inqueue/cli/Command" "WORK" "Lcom/example/inqueue/inqueue/cli/Command;").before a0 Z = true := hw _ (List.mem_of_getElem? (i := 31) rfl)
theorem own_w32 {Z : State} {a0 : Array Value} (hw : own_W Z a0) : (Jvm.Cond.laysStatic "com/example/inqueue/inqueue/cli/Command" "WORK" "Lcom/example/inqueue/inqueue/cli/Command;").before a0 Z = true := hw _ (List.mem_of_getElem? (i := 32) rfl)
theorem own_w33 {Z : State} {a0 : Array Value} (hw : own_W Z a0) : (Jvm.Cond.selects "com/example/inqueue/inqueue/cli/Command$9" ({ cls := "com/example/inqueue/inqueue/cli/Command", name := "takesArguments", desc := "(I)Z" } : Jvm.MethodName) ({ cls := "com/example/inqueue/inqueue/cli/Command", name := "takesArguments", desc := "(I)Z" } : Jvm.MethodName)).before a0 Z = true := hw _ (List.mem_of_getElem? (i := 33) rfl)
theorem own_w36 {Z : State} {a0 : Array Value} (hw : own_W Z a0) : (Jvm.Cond.fieldLink "com/example/inqueue/inqueue/cli/CommandTakesArgumentsPinLaw" (20 : Nat) "com/example/inqueue/inqueue/cli/Command" "RECEIVE" "Lcom/example/inqueue/inqueue/cli/Command;").before a0 Z = true := hw _ (List.mem_of_getElem? (i := 36) rfl)
theorem own_w37 {Z : State} {a0 : Array Value} (hw : own_W Z a0) : (Jvm.Cond.laysStatic "com/example/inqueue/inqueue/cli/Command" "RECEIVE" "Lcom/example/inqueue/inqueue/cli/Command;").before a0 Z = true := hw _ (List.mem_of_getElem? (i := 37) rfl)
theorem own_w38 {Z : State} {a0 : Array Value} (hw : own_W Z a0) : (Jvm.Cond.selects "com/example/inqueue/inqueue/cli/Command$4" ({ cls := "com/example/inqueue/inqueue/cli/Command", name := "takesArguments", desc := "(I)Z" } : Jvm.MethodName) ({ cls := "com/example/inqueue/inqueue/cli/Command", name := "takesArguments", desc := "(I)Z" } : Jvm.MethodName)).before a0 Z = true := hw _ (List.mem_of_getElem? (i := 38) rfl)
theorem own_w41 {Z : State} {a0 : Array Value} (hw : own_W Z a0) : (Jvm.Cond.fieldLink "com/example/inqueue/inqueue/cli/CommandTakesArgumentsPinLaw" (17 : Nat) "com/example/inqueue/inqueue/cli/Command" "SEND" "Lcom/example/inqueue/inqueue/cli/Command;").before a0 Z = true := hw _ (List.mem_of_getElem? (i := 41) rfl)
theorem own_w42 {Z : State} {a0 : Array Value} (hw : own_W Z a0) : (Jvm.Cond.laysStatic "com/example/inqueue/inqueue/cli/Command" "SEND" "Lcom/example/inqueue/inqueue/cli/Command;").before a0 Z = true := hw _ (List.mem_of_getElem? (i := 42) rfl)
theorem own_w43 {Z : State} {a0 : Array Value} (hw : own_W Z a0) : (Jvm.Cond.selects "com/example/inqueue/inqueue/cli/Command$3" ({ cls := "com/example/inqueue/inqueue/cli/Command", name := "takesArguments", desc := "(I)Z" } : Jvm.MethodName) ({ cls := "com/example/inqueue/inqueue/cli/Command", name := "takesArguments", desc := "(I)Z" } : Jvm.MethodName)).before a0 Z = true := hw _ (List.mem_of_getElem? (i := 43) rfl)
theorem own_w47 {Z : State} {a0 : Array Value} (hw : own_W Z a0) : (Jvm.Cond.fieldLink "com/example/inqueue/inqueue/cli/CommandTakesArgumentsPinLaw" (32 : Nat) "com/example/inqueue/inqueue/cli/Command" "STATS" "Lcom/example/inqueue/inqueue/cli/Command;").before a0 Z = true := hw _ (List.mem_of_getElem? (i := 47) rfl)
theorem own_w48 {Z : State} {a0 : Array Value} (hw : own_W Z a0) : (Jvm.Cond.laysStatic "com/example/inqueue/inqueue/cli/Command" "STATS" "Lcom/example/inqueue/inqueue/cli/Command;").before a0 Z = true := hw _ (List.mem_of_getElem? (i := 48) rfl)
theorem own_w49 {Z : State} {a0 : Array Value} (hw : own_W Z a0) : (Jvm.Cond.selects "com/example/inqueue/inqueue/cli/Command$8" ({ cls := "com/example/inqueue/inqueue/cli/Command", name := "takesArguments", desc := "(I)Z" } : Jvm.MethodName) ({ cls := "com/example/inqueue/inqueue/cli/Command", name := "takesArguments", desc := "(I)Z" } : Jvm.MethodName)).before a0 Z = true := hw _ (List.mem_of_getElem? (i := 49) rfl)
theorem own_d1_0 : decode prog_22_method_7_code 0 = .ok (.iload_n 1, 1) := by decide +kernel
theorem own_d1_1 : decode prog_22_method_7_code 1 = .ok (.aload_n 0, 1) := by decide +kernel
theorem own_d1_2 : decode prog_22_method_7_code 2 = .ok (.getfield 60, 3) := by decide +kernel
theorem own_d1_5 : decode prog_22_method_7_code 5 = .ok (.if_icmp .lt 15, 3) := by decide +kernel
theorem own_d1_8 : decode prog_22_method_7_code 8 = .ok (.iload_n 1, 1) := by decide +kernel
theorem own_d1_9 : decode prog_22_method_7_code 9 = .ok (.aload_n 0, 1) := by decide +kernel
theorem own_d1_10 : decode prog_22_method_7_code 10 = .ok (.getfield 64, 3) := by decide +kernel
theorem own_d1_13 : decode prog_22_method_7_code 13 = .ok (.if_icmp .gt 7, 3) := by decide +kernel
theorem own_d1_16 : decode prog_22_method_7_code 16 = .ok (.iconst 1, 1) := by decide +kernel
theorem own_d1_17 : decode prog_22_method_7_code 17 = .ok (.goto 4, 3) := by decide +kernel
theorem own_d1_20 : decode prog_22_method_7_code 20 = .ok (.iconst 0, 1) := by decide +kernel
theorem own_d1_21 : decode prog_22_method_7_code 21 = .ok (.ireturn, 1) := by decide +kernel
theorem own_pd0 : parseMethodDescriptor "(I)Z" = some ⟨[.int], some .boolean⟩ := by decide +kernel
theorem own_pn0 : plainName "com/example/inqueue/inqueue/cli/Command" = true := by first | (simp [plainName, overriddenIn]; done) | decide +kernel
theorem own_pn1 : plainName "com/example/inqueue/inqueue/cli/CommandTakesArgumentsPinLaw" = true := by first | (simp [plainName, overriddenIn]; done) | decide +kernel
theorem own_ef1 (m : MethodId) (a1 : Addr) (p1 : Int32) : entryFrame m #[(.ref a1), (.int p1)] 2 = mkF m 0 #[.val (.ref a1), .val (.int p1)] [] := by first | (simp [entryFrame, mkF, argsToLocals, Value.category]; done) | rfl
theorem own_ef0 (m : MethodId) (p1 : Int32) (p2 : Int32) : entryFrame m #[(.int p1), (.int p2)] maxLocals = mkF m 0 #[.val (.int p1), .val (.int p2), .unset, .unset, .unset] [] := by first | (simp [entryFrame, mkF, argsToLocals, Value.category, maxLocals]; done) | rfl
def own_takes (p mi ma : Int32) : Int32 := if p < mi then 0 else if ma < p then 0 else 1
theorem own_yes {p mi ma : Int32} {a b : Int} (ha : mi.toInt = a) (hb : ma.toInt = b) (h1 : a ≤ p.toInt) (h2 : p.toInt ≤ b) : own_takes p mi ma = 1 := by
  have q1 : ¬ p < mi := fun q => by have := Int32.lt_iff_toInt_lt.mp q; omega
  have q2 : ¬ ma < p := fun q => by have := Int32.lt_iff_toInt_lt.mp q; omega
  simp [own_takes, q1, q2]
theorem own_no {p mi ma : Int32} {a b : Int} (ha : mi.toInt = a) (hb : ma.toInt = b) (h : p.toInt < a ∨ b < p.toInt) : own_takes p mi ma = 0 := by
  by_cases q1 : p < mi
  · simp [own_takes, q1]
  · have q2 : ma < p := Int32.lt_iff_toInt_lt.mpr (by have : ¬ p.toInt < mi.toInt := fun q => q1 (Int32.lt_iff_toInt_lt.mpr q); omega)
    simp [own_takes, q1, q2]
theorem own_eqI {x y : Int32} {k : Int} (h : x = y) (hy : y.toInt = k) : x.toInt = k := by rw [h]; exact hy
theorem own_neI {x y : Int32} {k : Int} (h : ¬ x = y) (hy : y.toInt = k) : x.toInt ≠ k := fun q => h (Int32.toInt_inj.mp (q.trans hy.symm))
theorem own_ltI {x y : Int32} {k : Int} (h : x < y) (hy : y.toInt = k) : x.toInt < k := by have := Int32.lt_iff_toInt_lt.mp h; omega
theorem own_nlI {x y : Int32} {k : Int} (h : ¬ x < y) (hy : y.toInt = k) : k ≤ x.toInt := by have : ¬ x.toInt < y.toInt := fun q => h (Int32.lt_iff_toInt_lt.mpr q); omega
def own_tk_Q (Z : State) (a1 : Addr) (p1 mi ma : Int32) (h0 : Heap) (n0 : Nat) (v : Option Value) (h : Heap) (L : List Loc) : Prop := v = some (.int (own_takes p1 mi ma)) ∧ Fr n0 L ∧ h = h0
set_option maxRecDepth 65536 in
set_option maxHeartbeats 40000000 in
theorem own_tk (l : Launch) {Z : State} {a0 : Array Value} (hw : own_W Z a0) (ws : List Jvm.Cond) (a1 : Addr) (p1 mi ma : Int32) (h0 : Heap) (n0 : Nat) (Z0 : n0 ≤ h0.size) (Fi : Fld Z h0 a1 "com/example/inqueue/inqueue/cli/Command" "minArguments" "I" (.int mi)) (Fa : Fld Z h0 a1 "com/example/inqueue/inqueue/cli/Command" "maxArguments" "I" (.int ma)) :
    MetFree l (⟨"com/example/inqueue/inqueue/cli/Command", "takesArguments", "(I)Z"⟩ : MethodName) (head1 (Jvm.Cond.code (⟨"com/example/inqueue/inqueue/cli/Command", "takesArguments", "(I)Z"⟩ : MethodName) prog_22_method_7_code 2 (some .boolean) :: ws) ({ frames := 0, cells := 0, slots := 0, locals := 0 } : Room)) (fun a U => a = #[(.ref a1), (.int p1)] ∧ Z.Warmed39 U.vm ∧ U.heap = h0) (fun _ _ _ _ _ => True) (fun _ U o U' => ∃ v L, o = .returned v ∧ own_tk_Q Z a1 p1 mi ma h0 n0 v U'.heap L ∧ FrameEnd U o U' L ({ frames := 0, cells := 0, slots := 0, locals := 0 } : Room).cells ({ frames := 0, cells := 0, slots := 0, locals := 0 } : Room).slots) := by
  refine own_enter (C := ({ frames := 0, cells := 0, slots := 0, locals := 0 } : Room).cells) (S := ({ frames := 0, cells := 0, slots := 0, locals := 0 } : Room).slots) (plainFor_of_name own_pn0) ?_
  intro p e s m below meth c T0 X0 I e0
  obtain ⟨hx, hby, hml, hown, hnm, hret, hlk, hZ⟩ := I
  have N0 := Fr.nil n0
  have O0 := own_extr h0
  refine own_cast (own_ef1 m a1 p1) ?_
  show own_Go _ _ _ _ T0 (mkF m 0 #[.val (.ref a1), .val (.int p1)] [])
  refine own_st (fun _ k => XS.iloadN X0.here hx rfl (hb hby own_d1_0) rfl k) ?_
  show own_Go _ _ _ _ T0 (mkF m 1 #[.val (.ref a1), .val (.int p1)] [(.int p1)])
  refine own_st (fun _ k => XS.aloadN X0.here hx rfl (hb hby own_d1_1) rfl rfl k) ?_
  show own_Go _ _ _ _ T0 (mkF m 2 #[.val (.ref a1), .val (.int p1)] [(.ref a1), (.int p1)])
  obtain ⟨T1, X1, e1, st1⟩ := getF X0 hx hZ hown (host := "") (Or.inl (own_w9 hw)) Via.refl e0 (Fi.ext O0) (g := (mkF m 2 #[.val (.ref a1), .val (.int p1)] [(.ref a1), (.int p1)])) rfl rfl (hb hby own_d1_2)
  refine own_st st1 ?_
  show own_Go _ _ _ _ T1 (mkF m 5 #[.val (.ref a1), .val (.int p1)] [(.int mi), (.int p1)])
  by_cases hc1 : p1 < mi
  · refine own_st (fun _ k => XS.icmpYes X1.here hx rfl (pc0 := 5) (pc' := 20) rfl (hb hby own_d1_5) rfl (tlt (hc1 : p1 < mi)).1 (by decide) (by decide) k) ?_
    show own_Go _ _ _ _ T1 (mkF m 20 #[.val (.ref a1), .val (.int p1)] [])
    refine own_st (fun _ k => XS.iconst X1.here hx rfl (hb hby own_d1_20) k) ?_
    show own_Go _ _ _ _ T1 (mkF m 21 #[.val (.ref a1), .val (.int p1)] [(.int (0 : Int32))])
    exact own_retN X1 hx hret (by simp) hlk (hb hby own_d1_21) ⟨by simp [own_takes, nar, *], N0, e1⟩ (by decide) (by decide)
  · refine own_st (fun _ k => XS.icmpNo X1.here hx rfl (hb hby own_d1_5) rfl (flt (hc1 : ¬ (p1 < mi))).1 k) ?_
    show own_Go _ _ _ _ T1 (mkF m 8 #[.val (.ref a1), .val (.int p1)] [])
    refine own_st (fun _ k => XS.iloadN X1.here hx rfl (hb hby own_d1_8) rfl k) ?_
    show own_Go _ _ _ _ T1 (mkF m 9 #[.val (.ref a1), .val (.int p1)] [(.int p1)])
    refine own_st (fun _ k => XS.aloadN X1.here hx rfl (hb hby own_d1_9) rfl rfl k) ?_
    show own_Go _ _ _ _ T1 (mkF m 10 #[.val (.ref a1), .val (.int p1)] [(.ref a1), (.int p1)])
    obtain ⟨T2, X2, e2, st2⟩ := getF X1 hx hZ hown (host := "") (Or.inl (own_w11 hw)) Via.refl e1 (Fa.ext O0) (g := (mkF m 10 #[.val (.ref a1), .val (.int p1)] [(.ref a1), (.int p1)])) rfl rfl (hb hby own_d1_10)
    refine own_st st2 ?_
    show own_Go _ _ _ _ T2 (mkF m 13 #[.val (.ref a1), .val (.int p1)] [(.int ma), (.int p1)])
    by_cases hc2 : ma < p1
    · refine own_st (fun _ k => XS.icmpYes X2.here hx rfl (pc0 := 13) (pc' := 20) rfl (hb hby own_d1_13) rfl (tlt (hc2 : ma < p1)).2.2.1 (by decide) (by decide) k) ?_
      show own_Go _ _ _ _ T2 (mkF m 20 #[.val (.ref a1), .val (.int p1)] [])
      refine own_st (fun _ k => XS.iconst X2.here hx rfl (hb hby own_d1_20) k) ?_
      show own_Go _ _ _ _ T2 (mkF m 21 #[.val (.ref a1), .val (.int p1)] [(.int (0 : Int32))])
      exact own_retN X2 hx hret (by simp) hlk (hb hby own_d1_21) ⟨by simp [own_takes, nar, *], N0, e2⟩ (by decide) (by decide)
    · refine own_st (fun _ k => XS.icmpNo X2.here hx rfl (hb hby own_d1_13) rfl (flt (hc2 : ¬ (ma < p1))).2.2.1 k) ?_
      show own_Go _ _ _ _ T2 (mkF m 16 #[.val (.ref a1), .val (.int p1)] [])
      refine own_st (fun _ k => XS.iconst X2.here hx rfl (hb hby own_d1_16) k) ?_
      show own_Go _ _ _ _ T2 (mkF m 17 #[.val (.ref a1), .val (.int p1)] [(.int (1 : Int32))])
      refine own_st (fun _ k => XS.goto X2.here hx rfl (pc0 := 17) (pc' := 21) rfl (hb hby own_d1_17) (by decide) (by decide) k) ?_
      show own_Go _ _ _ _ T2 (mkF m 21 #[.val (.ref a1), .val (.int p1)] [(.int (1 : Int32))])
      exact own_retN X2 hx hret (by simp) hlk (hb hby own_d1_21) ⟨by simp [own_takes, nar, *], N0, e2⟩ (by decide) (by decide)
def own_law_Q (Z : State) (p1 p2 : Int32) (w0 w1 w2 w3 w4 w5 w6 w7 w8 : Addr) (h0 : Heap) (n0 : Nat) (v : Option Value) (h : Heap) (L : List Loc) : Prop := v = some (.int 1) ∧ Fr n0 L
set_option maxRecDepth 65536 in
set_option maxHeartbeats 40000000 in
theorem own_law (l : Launch) {Z : State} {a0 : Array Value} (hw : own_W Z a0) (ws : List Jvm.Cond) (p1 p2 : Int32) (w0 w1 w2 w3 w4 w5 w6 w7 w8 : Addr) (h0 : Heap) (n0 : Nat) (Z0 : n0 ≤ h0.size) (S0 : Sta Z h0 "com/example/inqueue/inqueue/cli/Command" "MIGRATE" "Lcom/example/inqueue/inqueue/cli/Command;" (.ref w0)) (E0 : Exa Z h0 w0 "com/example/inqueue/inqueue/cli/Command$1") (Fi0 : Fld Z h0 w0 "com/example/inqueue/inqueue/cli/Command" "minArguments" "I" (.int (0 : Int32))) (Fa0 : Fld Z h0 w0 "com/example/inqueue/inqueue/cli/Command" "maxArguments" "I" (.int (0 : Int32))) (S1 : Sta Z h0 "com/example/inqueue/inqueue/cli/Command" "CREATE" "Lcom/example/inqueue/inqueue/cli/Command;" (.ref w1)) (E1 : Exa Z h0 w1 "com/example/inqueue/inqueue/cli/Command$2") (Fi1 : Fld Z h0 w1 "com/example/inqueue/inqueue/cli/Command" "minArguments" "I" (.int (1 : Int32))) (Fa1 : Fld Z h0 w1 "com/example/inqueue/inqueue/cli/Command" "maxArguments" "I" (.int (1 : Int32))) (S2 : Sta Z h0 "com/example/inqueue/inqueue/cli/Command" "SEND" "Lcom/example/inqueue/inqueue/cli/Command;" (.ref w2)) (E2 : Exa Z h0 w2 "com/example/inqueue/inqueue/cli/Command$3") (Fi2 : Fld Z h0 w2 "com/example/inqueue/inqueue/cli/Command" "minArguments" "I" (.int (1 : Int32))) (Fa2 : Fld Z h0 w2 "com/example/inqueue/inqueue/cli/Command" "maxArguments" "I" (.int (2 : Int32))) (S3 : Sta Z h0 "com/example/inqueue/inqueue/cli/Command" "RECEIVE" "Lcom/example/inqueue/inqueue/cli/Command;" (.ref w3)) (E3 : Exa Z h0 w3 "com/example/inqueue/inqueue/cli/Command$4") (Fi3 : Fld Z h0 w3 "com/example/inqueue/inqueue/cli/Command" "minArguments" "I" (.int (1 : Int32))) (Fa3 : Fld Z h0 w3 "com/example/inqueue/inqueue/cli/Command" "maxArguments" "I" (.int (1 : Int32))) (S4 : Sta Z h0 "com/example/inqueue/inqueue/cli/Command" "ACK" "Lcom/example/inqueue/inqueue/cli/Command;" (.ref w4)) (E4 : Exa Z h0 w4 "com/example/inqueue/inqueue/cli/Command$5") (Fi4 : Fld Z h0 w4 "com/example/inqueue/inqueue/cli/Command" "minArguments" "I" (.int (2 : Int32))) (Fa4 : Fld Z h0 w4 "com/example/inqueue/inqueue/cli/Command" "maxArguments" "I" (.int (2 : Int32))) (S5 : Sta Z h0 "com/example/inqueue/inqueue/cli/Command" "DEAD" "Lcom/example/inqueue/inqueue/cli/Command;" (.ref w5)) (E5 : Exa Z h0 w5 "com/example/inqueue/inqueue/cli/Command$6") (Fi5 : Fld Z h0 w5 "com/example/inqueue/inqueue/cli/Command" "minArguments" "I" (.int (1 : Int32))) (Fa5 : Fld Z h0 w5 "com/example/inqueue/inqueue/cli/Command" "maxArguments" "I" (.int (1 : Int32))) (S6 : Sta Z h0 "com/example/inqueue/inqueue/cli/Command" "REQUEUE" "Lcom/example/inqueue/inqueue/cli/Command;" (.ref w6)) (E6 : Exa Z h0 w6 "com/example/inqueue/inqueue/cli/Command$7") (Fi6 : Fld Z h0 w6 "com/example/inqueue/inqueue/cli/Command" "minArguments" "I" (.int (2 : Int32))) (Fa6 : Fld Z h0 w6 "com/example/inqueue/inqueue/cli/Command" "maxArguments" "I" (.int (2147483647 : Int32))) (S7 : Sta Z h0 "com/example/inqueue/inqueue/cli/Command" "STATS" "Lcom/example/inqueue/inqueue/cli/Command;" (.ref w7)) (E7 : Exa Z h0 w7 "com/example/inqueue/inqueue/cli/Command$8") (Fi7 : Fld Z h0 w7 "com/example/inqueue/inqueue/cli/Command" "minArguments" "I" (.int (0 : Int32))) (Fa7 : Fld Z h0 w7 "com/example/inqueue/inqueue/cli/Command" "maxArguments" "I" (.int (1 : Int32))) (S8 : Sta Z h0 "com/example/inqueue/inqueue/cli/Command" "WORK" "Lcom/example/inqueue/inqueue/cli/Command;" (.ref w8)) (E8 : Exa Z h0 w8 "com/example/inqueue/inqueue/cli/Command$9") (Fi8 : Fld Z h0 w8 "com/example/inqueue/inqueue/cli/Command" "minArguments" "I" (.int (1 : Int32))) (Fa8 : Fld Z h0 w8 "com/example/inqueue/inqueue/cli/Command" "maxArguments" "I" (.int (1 : Int32))) :
    MetFree l x (head1 (Jvm.Cond.code x code maxLocals ret :: ws) room_1) (fun a U => a = #[(.int p1), (.int p2)] ∧ Z.Warmed39 U.vm ∧ U.heap = h0) (fun _ _ _ _ _ => True) (fun _ U o U' => ∃ v L, o = .returned v ∧ own_law_Q Z p1 p2 w0 w1 w2 w3 w4 w5 w6 w7 w8 h0 n0 v U'.heap L ∧ FrameEnd U o U' L 0 0) := by
  refine own_enter (C := 0) (S := 0) (plainFor_of_name own_pn1) ?_
  intro p e s m below meth c T0 X0 I e0
  obtain ⟨hx, hby, hml, hown, hnm, hret, hlk, hZ⟩ := I
  have N0 := Fr.nil n0
  have O0 := own_extr h0
  refine own_cast (own_ef0 m p1 p2) ?_
  show own_Go _ _ _ _ T0 (mkF m 0 #[.val (.int p1), .val (.int p2), .unset, .unset, .unset] [])
  have tl : ∀ (Tt : State) (lt : List Loc) (ht : Heap) (Xt : Stand p l e room_1 s m #[(.int p1), (.int p2)] below meth c Tt lt 0 0) (Nt : Fr n0 lt) (et : Tt.heap = ht) (Ot : Ext h0 ht) (xk ex mi ma : Int32) (ra : Addr) (C : String) (Ea : Exa Z h0 ra C) (wsel : (Jvm.Cond.selects C ({ cls := "com/example/inqueue/inqueue/cli/Command", name := "takesArguments", desc := "(I)Z" } : Jvm.MethodName) ({ cls := "com/example/inqueue/inqueue/cli/Command", name := "takesArguments", desc := "(I)Z" } : Jvm.MethodName)).before a0 Z = true) (Fi : Fld Z h0 ra "com/example/inqueue/inqueue/cli/Command" "minArguments" "I" (.int mi)) (Fa : Fld Z h0 ra "com/example/inqueue/inqueue/cli/Command" "maxArguments" "I" (.int ma)) (hx2 : own_takes p2 mi ma = ex), own_Go p.tables e below (own_F below s (own_law_Q Z p1 p2 w0 w1 w2 w3 w4 w5 w6 w7 w8 h0 n0) 0 0) Tt (mkF m 225 #[.val (.int p1), .val (.int p2), .val (.int xk), .val (.ref ra), .val (.int ex)] []) := by
    intro Tt lt ht Xt Nt et Ot xk ex mi ma ra C Ea wsel Fi Fa hx2
    refine own_st (fun _ k => XS.aloadN Xt.here hx rfl (hb hby at_225) rfl rfl k) ?_
    show own_Go _ _ _ _ Tt (mkF m 226 #[.val (.int p1), .val (.int p2), .val (.int xk), .val (.ref ra), .val (.int ex)] [(.ref ra)])
    refine own_st (fun _ k => XS.iloadN Xt.here hx rfl (hb hby at_226) rfl k) ?_
    show own_Go _ _ _ _ Tt (mkF m 227 #[.val (.int p1), .val (.int p2), .val (.int xk), .val (.ref ra), .val (.int ex)] [(.int p2), (.ref ra)])
    obtain ⟨v1, T1, L1, hQ1, X1, st1⟩ := own_callV Xt hx hZ (y := (⟨"com/example/inqueue/inqueue/cli/Command", "takesArguments", "(I)Z"⟩ : MethodName)) hown (own_w4 hw) (own_w5 hw) wsel (own_w6 hw) (own_w2 hw) (own_w8 hw) (by decide) (own_tk l hw [] ra p2 mi ma ht n0 (Nat.le_trans Z0 Ot.1) (Fi.ext Ot) (Fa.ext Ot)) et (Ea.ext Ot) (g := (mkF m 227 #[.val (.int p1), .val (.int p2), .val (.int xk), .val (.ref ra), .val (.int ex)] [(.int p2), (.ref ra)])) rfl (by rw [hml]; rfl) (argsL := [(.int p2)]) (rest := []) (lenOf own_pd0 rfl) rfl rfl (W := 0) (Nat.le_of_eq rfl) (hb hby at_227) (by decide) (by decide) (by decide) (by decide)
    obtain ⟨rfl, N1, e1⟩ := hQ1
    have N1' := Fr.app Nt N1
    refine own_st st1 ?_
    show own_Go _ _ _ _ T1 (mkF m 230 #[.val (.int p1), .val (.int p2), .val (.int xk), .val (.ref ra), .val (.int ex)] [(.int (own_takes p2 mi ma))])
    refine own_st (fun _ k => XS.iload X1.here hx rfl (hb hby at_230) rfl k) ?_
    show own_Go _ _ _ _ T1 (mkF m 232 #[.val (.int p1), .val (.int p2), .val (.int xk), .val (.ref ra), .val (.int ex)] [(.int ex), (.int (own_takes p2 mi ma))])
    refine own_st (fun _ k => XS.icmpNo X1.here hx rfl (hb hby at_232) rfl (teq (hx2 : (own_takes p2 mi ma) = ex)).2 k) ?_
    show own_Go _ _ _ _ T1 (mkF m 235 #[.val (.int p1), .val (.int p2), .val (.int xk), .val (.ref ra), .val (.int ex)] [])
    refine own_st (fun _ k => XS.iconst X1.here hx rfl (hb hby at_235) k) ?_
    show own_Go _ _ _ _ T1 (mkF m 236 #[.val (.int p1), .val (.int p2), .val (.int xk), .val (.ref ra), .val (.int ex)] [(.int (1 : Int32))])
    refine own_st (fun _ k => XS.goto X1.here hx rfl (pc0 := 236) (pc' := 240) rfl (hb hby at_236) (by decide) (by decide) k) ?_
    show own_Go _ _ _ _ T1 (mkF m 240 #[.val (.int p1), .val (.int p2), .val (.int xk), .val (.ref ra), .val (.int ex)] [(.int (1 : Int32))])
    exact own_retN X1 hx hret (by simp) hlk (hb hby at_240) ⟨rfl, N1'⟩ (by decide) (by decide)
  refine own_st (fun _ k => XS.iloadN X0.here hx rfl (hb hby at_0) rfl k) ?_
  show own_Go _ _ _ _ T0 (mkF m 1 #[.val (.int p1), .val (.int p2), .unset, .unset, .unset] [(.int p1)])
  refine own_st (X0.ldcInt hx hown (mvT hZ (own_w0 hw)) (g := (mkF m 1 #[.val (.int p1), .val (.int p2), .unset, .unset, .unset] [(.int p1)])) rfl (hb hby at_1)) ?_
  show own_Go _ _ _ _ T0 (mkF m 3 #[.val (.int p1), .val (.int p2), .unset, .unset, .unset] [(.int (2147483647 : Int32)), (.int p1)])
  refine own_st (fun _ k => XS.iand X0.here hx rfl (hb hby at_3) rfl k) ?_
  show own_Go _ _ _ _ T0 (mkF m 4 #[.val (.int p1), .val (.int p2), .unset, .unset, .unset] [(.int (p1 &&& (2147483647 : Int32)))])
  refine own_st (fun _ k => XS.bipush X0.here hx rfl (hb hby at_4) k) ?_
  show own_Go _ _ _ _ T0 (mkF m 6 #[.val (.int p1), .val (.int p2), .unset, .unset, .unset] [(.int (9 : Int32)), (.int (p1 &&& (2147483647 : Int32)))])
  refine own_st (fun _ k => iremM X0 hx rfl (hb hby at_6) rfl (by decide) k) ?_
  show own_Go _ _ _ _ T0 (mkF m 7 #[.val (.int p1), .val (.int p2), .unset, .unset, .unset] [(.int ((p1 &&& (2147483647 : Int32)) % (9 : Int32)))])
  refine own_st (fun _ k => XS.istoreN X0.here hx rfl (hb hby at_7) rfl (l' := #[.val (.int p1), .val (.int p2), .val (.int ((p1 &&& (2147483647 : Int32)) % (9 : Int32))), .unset, .unset]) rfl k) ?_
  show own_Go _ _ _ _ T0 (mkF m 8 #[.val (.int p1), .val (.int p2), .val (.int ((p1 &&& (2147483647 : Int32)) % (9 : Int32))), .unset, .unset] [])
  refine own_st (fun _ k => XS.iloadN X0.here hx rfl (hb hby at_8) rfl k) ?_
  show own_Go _ _ _ _ T0 (mkF m 9 #[.val (.int p1), .val (.int p2), .val (.int ((p1 &&& (2147483647 : Int32)) % (9 : Int32))), .unset, .unset] [(.int ((p1 &&& (2147483647 : Int32)) % (9 : Int32)))])
  by_cases hk0 : ((p1 &&& (2147483647 : Int32)) % (9 : Int32)) = (0 : Int32)
  · refine own_st (fun _ k => XS.ifNo X0.here hx rfl (hb hby at_9) rfl ((if0 _ _).trans (teq (hk0 : ((p1 &&& (2147483647 : Int32)) % (9 : Int32)) = (0 : Int32))).2) k) ?_
    show own_Go _ _ _ _ T0 (mkF m 12 #[.val (.int p1), .val (.int p2), .val (.int ((p1 &&& (2147483647 : Int32)) % (9 : Int32))), .unset, .unset] [])
    obtain ⟨T2, X2, e2, st2⟩ := getS2 X0 hx hZ hown (host := "") (Or.inl (own_w1 hw)) Via.refl e0 (S0.ext O0) (g := (mkF m 12 #[.val (.int p1), .val (.int p2), .val (.int ((p1 &&& (2147483647 : Int32)) % (9 : Int32))), .unset, .unset] [])) rfl (hb hby at_12)
    refine own_st st2 ?_
    show own_Go _ _ _ _ T2 (mkF m 15 #[.val (.int p1), .val (.int p2), .val (.int ((p1 &&& (2147483647 : Int32)) % (9 : Int32))), .unset, .unset] [(.ref w0)])
    refine own_st (fun _ k => XS.astoreN X2.here hx rfl (hb hby at_15) rfl rfl (l' := #[.val (.int p1), .val (.int p2), .val (.int ((p1 &&& (2147483647 : Int32)) % (9 : Int32))), .val (.ref w0), .unset]) rfl k) ?_
    show own_Go _ _ _ _ T2 (mkF m 16 #[.val (.int p1), .val (.int p2), .val (.int ((p1 &&& (2147483647 : Int32)) % (9 : Int32))), .val (.ref w0), .unset] [])
    refine own_st (fun _ k => XS.iloadN X2.here hx rfl (hb hby at_16) rfl k) ?_
    show own_Go _ _ _ _ T2 (mkF m 17 #[.val (.int p1), .val (.int p2), .val (.int ((p1 &&& (2147483647 : Int32)) % (9 : Int32))), .val (.ref w0), .unset] [(.int p2)])
    by_cases hd : p2 = (0 : Int32)
    · refine own_st (fun _ k => XS.ifNo X2.here hx rfl (hb hby at_17) rfl ((if0 _ _).trans (teq (hd : p2 = (0 : Int32))).2) k) ?_
      show own_Go _ _ _ _ T2 (mkF m 20 #[.val (.int p1), .val (.int p2), .val (.int ((p1 &&& (2147483647 : Int32)) % (9 : Int32))), .val (.ref w0), .unset] [])
      refine own_st (fun _ k => XS.iconst X2.here hx rfl (hb hby at_20) k) ?_
      show own_Go _ _ _ _ T2 (mkF m 21 #[.val (.int p1), .val (.int p2), .val (.int ((p1 &&& (2147483647 : Int32)) % (9 : Int32))), .val (.ref w0), .unset] [(.int (1 : Int32))])
      refine own_st (fun _ k => XS.goto X2.here hx rfl (pc0 := 21) (pc' := 25) rfl (hb hby at_21) (by decide) (by decide) k) ?_
      show own_Go _ _ _ _ T2 (mkF m 25 #[.val (.int p1), .val (.int p2), .val (.int ((p1 &&& (2147483647 : Int32)) % (9 : Int32))), .val (.ref w0), .unset] [(.int (1 : Int32))])
      refine own_st (fun _ k => XS.istore X2.here hx rfl (hb hby at_25) rfl (l' := #[.val (.int p1), .val (.int p2), .val (.int ((p1 &&& (2147483647 : Int32)) % (9 : Int32))), .val (.ref w0), .val (.int (1 : Int32))]) rfl k) ?_
      show own_Go _ _ _ _ T2 (mkF m 27 #[.val (.int p1), .val (.int p2), .val (.int ((p1 &&& (2147483647 : Int32)) % (9 : Int32))), .val (.ref w0), .val (.int (1 : Int32))] [])
      refine own_st (fun _ k => XS.goto X2.here hx rfl (pc0 := 27) (pc' := 225) rfl (hb hby at_27) (by decide) (by decide) k) ?_
      show own_Go _ _ _ _ T2 (mkF m 225 #[.val (.int p1), .val (.int p2), .val (.int ((p1 &&& (2147483647 : Int32)) % (9 : Int32))), .val (.ref w0), .val (.int (1 : Int32))] [])
      exact tl _ _ _ X2 N0 e2 O0 _ _ _ _ _ _ E0 (own_w7 hw) Fi0 Fa0 (own_yes (a := 0) (b := 0) (by decide) (by decide) (by have := own_eqI hd (k := 0) (by decide); have := rng32 p2; omega) (by have := own_eqI hd (k := 0) (by decide); have := rng32 p2; omega))
    · refine own_st (fun _ k => XS.ifYes X2.here hx rfl (pc0 := 17) (pc' := 24) rfl (hb hby at_17) rfl ((if0 _ _).trans (feq (hd : ¬ (p2 = (0 : Int32)))).2) (by decide) (by decide) k) ?_
      show own_Go _ _ _ _ T2 (mkF m 24 #[.val (.int p1), .val (.int p2), .val (.int ((p1 &&& (2147483647 : Int32)) % (9 : Int32))), .val (.ref w0), .unset] [])
      refine own_st (fun _ k => XS.iconst X2.here hx rfl (hb hby at_24) k) ?_
      show own_Go _ _ _ _ T2 (mkF m 25 #[.val (.int p1), .val (.int p2), .val (.int ((p1 &&& (2147483647 : Int32)) % (9 : Int32))), .val (.ref w0), .unset] [(.int (0 : Int32))])
      refine own_st (fun _ k => XS.istore X2.here hx rfl (hb hby at_25) rfl (l' := #[.val (.int p1), .val (.int p2), .val (.int ((p1 &&& (2147483647 : Int32)) % (9 : Int32))), .val (.ref w0), .val (.int (0 : Int32))]) rfl k) ?_
      show own_Go _ _ _ _ T2 (mkF m 27 #[.val (.int p1), .val (.int p2), .val (.int ((p1 &&& (2147483647 : Int32)) % (9 : Int32))), .val (.ref w0), .val (.int (0 : Int32))] [])
      refine own_st (fun _ k => XS.goto X2.here hx rfl (pc0 := 27) (pc' := 225) rfl (hb hby at_27) (by decide) (by decide) k) ?_
      show own_Go _ _ _ _ T2 (mkF m 225 #[.val (.int p1), .val (.int p2), .val (.int ((p1 &&& (2147483647 : Int32)) % (9 : Int32))), .val (.ref w0), .val (.int (0 : Int32))] [])
      exact tl _ _ _ X2 N0 e2 O0 _ _ _ _ _ _ E0 (own_w7 hw) Fi0 Fa0 (own_no (a := 0) (b := 0) (by decide) (by decide) (by have := own_neI hd (k := 0) (by decide); have := rng32 p2; omega))
  · refine own_st (fun _ k => XS.ifYes X0.here hx rfl (pc0 := 9) (pc' := 30) rfl (hb hby at_9) rfl ((if0 _ _).trans (feq (hk0 : ¬ (((p1 &&& (2147483647 : Int32)) % (9 : Int32)) = (0 : Int32)))).2) (by decide) (by decide) k) ?_
    show own_Go _ _ _ _ T0 (mkF m 30 #[.val (.int p1), .val (.int p2), .val (.int ((p1 &&& (2147483647 : Int32)) % (9 : Int32))), .unset, .unset] [])
    refine own_st (fun _ k => XS.iloadN X0.here hx rfl (hb hby at_30) rfl k) ?_
    show own_Go _ _ _ _ T0 (mkF m 31 #[.val (.int p1), .val (.int p2), .val (.int ((p1 &&& (2147483647 : Int32)) % (9 : Int32))), .unset, .unset] [(.int ((p1 &&& (2147483647 : Int32)) % (9 : Int32)))])
    refine own_st (fun _ k => XS.iconst X0.here hx rfl (hb hby at_31) k) ?_
    show own_Go _ _ _ _ T0 (mkF m 32 #[.val (.int p1), .val (.int p2), .val (.int ((p1 &&& (2147483647 : Int32)) % (9 : Int32))), .unset, .unset] [(.int (1 : Int32)), (.int ((p1 &&& (2147483647 : Int32)) % (9 : Int32)))])
    by_cases hk1 : ((p1 &&& (2147483647 : Int32)) % (9 : Int32)) = (1 : Int32)
    · refine own_st (fun _ k => XS.icmpNo X0.here hx rfl (hb hby at_32) rfl (teq (hk1 : ((p1 &&& (2147483647 : Int32)) % (9 : Int32)) = (1 : Int32))).2 k) ?_
      show own_Go _ _ _ _ T0 (mkF m 35 #[.val (.int p1), .val (.int p2), .val (.int ((p1 &&& (2147483647 : Int32)) % (9 : Int32))), .unset, .unset] [])
      obtain ⟨T3, X3, e3, st3⟩ := getS2 X0 hx hZ hown (host := "") (Or.inl (own_w22 hw)) Via.refl e0 (S1.ext O0) (g := (mkF m 35 #[.val (.int p1), .val (.int p2), .val (.int ((p1 &&& (2147483647 : Int32)) % (9 : Int32))), .unset, .unset] [])) rfl (hb hby at_35)
      refine own_st st3 ?_
      show own_Go _ _ _ _ T3 (mkF m 38 #[.val (.int p1), .val (.int p2), .val (.int ((p1 &&& (2147483647 : Int32)) % (9 : Int32))), .unset, .unset] [(.ref w1)])
      refine own_st (fun _ k => XS.astoreN X3.here hx rfl (hb hby at_38) rfl rfl (l' := #[.val (.int p1), .val (.int p2), .val (.int ((p1 &&& (2147483647 : Int32)) % (9 : Int32))), .val (.ref w1), .unset]) rfl k) ?_
      show own_Go _ _ _ _ T3 (mkF m 39 #[.val (.int p1), .val (.int p2), .val (.int ((p1 &&& (2147483647 : Int32)) % (9 : Int32))), .val (.ref w1), .unset] [])
      refine own_st (fun _ k => XS.iloadN X3.here hx rfl (hb hby at_39) rfl k) ?_
      show own_Go _ _ _ _ T3 (mkF m 40 #[.val (.int p1), .val (.int p2), .val (.int ((p1 &&& (2147483647 : Int32)) % (9 : Int32))), .val (.ref w1), .unset] [(.int p2)])
      refine own_st (fun _ k => XS.iconst X3.here hx rfl (hb hby at_40) k) ?_
      show own_Go _ _ _ _ T3 (mkF m 41 #[.val (.int p1), .val (.int p2), .val (.int ((p1 &&& (2147483647 : Int32)) % (9 : Int32))), .val (.ref w1), .unset] [(.int (1 : Int32)), (.int p2)])
      by_cases hd : p2 = (1 : Int32)
      · refine own_st (fun _ k => XS.icmpNo X3.here hx rfl (hb hby at_41) rfl (teq (hd : p2 = (1 : Int32))).2 k) ?_
        show own_Go _ _ _ _ T3 (mkF m 44 #[.val (.int p1), .val (.int p2), .val (.int ((p1 &&& (2147483647 : Int32)) % (9 : Int32))), .val (.ref w1), .unset] [])
        refine own_st (fun _ k => XS.iconst X3.here hx rfl (hb hby at_44) k) ?_
        show own_Go _ _ _ _ T3 (mkF m 45 #[.val (.int p1), .val (.int p2), .val (.int ((p1 &&& (2147483647 : Int32)) % (9 : Int32))), .val (.ref w1), .unset] [(.int (1 : Int32))])
        refine own_st (fun _ k => XS.goto X3.here hx rfl (pc0 := 45) (pc' := 49) rfl (hb hby at_45) (by decide) (by decide) k) ?_
        show own_Go _ _ _ _ T3 (mkF m 49 #[.val (.int p1), .val (.int p2), .val (.int ((p1 &&& (2147483647 : Int32)) % (9 : Int32))), .val (.ref w1), .unset] [(.int (1 : Int32))])
        refine own_st (fun _ k => XS.istore X3.here hx rfl (hb hby at_49) rfl (l' := #[.val (.int p1), .val (.int p2), .val (.int ((p1 &&& (2147483647 : Int32)) % (9 : Int32))), .val (.ref w1), .val (.int (1 : Int32))]) rfl k) ?_
        show own_Go _ _ _ _ T3 (mkF m 51 #[.val (.int p1), .val (.int p2), .val (.int ((p1 &&& (2147483647 : Int32)) % (9 : Int32))), .val (.ref w1), .val (.int (1 : Int32))] [])
        refine own_st (fun _ k => XS.goto X3.here hx rfl (pc0 := 51) (pc' := 225) rfl (hb hby at_51) (by decide) (by decide) k) ?_
        show own_Go _ _ _ _ T3 (mkF m 225 #[.val (.int p1), .val (.int p2), .val (.int ((p1 &&& (2147483647 : Int32)) % (9 : Int32))), .val (.ref w1), .val (.int (1 : Int32))] [])
        exact tl _ _ _ X3 N0 e3 O0 _ _ _ _ _ _ E1 (own_w24 hw) Fi1 Fa1 (own_yes (a := 1) (b := 1) (by decide) (by decide) (by have := own_eqI hd (k := 1) (by decide); have := rng32 p2; omega) (by have := own_eqI hd (k := 1) (by decide); have := rng32 p2; omega))
      · refine own_st (fun _ k => XS.icmpYes X3.here hx rfl (pc0 := 41) (pc' := 48) rfl (hb hby at_41) rfl (feq (hd : ¬ (p2 = (1 : Int32)))).2 (by decide) (by decide) k) ?_
        show own_Go _ _ _ _ T3 (mkF m 48 #[.val (.int p1), .val (.int p2), .val (.int ((p1 &&& (2147483647 : Int32)) % (9 : Int32))), .val (.ref w1), .unset] [])
        refine own_st (fun _ k => XS.iconst X3.here hx rfl (hb hby at_48) k) ?_
        show own_Go _ _ _ _ T3 (mkF m 49 #[.val (.int p1), .val (.int p2), .val (.int ((p1 &&& (2147483647 : Int32)) % (9 : Int32))), .val (.ref w1), .unset] [(.int (0 : Int32))])
        refine own_st (fun _ k => XS.istore X3.here hx rfl (hb hby at_49) rfl (l' := #[.val (.int p1), .val (.int p2), .val (.int ((p1 &&& (2147483647 : Int32)) % (9 : Int32))), .val (.ref w1), .val (.int (0 : Int32))]) rfl k) ?_
        show own_Go _ _ _ _ T3 (mkF m 51 #[.val (.int p1), .val (.int p2), .val (.int ((p1 &&& (2147483647 : Int32)) % (9 : Int32))), .val (.ref w1), .val (.int (0 : Int32))] [])
        refine own_st (fun _ k => XS.goto X3.here hx rfl (pc0 := 51) (pc' := 225) rfl (hb hby at_51) (by decide) (by decide) k) ?_
        show own_Go _ _ _ _ T3 (mkF m 225 #[.val (.int p1), .val (.int p2), .val (.int ((p1 &&& (2147483647 : Int32)) % (9 : Int32))), .val (.ref w1), .val (.int (0 : Int32))] [])
        exact tl _ _ _ X3 N0 e3 O0 _ _ _ _ _ _ E1 (own_w24 hw) Fi1 Fa1 (own_no (a := 1) (b := 1) (by decide) (by decide) (by have := own_neI hd (k := 1) (by decide); have := rng32 p2; omega))
    · refine own_st (fun _ k => XS.icmpYes X0.here hx rfl (pc0 := 32) (pc' := 54) rfl (hb hby at_32) rfl (feq (hk1 : ¬ (((p1 &&& (2147483647 : Int32)) % (9 : Int32)) = (1 : Int32)))).2 (by decide) (by decide) k) ?_
      show own_Go _ _ _ _ T0 (mkF m 54 #[.val (.int p1), .val (.int p2), .val (.int ((p1 &&& (2147483647 : Int32)) % (9 : Int32))), .unset, .unset] [])
      refine own_st (fun _ k => XS.iloadN X0.here hx rfl (hb hby at_54) rfl k) ?_
      show own_Go _ _ _ _ T0 (mkF m 55 #[.val (.int p1), .val (.int p2), .val (.int ((p1 &&& (2147483647 : Int32)) % (9 : Int32))), .unset, .unset] [(.int ((p1 &&& (2147483647 : Int32)) % (9 : Int32)))])
      refine own_st (fun _ k => XS.iconst X0.here hx rfl (hb hby at_55) k) ?_
      show own_Go _ _ _ _ T0 (mkF m 56 #[.val (.int p1), .val (.int p2), .val (.int ((p1 &&& (2147483647 : Int32)) % (9 : Int32))), .unset, .unset] [(.int (2 : Int32)), (.int ((p1 &&& (2147483647 : Int32)) % (9 : Int32)))])
      by_cases hk2 : ((p1 &&& (2147483647 : Int32)) % (9 : Int32)) = (2 : Int32)
      · refine own_st (fun _ k => XS.icmpNo X0.here hx rfl (hb hby at_56) rfl (teq (hk2 : ((p1 &&& (2147483647 : Int32)) % (9 : Int32)) = (2 : Int32))).2 k) ?_
        show own_Go _ _ _ _ T0 (mkF m 59 #[.val (.int p1), .val (.int p2), .val (.int ((p1 &&& (2147483647 : Int32)) % (9 : Int32))), .unset, .unset] [])
        obtain ⟨T4, X4, e4, st4⟩ := getS2 X0 hx hZ hown (host := "") (Or.inl (own_w41 hw)) Via.refl e0 (S2.ext O0) (g := (mkF m 59 #[.val (.int p1), .val (.int p2), .val (.int ((p1 &&& (2147483647 : Int32)) % (9 : Int32))), .unset, .unset] [])) rfl (hb hby at_59)
        refine own_st st4 ?_
        show own_Go _ _ _ _ T4 (mkF m 62 #[.val (.int p1), .val (.int p2), .val (.int ((p1 &&& (2147483647 : Int32)) % (9 : Int32))), .unset, .unset] [(.ref w2)])
        refine own_st (fun _ k => XS.astoreN X4.here hx rfl (hb hby at_62) rfl rfl (l' := #[.val (.int p1), .val (.int p2), .val (.int ((p1 &&& (2147483647 : Int32)) % (9 : Int32))), .val (.ref w2), .unset]) rfl k) ?_
        show own_Go _ _ _ _ T4 (mkF m 63 #[.val (.int p1), .val (.int p2), .val (.int ((p1 &&& (2147483647 : Int32)) % (9 : Int32))), .val (.ref w2), .unset] [])
        refine own_st (fun _ k => XS.iloadN X4.here hx rfl (hb hby at_63) rfl k) ?_
        show own_Go _ _ _ _ T4 (mkF m 64 #[.val (.int p1), .val (.int p2), .val (.int ((p1 &&& (2147483647 : Int32)) % (9 : Int32))), .val (.ref w2), .unset] [(.int p2)])
        refine own_st (fun _ k => XS.iconst X4.here hx rfl (hb hby at_64) k) ?_
        show own_Go _ _ _ _ T4 (mkF m 65 #[.val (.int p1), .val (.int p2), .val (.int ((p1 &&& (2147483647 : Int32)) % (9 : Int32))), .val (.ref w2), .unset] [(.int (1 : Int32)), (.int p2)])
        by_cases hd : p2 = (1 : Int32)
        · refine own_st (fun _ k => XS.icmpYes X4.here hx rfl (pc0 := 65) (pc' := 73) rfl (hb hby at_65) rfl (teq (hd : p2 = (1 : Int32))).1 (by decide) (by decide) k) ?_
          show own_Go _ _ _ _ T4 (mkF m 73 #[.val (.int p1), .val (.int p2), .val (.int ((p1 &&& (2147483647 : Int32)) % (9 : Int32))), .val (.ref w2), .unset] [])
          refine own_st (fun _ k => XS.iconst X4.here hx rfl (hb hby at_73) k) ?_
          show own_Go _ _ _ _ T4 (mkF m 74 #[.val (.int p1), .val (.int p2), .val (.int ((p1 &&& (2147483647 : Int32)) % (9 : Int32))), .val (.ref w2), .unset] [(.int (1 : Int32))])
          refine own_st (fun _ k => XS.goto X4.here hx rfl (pc0 := 74) (pc' := 78) rfl (hb hby at_74) (by decide) (by decide) k) ?_
          show own_Go _ _ _ _ T4 (mkF m 78 #[.val (.int p1), .val (.int p2), .val (.int ((p1 &&& (2147483647 : Int32)) % (9 : Int32))), .val (.ref w2), .unset] [(.int (1 : Int32))])
          refine own_st (fun _ k => XS.istore X4.here hx rfl (hb hby at_78) rfl (l' := #[.val (.int p1), .val (.int p2), .val (.int ((p1 &&& (2147483647 : Int32)) % (9 : Int32))), .val (.ref w2), .val (.int (1 : Int32))]) rfl k) ?_
          show own_Go _ _ _ _ T4 (mkF m 80 #[.val (.int p1), .val (.int p2), .val (.int ((p1 &&& (2147483647 : Int32)) % (9 : Int32))), .val (.ref w2), .val (.int (1 : Int32))] [])
          refine own_st (fun _ k => XS.goto X4.here hx rfl (pc0 := 80) (pc' := 225) rfl (hb hby at_80) (by decide) (by decide) k) ?_
          show own_Go _ _ _ _ T4 (mkF m 225 #[.val (.int p1), .val (.int p2), .val (.int ((p1 &&& (2147483647 : Int32)) % (9 : Int32))), .val (.ref w2), .val (.int (1 : Int32))] [])
          exact tl _ _ _ X4 N0 e4 O0 _ _ _ _ _ _ E2 (own_w43 hw) Fi2 Fa2 (own_yes (a := 1) (b := 2) (by decide) (by decide) (by have := own_eqI hd (k := 1) (by decide); have := rng32 p2; omega) (by have := own_eqI hd (k := 1) (by decide); have := rng32 p2; omega))
        · refine own_st (fun _ k => XS.icmpNo X4.here hx rfl (hb hby at_65) rfl (feq (hd : ¬ (p2 = (1 : Int32)))).1 k) ?_
          show own_Go _ _ _ _ T4 (mkF m 68 #[.val (.int p1), .val (.int p2), .val (.int ((p1 &&& (2147483647 : Int32)) % (9 : Int32))), .val (.ref w2), .unset] [])
          refine own_st (fun _ k => XS.iloadN X4.here hx rfl (hb hby at_68) rfl k) ?_
          show own_Go _ _ _ _ T4 (mkF m 69 #[.val (.int p1), .val (.int p2), .val (.int ((p1 &&& (2147483647 : Int32)) % (9 : Int32))), .val (.ref w2), .unset] [(.int p2)])
          refine own_st (fun _ k => XS.iconst X4.here hx rfl (hb hby at_69) k) ?_
          show own_Go _ _ _ _ T4 (mkF m 70 #[.val (.int p1), .val (.int p2), .val (.int ((p1 &&& (2147483647 : Int32)) % (9 : Int32))), .val (.ref w2), .unset] [(.int (2 : Int32)), (.int p2)])
          by_cases hd2 : p2 = (2 : Int32)
          · refine own_st (fun _ k => XS.icmpNo X4.here hx rfl (hb hby at_70) rfl (teq (hd2 : p2 = (2 : Int32))).2 k) ?_
            show own_Go _ _ _ _ T4 (mkF m 73 #[.val (.int p1), .val (.int p2), .val (.int ((p1 &&& (2147483647 : Int32)) % (9 : Int32))), .val (.ref w2), .unset] [])
            refine own_st (fun _ k => XS.iconst X4.here hx rfl (hb hby at_73) k) ?_
            show own_Go _ _ _ _ T4 (mkF m 74 #[.val (.int p1), .val (.int p2), .val (.int ((p1 &&& (2147483647 : Int32)) % (9 : Int32))), .val (.ref w2), .unset] [(.int (1 : Int32))])
            refine own_st (fun _ k => XS.goto X4.here hx rfl (pc0 := 74) (pc' := 78) rfl (hb hby at_74) (by decide) (by decide) k) ?_
            show own_Go _ _ _ _ T4 (mkF m 78 #[.val (.int p1), .val (.int p2), .val (.int ((p1 &&& (2147483647 : Int32)) % (9 : Int32))), .val (.ref w2), .unset] [(.int (1 : Int32))])
            refine own_st (fun _ k => XS.istore X4.here hx rfl (hb hby at_78) rfl (l' := #[.val (.int p1), .val (.int p2), .val (.int ((p1 &&& (2147483647 : Int32)) % (9 : Int32))), .val (.ref w2), .val (.int (1 : Int32))]) rfl k) ?_
            show own_Go _ _ _ _ T4 (mkF m 80 #[.val (.int p1), .val (.int p2), .val (.int ((p1 &&& (2147483647 : Int32)) % (9 : Int32))), .val (.ref w2), .val (.int (1 : Int32))] [])
            refine own_st (fun _ k => XS.goto X4.here hx rfl (pc0 := 80) (pc' := 225) rfl (hb hby at_80) (by decide) (by decide) k) ?_
            show own_Go _ _ _ _ T4 (mkF m 225 #[.val (.int p1), .val (.int p2), .val (.int ((p1 &&& (2147483647 : Int32)) % (9 : Int32))), .val (.ref w2), .val (.int (1 : Int32))] [])
            exact tl _ _ _ X4 N0 e4 O0 _ _ _ _ _ _ E2 (own_w43 hw) Fi2 Fa2 (own_yes (a := 1) (b := 2) (by decide) (by decide) (by have := own_eqI hd2 (k := 2) (by decide); have := rng32 p2; omega) (by have := own_eqI hd2 (k := 2) (by decide); have := rng32 p2; omega))
          · refine own_st (fun _ k => XS.icmpYes X4.here hx rfl (pc0 := 70) (pc' := 77) rfl (hb hby at_70) rfl (feq (hd2 : ¬ (p2 = (2 : Int32)))).2 (by decide) (by decide) k) ?_
            show own_Go _ _ _ _ T4 (mkF m 77 #[.val (.int p1), .val (.int p2), .val (.int ((p1 &&& (2147483647 : Int32)) % (9 : Int32))), .val (.ref w2), .unset] [])
            refine own_st (fun _ k => XS.iconst X4.here hx rfl (hb hby at_77) k) ?_
            show own_Go _ _ _ _ T4 (mkF m 78 #[.val (.int p1), .val (.int p2), .val (.int ((p1 &&& (2147483647 : Int32)) % (9 : Int32))), .val (.ref w2), .unset] [(.int (0 : Int32))])
            refine own_st (fun _ k => XS.istore X4.here hx rfl (hb hby at_78) rfl (l' := #[.val (.int p1), .val (.int p2), .val (.int ((p1 &&& (2147483647 : Int32)) % (9 : Int32))), .val (.ref w2), .val (.int (0 : Int32))]) rfl k) ?_
            show own_Go _ _ _ _ T4 (mkF m 80 #[.val (.int p1), .val (.int p2), .val (.int ((p1 &&& (2147483647 : Int32)) % (9 : Int32))), .val (.ref w2), .val (.int (0 : Int32))] [])
            refine own_st (fun _ k => XS.goto X4.here hx rfl (pc0 := 80) (pc' := 225) rfl (hb hby at_80) (by decide) (by decide) k) ?_
            show own_Go _ _ _ _ T4 (mkF m 225 #[.val (.int p1), .val (.int p2), .val (.int ((p1 &&& (2147483647 : Int32)) % (9 : Int32))), .val (.ref w2), .val (.int (0 : Int32))] [])
            exact tl _ _ _ X4 N0 e4 O0 _ _ _ _ _ _ E2 (own_w43 hw) Fi2 Fa2 (own_no (a := 1) (b := 2) (by decide) (by decide) (by have := own_neI hd (k := 1) (by decide); have := own_neI hd2 (k := 2) (by decide); have := rng32 p2; omega))
      · refine own_st (fun _ k => XS.icmpYes X0.here hx rfl (pc0 := 56) (pc' := 83) rfl (hb hby at_56) rfl (feq (hk2 : ¬ (((p1 &&& (2147483647 : Int32)) % (9 : Int32)) = (2 : Int32)))).2 (by decide) (by decide) k) ?_
        show own_Go _ _ _ _ T0 (mkF m 83 #[.val (.int p1), .val (.int p2), .val (.int ((p1 &&& (2147483647 : Int32)) % (9 : Int32))), .unset, .unset] [])
        refine own_st (fun _ k => XS.iloadN X0.here hx rfl (hb hby at_83) rfl k) ?_
        show own_Go _ _ _ _ T0 (mkF m 84 #[.val (.int p1), .val (.int p2), .val (.int ((p1 &&& (2147483647 : Int32)) % (9 : Int32))), .unset, .unset] [(.int ((p1 &&& (2147483647 : Int32)) % (9 : Int32)))])
        refine own_st (fun _ k => XS.iconst X0.here hx rfl (hb hby at_84) k) ?_
        show own_Go _ _ _ _ T0 (mkF m 85 #[.val (.int p1), .val (.int p2), .val (.int ((p1 &&& (2147483647 : Int32)) % (9 : Int32))), .unset, .unset] [(.int (3 : Int32)), (.int ((p1 &&& (2147483647 : Int32)) % (9 : Int32)))])
        by_cases hk3 : ((p1 &&& (2147483647 : Int32)) % (9 : Int32)) = (3 : Int32)
        · refine own_st (fun _ k => XS.icmpNo X0.here hx rfl (hb hby at_85) rfl (teq (hk3 : ((p1 &&& (2147483647 : Int32)) % (9 : Int32)) = (3 : Int32))).2 k) ?_
          show own_Go _ _ _ _ T0 (mkF m 88 #[.val (.int p1), .val (.int p2), .val (.int ((p1 &&& (2147483647 : Int32)) % (9 : Int32))), .unset, .unset] [])
          obtain ⟨T5, X5, e5, st5⟩ := getS2 X0 hx hZ hown (host := "") (Or.inl (own_w36 hw)) Via.refl e0 (S3.ext O0) (g := (mkF m 88 #[.val (.int p1), .val (.int p2), .val (.int ((p1 &&& (2147483647 : Int32)) % (9 : Int32))), .unset, .unset] [])) rfl (hb hby at_88)
          refine own_st st5 ?_
          show own_Go _ _ _ _ T5 (mkF m 91 #[.val (.int p1), .val (.int p2), .val (.int ((p1 &&& (2147483647 : Int32)) % (9 : Int32))), .unset, .unset] [(.ref w3)])
          refine own_st (fun _ k => XS.astoreN X5.here hx rfl (hb hby at_91) rfl rfl (l' := #[.val (.int p1), .val (.int p2), .val (.int ((p1 &&& (2147483647 : Int32)) % (9 : Int32))), .val (.ref w3), .unset]) rfl k) ?_
          show own_Go _ _ _ _ T5 (mkF m 92 #[.val (.int p1), .val (.int p2), .val (.int ((p1 &&& (2147483647 : Int32)) % (9 : Int32))), .val (.ref w3), .unset] [])
          refine own_st (fun _ k => XS.iloadN X5.here hx rfl (hb hby at_92) rfl k) ?_
          show own_Go _ _ _ _ T5 (mkF m 93 #[.val (.int p1), .val (.int p2), .val (.int ((p1 &&& (2147483647 : Int32)) % (9 : Int32))), .val (.ref w3), .unset] [(.int p2)])
          refine own_st (fun _ k => XS.iconst X5.here hx rfl (hb hby at_93) k) ?_
          show own_Go _ _ _ _ T5 (mkF m 94 #[.val (.int p1), .val (.int p2), .val (.int ((p1 &&& (2147483647 : Int32)) % (9 : Int32))), .val (.ref w3), .unset] [(.int (1 : Int32)), (.int p2)])
          by_cases hd : p2 = (1 : Int32)
          · refine own_st (fun _ k => XS.icmpNo X5.here hx rfl (hb hby at_94) rfl (teq (hd : p2 = (1 : Int32))).2 k) ?_
            show own_Go _ _ _ _ T5 (mkF m 97 #[.val (.int p1), .val (.int p2), .val (.int ((p1 &&& (2147483647 : Int32)) % (9 : Int32))), .val (.ref w3), .unset] [])
            refine own_st (fun _ k => XS.iconst X5.here hx rfl (hb hby at_97) k) ?_
            show own_Go _ _ _ _ T5 (mkF m 98 #[.val (.int p1), .val (.int p2), .val (.int ((p1 &&& (2147483647 : Int32)) % (9 : Int32))), .val (.ref w3), .unset] [(.int (1 : Int32))])
            refine own_st (fun _ k => XS.goto X5.here hx rfl (pc0 := 98) (pc' := 102) rfl (hb hby at_98) (by decide) (by decide) k) ?_
            show own_Go _ _ _ _ T5 (mkF m 102 #[.val (.int p1), .val (.int p2), .val (.int ((p1 &&& (2147483647 : Int32)) % (9 : Int32))), .val (.ref w3), .unset] [(.int (1 : Int32))])
            refine own_st (fun _ k => XS.istore X5.here hx rfl (hb hby at_102) rfl (l' := #[.val (.int p1), .val (.int p2), .val (.int ((p1 &&& (2147483647 : Int32)) % (9 : Int32))), .val (.ref w3), .val (.int (1 : Int32))]) rfl k) ?_
            show own_Go _ _ _ _ T5 (mkF m 104 #[.val (.int p1), .val (.int p2), .val (.int ((p1 &&& (2147483647 : Int32)) % (9 : Int32))), .val (.ref w3), .val (.int (1 : Int32))] [])
            refine own_st (fun _ k => XS.goto X5.here hx rfl (pc0 := 104) (pc' := 225) rfl (hb hby at_104) (by decide) (by decide) k) ?_
            show own_Go _ _ _ _ T5 (mkF m 225 #[.val (.int p1), .val (.int p2), .val (.int ((p1 &&& (2147483647 : Int32)) % (9 : Int32))), .val (.ref w3), .val (.int (1 : Int32))] [])
            exact tl _ _ _ X5 N0 e5 O0 _ _ _ _ _ _ E3 (own_w38 hw) Fi3 Fa3 (own_yes (a := 1) (b := 1) (by decide) (by decide) (by have := own_eqI hd (k := 1) (by decide); have := rng32 p2; omega) (by have := own_eqI hd (k := 1) (by decide); have := rng32 p2; omega))
          · refine own_st (fun _ k => XS.icmpYes X5.here hx rfl (pc0 := 94) (pc' := 101) rfl (hb hby at_94) rfl (feq (hd : ¬ (p2 = (1 : Int32)))).2 (by decide) (by decide) k) ?_
            show own_Go _ _ _ _ T5 (mkF m 101 #[.val (.int p1), .val (.int p2), .val (.int ((p1 &&& (2147483647 : Int32)) % (9 : Int32))), .val (.ref w3), .unset] [])
            refine own_st (fun _ k => XS.iconst X5.here hx rfl (hb hby at_101) k) ?_
            show own_Go _ _ _ _ T5 (mkF m 102 #[.val (.int p1), .val (.int p2), .val (.int ((p1 &&& (2147483647 : Int32)) % (9 : Int32))), .val (.ref w3), .unset] [(.int (0 : Int32))])
            refine own_st (fun _ k => XS.istore X5.here hx rfl (hb hby at_102) rfl (l' := #[.val (.int p1), .val (.int p2), .val (.int ((p1 &&& (2147483647 : Int32)) % (9 : Int32))), .val (.ref w3), .val (.int (0 : Int32))]) rfl k) ?_
            show own_Go _ _ _ _ T5 (mkF m 104 #[.val (.int p1), .val (.int p2), .val (.int ((p1 &&& (2147483647 : Int32)) % (9 : Int32))), .val (.ref w3), .val (.int (0 : Int32))] [])
            refine own_st (fun _ k => XS.goto X5.here hx rfl (pc0 := 104) (pc' := 225) rfl (hb hby at_104) (by decide) (by decide) k) ?_
            show own_Go _ _ _ _ T5 (mkF m 225 #[.val (.int p1), .val (.int p2), .val (.int ((p1 &&& (2147483647 : Int32)) % (9 : Int32))), .val (.ref w3), .val (.int (0 : Int32))] [])
            exact tl _ _ _ X5 N0 e5 O0 _ _ _ _ _ _ E3 (own_w38 hw) Fi3 Fa3 (own_no (a := 1) (b := 1) (by decide) (by decide) (by have := own_neI hd (k := 1) (by decide); have := rng32 p2; omega))
        · refine own_st (fun _ k => XS.icmpYes X0.here hx rfl (pc0 := 85) (pc' := 107) rfl (hb hby at_85) rfl (feq (hk3 : ¬ (((p1 &&& (2147483647 : Int32)) % (9 : Int32)) = (3 : Int32)))).2 (by decide) (by decide) k) ?_
          show own_Go _ _ _ _ T0 (mkF m 107 #[.val (.int p1), .val (.int p2), .val (.int ((p1 &&& (2147483647 : Int32)) % (9 : Int32))), .unset, .unset] [])
          refine own_st (fun _ k => XS.iloadN X0.here hx rfl (hb hby at_107) rfl k) ?_
          show own_Go _ _ _ _ T0 (mkF m 108 #[.val (.int p1), .val (.int p2), .val (.int ((p1 &&& (2147483647 : Int32)) % (9 : Int32))), .unset, .unset] [(.int ((p1 &&& (2147483647 : Int32)) % (9 : Int32)))])
          refine own_st (fun _ k => XS.iconst X0.here hx rfl (hb hby at_108) k) ?_
          show own_Go _ _ _ _ T0 (mkF m 109 #[.val (.int p1), .val (.int p2), .val (.int ((p1 &&& (2147483647 : Int32)) % (9 : Int32))), .unset, .unset] [(.int (4 : Int32)), (.int ((p1 &&& (2147483647 : Int32)) % (9 : Int32)))])
          by_cases hk4 : ((p1 &&& (2147483647 : Int32)) % (9 : Int32)) = (4 : Int32)
          · refine own_st (fun _ k => XS.icmpNo X0.here hx rfl (hb hby at_109) rfl (teq (hk4 : ((p1 &&& (2147483647 : Int32)) % (9 : Int32)) = (4 : Int32))).2 k) ?_
            show own_Go _ _ _ _ T0 (mkF m 112 #[.val (.int p1), .val (.int p2), .val (.int ((p1 &&& (2147483647 : Int32)) % (9 : Int32))), .unset, .unset] [])
            obtain ⟨T6, X6, e6, st6⟩ := getS2 X0 hx hZ hown (host := "") (Or.inl (own_w18 hw)) Via.refl e0 (S4.ext O0) (g := (mkF m 112 #[.val (.int p1), .val (.int p2), .val (.int ((p1 &&& (2147483647 : Int32)) % (9 : Int32))), .unset, .unset] [])) rfl (hb hby at_112)
            refine own_st st6 ?_
            show own_Go _ _ _ _ T6 (mkF m 115 #[.val (.int p1), .val (.int p2), .val (.int ((p1 &&& (2147483647 : Int32)) % (9 : Int32))), .unset, .unset] [(.ref w4)])
            refine own_st (fun _ k => XS.astoreN X6.here hx rfl (hb hby at_115) rfl rfl (l' := #[.val (.int p1), .val (.int p2), .val (.int ((p1 &&& (2147483647 : Int32)) % (9 : Int32))), .val (.ref w4), .unset]) rfl k) ?_
            show own_Go _ _ _ _ T6 (mkF m 116 #[.val (.int p1), .val (.int p2), .val (.int ((p1 &&& (2147483647 : Int32)) % (9 : Int32))), .val (.ref w4), .unset] [])
            refine own_st (fun _ k => XS.iloadN X6.here hx rfl (hb hby at_116) rfl k) ?_
            show own_Go _ _ _ _ T6 (mkF m 117 #[.val (.int p1), .val (.int p2), .val (.int ((p1 &&& (2147483647 : Int32)) % (9 : Int32))), .val (.ref w4), .unset] [(.int p2)])
            refine own_st (fun _ k => XS.iconst X6.here hx rfl (hb hby at_117) k) ?_
            show own_Go _ _ _ _ T6 (mkF m 118 #[.val (.int p1), .val (.int p2), .val (.int ((p1 &&& (2147483647 : Int32)) % (9 : Int32))), .val (.ref w4), .unset] [(.int (2 : Int32)), (.int p2)])
            by_cases hd : p2 = (2 : Int32)
            · refine own_st (fun _ k => XS.icmpNo X6.here hx rfl (hb hby at_118) rfl (teq (hd : p2 = (2 : Int32))).2 k) ?_
              show own_Go _ _ _ _ T6 (mkF m 121 #[.val (.int p1), .val (.int p2), .val (.int ((p1 &&& (2147483647 : Int32)) % (9 : Int32))), .val (.ref w4), .unset] [])
              refine own_st (fun _ k => XS.iconst X6.here hx rfl (hb hby at_121) k) ?_
              show own_Go _ _ _ _ T6 (mkF m 122 #[.val (.int p1), .val (.int p2), .val (.int ((p1 &&& (2147483647 : Int32)) % (9 : Int32))), .val (.ref w4), .unset] [(.int (1 : Int32))])
              refine own_st (fun _ k => XS.goto X6.here hx rfl (pc0 := 122) (pc' := 126) rfl (hb hby at_122) (by decide) (by decide) k) ?_
              show own_Go _ _ _ _ T6 (mkF m 126 #[.val (.int p1), .val (.int p2), .val (.int ((p1 &&& (2147483647 : Int32)) % (9 : Int32))), .val (.ref w4), .unset] [(.int (1 : Int32))])
              refine own_st (fun _ k => XS.istore X6.here hx rfl (hb hby at_126) rfl (l' := #[.val (.int p1), .val (.int p2), .val (.int ((p1 &&& (2147483647 : Int32)) % (9 : Int32))), .val (.ref w4), .val (.int (1 : Int32))]) rfl k) ?_
              show own_Go _ _ _ _ T6 (mkF m 128 #[.val (.int p1), .val (.int p2), .val (.int ((p1 &&& (2147483647 : Int32)) % (9 : Int32))), .val (.ref w4), .val (.int (1 : Int32))] [])
              refine own_st (fun _ k => XS.goto X6.here hx rfl (pc0 := 128) (pc' := 225) rfl (hb hby at_128) (by decide) (by decide) k) ?_
              show own_Go _ _ _ _ T6 (mkF m 225 #[.val (.int p1), .val (.int p2), .val (.int ((p1 &&& (2147483647 : Int32)) % (9 : Int32))), .val (.ref w4), .val (.int (1 : Int32))] [])
              exact tl _ _ _ X6 N0 e6 O0 _ _ _ _ _ _ E4 (own_w20 hw) Fi4 Fa4 (own_yes (a := 2) (b := 2) (by decide) (by decide) (by have := own_eqI hd (k := 2) (by decide); have := rng32 p2; omega) (by have := own_eqI hd (k := 2) (by decide); have := rng32 p2; omega))
            · refine own_st (fun _ k => XS.icmpYes X6.here hx rfl (pc0 := 118) (pc' := 125) rfl (hb hby at_118) rfl (feq (hd : ¬ (p2 = (2 : Int32)))).2 (by decide) (by decide) k) ?_
              show own_Go _ _ _ _ T6 (mkF m 125 #[.val (.int p1), .val (.int p2), .val (.int ((p1 &&& (2147483647 : Int32)) % (9 : Int32))), .val (.ref w4), .unset] [])
              refine own_st (fun _ k => XS.iconst X6.here hx rfl (hb hby at_125) k) ?_
              show own_Go _ _ _ _ T6 (mkF m 126 #[.val (.int p1), .val (.int p2), .val (.int ((p1 &&& (2147483647 : Int32)) % (9 : Int32))), .val (.ref w4), .unset] [(.int (0 : Int32))])
              refine own_st (fun _ k => XS.istore X6.here hx rfl (hb hby at_126) rfl (l' := #[.val (.int p1), .val (.int p2), .val (.int ((p1 &&& (2147483647 : Int32)) % (9 : Int32))), .val (.ref w4), .val (.int (0 : Int32))]) rfl k) ?_
              show own_Go _ _ _ _ T6 (mkF m 128 #[.val (.int p1), .val (.int p2), .val (.int ((p1 &&& (2147483647 : Int32)) % (9 : Int32))), .val (.ref w4), .val (.int (0 : Int32))] [])
              refine own_st (fun _ k => XS.goto X6.here hx rfl (pc0 := 128) (pc' := 225) rfl (hb hby at_128) (by decide) (by decide) k) ?_
              show own_Go _ _ _ _ T6 (mkF m 225 #[.val (.int p1), .val (.int p2), .val (.int ((p1 &&& (2147483647 : Int32)) % (9 : Int32))), .val (.ref w4), .val (.int (0 : Int32))] [])
              exact tl _ _ _ X6 N0 e6 O0 _ _ _ _ _ _ E4 (own_w20 hw) Fi4 Fa4 (own_no (a := 2) (b := 2) (by decide) (by decide) (by have := own_neI hd (k := 2) (by decide); have := rng32 p2; omega))
          · refine own_st (fun _ k => XS.icmpYes X0.here hx rfl (pc0 := 109) (pc' := 131) rfl (hb hby at_109) rfl (feq (hk4 : ¬ (((p1 &&& (2147483647 : Int32)) % (9 : Int32)) = (4 : Int32)))).2 (by decide) (by decide) k) ?_
            show own_Go _ _ _ _ T0 (mkF m 131 #[.val (.int p1), .val (.int p2), .val (.int ((p1 &&& (2147483647 : Int32)) % (9 : Int32))), .unset, .unset] [])
            refine own_st (fun _ k => XS.iloadN X0.here hx rfl (hb hby at_131) rfl k) ?_
            show own_Go _ _ _ _ T0 (mkF m 132 #[.val (.int p1), .val (.int p2), .val (.int ((p1 &&& (2147483647 : Int32)) % (9 : Int32))), .unset, .unset] [(.int ((p1 &&& (2147483647 : Int32)) % (9 : Int32)))])
            refine own_st (fun _ k => XS.iconst X0.here hx rfl (hb hby at_132) k) ?_
            show own_Go _ _ _ _ T0 (mkF m 133 #[.val (.int p1), .val (.int p2), .val (.int ((p1 &&& (2147483647 : Int32)) % (9 : Int32))), .unset, .unset] [(.int (5 : Int32)), (.int ((p1 &&& (2147483647 : Int32)) % (9 : Int32)))])
            by_cases hk5 : ((p1 &&& (2147483647 : Int32)) % (9 : Int32)) = (5 : Int32)
            · refine own_st (fun _ k => XS.icmpNo X0.here hx rfl (hb hby at_133) rfl (teq (hk5 : ((p1 &&& (2147483647 : Int32)) % (9 : Int32)) = (5 : Int32))).2 k) ?_
              show own_Go _ _ _ _ T0 (mkF m 136 #[.val (.int p1), .val (.int p2), .val (.int ((p1 &&& (2147483647 : Int32)) % (9 : Int32))), .unset, .unset] [])
              obtain ⟨T7, X7, e7, st7⟩ := getS2 X0 hx hZ hown (host := "") (Or.inl (own_w13 hw)) Via.refl e0 (S5.ext O0) (g := (mkF m 136 #[.val (.int p1), .val (.int p2), .val (.int ((p1 &&& (2147483647 : Int32)) % (9 : Int32))), .unset, .unset] [])) rfl (hb hby at_136)
              refine own_st st7 ?_
              show own_Go _ _ _ _ T7 (mkF m 139 #[.val (.int p1), .val (.int p2), .val (.int ((p1 &&& (2147483647 : Int32)) % (9 : Int32))), .unset, .unset] [(.ref w5)])
              refine own_st (fun _ k => XS.astoreN X7.here hx rfl (hb hby at_139) rfl rfl (l' := #[.val (.int p1), .val (.int p2), .val (.int ((p1 &&& (2147483647 : Int32)) % (9 : Int32))), .val (.ref w5), .unset]) rfl k) ?_
              show own_Go _ _ _ _ T7 (mkF m 140 #[.val (.int p1), .val (.int p2), .val (.int ((p1 &&& (2147483647 : Int32)) % (9 : Int32))), .val (.ref w5), .unset] [])
              refine own_st (fun _ k => XS.iloadN X7.here hx rfl (hb hby at_140) rfl k) ?_
              show own_Go _ _ _ _ T7 (mkF m 141 #[.val (.int p1), .val (.int p2), .val (.int ((p1 &&& (2147483647 : Int32)) % (9 : Int32))), .val (.ref w5), .unset] [(.int p2)])
              refine own_st (fun _ k => XS.iconst X7.here hx rfl (hb hby at_141) k) ?_
              show own_Go _ _ _ _ T7 (mkF m 142 #[.val (.int p1), .val (.int p2), .val (.int ((p1 &&& (2147483647 : Int32)) % (9 : Int32))), .val (.ref w5), .unset] [(.int (1 : Int32)), (.int p2)])
              by_cases hd : p2 = (1 : Int32)
              · refine own_st (fun _ k => XS.icmpNo X7.here hx rfl (hb hby at_142) rfl (teq (hd : p2 = (1 : Int32))).2 k) ?_
                show own_Go _ _ _ _ T7 (mkF m 145 #[.val (.int p1), .val (.int p2), .val (.int ((p1 &&& (2147483647 : Int32)) % (9 : Int32))), .val (.ref w5), .unset] [])
                refine own_st (fun _ k => XS.iconst X7.here hx rfl (hb hby at_145) k) ?_
                show own_Go _ _ _ _ T7 (mkF m 146 #[.val (.int p1), .val (.int p2), .val (.int ((p1 &&& (2147483647 : Int32)) % (9 : Int32))), .val (.ref w5), .unset] [(.int (1 : Int32))])
                refine own_st (fun _ k => XS.goto X7.here hx rfl (pc0 := 146) (pc' := 150) rfl (hb hby at_146) (by decide) (by decide) k) ?_
                show own_Go _ _ _ _ T7 (mkF m 150 #[.val (.int p1), .val (.int p2), .val (.int ((p1 &&& (2147483647 : Int32)) % (9 : Int32))), .val (.ref w5), .unset] [(.int (1 : Int32))])
                refine own_st (fun _ k => XS.istore X7.here hx rfl (hb hby at_150) rfl (l' := #[.val (.int p1), .val (.int p2), .val (.int ((p1 &&& (2147483647 : Int32)) % (9 : Int32))), .val (.ref w5), .val (.int (1 : Int32))]) rfl k) ?_
                show own_Go _ _ _ _ T7 (mkF m 152 #[.val (.int p1), .val (.int p2), .val (.int ((p1 &&& (2147483647 : Int32)) % (9 : Int32))), .val (.ref w5), .val (.int (1 : Int32))] [])
                refine own_st (fun _ k => XS.goto X7.here hx rfl (pc0 := 152) (pc' := 225) rfl (hb hby at_152) (by decide) (by decide) k) ?_
                show own_Go _ _ _ _ T7 (mkF m 225 #[.val (.int p1), .val (.int p2), .val (.int ((p1 &&& (2147483647 : Int32)) % (9 : Int32))), .val (.ref w5), .val (.int (1 : Int32))] [])
                exact tl _ _ _ X7 N0 e7 O0 _ _ _ _ _ _ E5 (own_w15 hw) Fi5 Fa5 (own_yes (a := 1) (b := 1) (by decide) (by decide) (by have := own_eqI hd (k := 1) (by decide); have := rng32 p2; omega) (by have := own_eqI hd (k := 1) (by decide); have := rng32 p2; omega))
              · refine own_st (fun _ k => XS.icmpYes X7.here hx rfl (pc0 := 142) (pc' := 149) rfl (hb hby at_142) rfl (feq (hd : ¬ (p2 = (1 : Int32)))).2 (by decide) (by decide) k) ?_
                show own_Go _ _ _ _ T7 (mkF m 149 #[.val (.int p1), .val (.int p2), .val (.int ((p1 &&& (2147483647 : Int32)) % (9 : Int32))), .val (.ref w5), .unset] [])
                refine own_st (fun _ k => XS.iconst X7.here hx rfl (hb hby at_149) k) ?_
                show own_Go _ _ _ _ T7 (mkF m 150 #[.val (.int p1), .val (.int p2), .val (.int ((p1 &&& (2147483647 : Int32)) % (9 : Int32))), .val (.ref w5), .unset] [(.int (0 : Int32))])
                refine own_st (fun _ k => XS.istore X7.here hx rfl (hb hby at_150) rfl (l' := #[.val (.int p1), .val (.int p2), .val (.int ((p1 &&& (2147483647 : Int32)) % (9 : Int32))), .val (.ref w5), .val (.int (0 : Int32))]) rfl k) ?_
                show own_Go _ _ _ _ T7 (mkF m 152 #[.val (.int p1), .val (.int p2), .val (.int ((p1 &&& (2147483647 : Int32)) % (9 : Int32))), .val (.ref w5), .val (.int (0 : Int32))] [])
                refine own_st (fun _ k => XS.goto X7.here hx rfl (pc0 := 152) (pc' := 225) rfl (hb hby at_152) (by decide) (by decide) k) ?_
                show own_Go _ _ _ _ T7 (mkF m 225 #[.val (.int p1), .val (.int p2), .val (.int ((p1 &&& (2147483647 : Int32)) % (9 : Int32))), .val (.ref w5), .val (.int (0 : Int32))] [])
                exact tl _ _ _ X7 N0 e7 O0 _ _ _ _ _ _ E5 (own_w15 hw) Fi5 Fa5 (own_no (a := 1) (b := 1) (by decide) (by decide) (by have := own_neI hd (k := 1) (by decide); have := rng32 p2; omega))
            · refine own_st (fun _ k => XS.icmpYes X0.here hx rfl (pc0 := 133) (pc' := 155) rfl (hb hby at_133) rfl (feq (hk5 : ¬ (((p1 &&& (2147483647 : Int32)) % (9 : Int32)) = (5 : Int32)))).2 (by decide) (by decide) k) ?_
              show own_Go _ _ _ _ T0 (mkF m 155 #[.val (.int p1), .val (.int p2), .val (.int ((p1 &&& (2147483647 : Int32)) % (9 : Int32))), .unset, .unset] [])
              refine own_st (fun _ k => XS.iloadN X0.here hx rfl (hb hby at_155) rfl k) ?_
              show own_Go _ _ _ _ T0 (mkF m 156 #[.val (.int p1), .val (.int p2), .val (.int ((p1 &&& (2147483647 : Int32)) % (9 : Int32))), .unset, .unset] [(.int ((p1 &&& (2147483647 : Int32)) % (9 : Int32)))])
              refine own_st (fun _ k => XS.bipush X0.here hx rfl (hb hby at_156) k) ?_
              show own_Go _ _ _ _ T0 (mkF m 158 #[.val (.int p1), .val (.int p2), .val (.int ((p1 &&& (2147483647 : Int32)) % (9 : Int32))), .unset, .unset] [(.int (6 : Int32)), (.int ((p1 &&& (2147483647 : Int32)) % (9 : Int32)))])
              by_cases hk6 : ((p1 &&& (2147483647 : Int32)) % (9 : Int32)) = (6 : Int32)
              · refine own_st (fun _ k => XS.icmpNo X0.here hx rfl (hb hby at_158) rfl (teq (hk6 : ((p1 &&& (2147483647 : Int32)) % (9 : Int32)) = (6 : Int32))).2 k) ?_
                show own_Go _ _ _ _ T0 (mkF m 161 #[.val (.int p1), .val (.int p2), .val (.int ((p1 &&& (2147483647 : Int32)) % (9 : Int32))), .unset, .unset] [])
                obtain ⟨T8, X8, e8, st8⟩ := getS2 X0 hx hZ hown (host := "") (Or.inl (own_w27 hw)) Via.refl e0 (S6.ext O0) (g := (mkF m 161 #[.val (.int p1), .val (.int p2), .val (.int ((p1 &&& (2147483647 : Int32)) % (9 : Int32))), .unset, .unset] [])) rfl (hb hby at_161)
                refine own_st st8 ?_
                show own_Go _ _ _ _ T8 (mkF m 164 #[.val (.int p1), .val (.int p2), .val (.int ((p1 &&& (2147483647 : Int32)) % (9 : Int32))), .unset, .unset] [(.ref w6)])
                refine own_st (fun _ k => XS.astoreN X8.here hx rfl (hb hby at_164) rfl rfl (l' := #[.val (.int p1), .val (.int p2), .val (.int ((p1 &&& (2147483647 : Int32)) % (9 : Int32))), .val (.ref w6), .unset]) rfl k) ?_
                show own_Go _ _ _ _ T8 (mkF m 165 #[.val (.int p1), .val (.int p2), .val (.int ((p1 &&& (2147483647 : Int32)) % (9 : Int32))), .val (.ref w6), .unset] [])
                refine own_st (fun _ k => XS.iloadN X8.here hx rfl (hb hby at_165) rfl k) ?_
                show own_Go _ _ _ _ T8 (mkF m 166 #[.val (.int p1), .val (.int p2), .val (.int ((p1 &&& (2147483647 : Int32)) % (9 : Int32))), .val (.ref w6), .unset] [(.int p2)])
                refine own_st (fun _ k => XS.iconst X8.here hx rfl (hb hby at_166) k) ?_
                show own_Go _ _ _ _ T8 (mkF m 167 #[.val (.int p1), .val (.int p2), .val (.int ((p1 &&& (2147483647 : Int32)) % (9 : Int32))), .val (.ref w6), .unset] [(.int (2 : Int32)), (.int p2)])
                by_cases hd : p2 < (2 : Int32)
                · refine own_st (fun _ k => XS.icmpYes X8.here hx rfl (pc0 := 167) (pc' := 174) rfl (hb hby at_167) rfl (tlt (hd : p2 < (2 : Int32))).1 (by decide) (by decide) k) ?_
                  show own_Go _ _ _ _ T8 (mkF m 174 #[.val (.int p1), .val (.int p2), .val (.int ((p1 &&& (2147483647 : Int32)) % (9 : Int32))), .val (.ref w6), .unset] [])
                  refine own_st (fun _ k => XS.iconst X8.here hx rfl (hb hby at_174) k) ?_
                  show own_Go _ _ _ _ T8 (mkF m 175 #[.val (.int p1), .val (.int p2), .val (.int ((p1 &&& (2147483647 : Int32)) % (9 : Int32))), .val (.ref w6), .unset] [(.int (0 : Int32))])
                  refine own_st (fun _ k => XS.istore X8.here hx rfl (hb hby at_175) rfl (l' := #[.val (.int p1), .val (.int p2), .val (.int ((p1 &&& (2147483647 : Int32)) % (9 : Int32))), .val (.ref w6), .val (.int (0 : Int32))]) rfl k) ?_
                  show own_Go _ _ _ _ T8 (mkF m 177 #[.val (.int p1), .val (.int p2), .val (.int ((p1 &&& (2147483647 : Int32)) % (9 : Int32))), .val (.ref w6), .val (.int (0 : Int32))] [])
                  refine own_st (fun _ k => XS.goto X8.here hx rfl (pc0 := 177) (pc' := 225) rfl (hb hby at_177) (by decide) (by decide) k) ?_
                  show own_Go _ _ _ _ T8 (mkF m 225 #[.val (.int p1), .val (.int p2), .val (.int ((p1 &&& (2147483647 : Int32)) % (9 : Int32))), .val (.ref w6), .val (.int (0 : Int32))] [])
                  exact tl _ _ _ X8 N0 e8 O0 _ _ _ _ _ _ E6 (own_w29 hw) Fi6 Fa6 (own_no (a := 2) (b := 2147483647) (by decide) (by decide) (by have := own_ltI hd (k := 2) (by decide); have := rng32 p2; omega))
                · refine own_st (fun _ k => XS.icmpNo X8.here hx rfl (hb hby at_167) rfl (flt (hd : ¬ (p2 < (2 : Int32)))).1 k) ?_
                  show own_Go _ _ _ _ T8 (mkF m 170 #[.val (.int p1), .val (.int p2), .val (.int ((p1 &&& (2147483647 : Int32)) % (9 : Int32))), .val (.ref w6), .unset] [])
                  refine own_st (fun _ k => XS.iconst X8.here hx rfl (hb hby at_170) k) ?_
                  show own_Go _ _ _ _ T8 (mkF m 171 #[.val (.int p1), .val (.int p2), .val (.int ((p1 &&& (2147483647 : Int32)) % (9 : Int32))), .val (.ref w6), .unset] [(.int (1 : Int32))])
                  refine own_st (fun _ k => XS.goto X8.here hx rfl (pc0 := 171) (pc' := 175) rfl (hb hby at_171) (by decide) (by decide) k) ?_
                  show own_Go _ _ _ _ T8 (mkF m 175 #[.val (.int p1), .val (.int p2), .val (.int ((p1 &&& (2147483647 : Int32)) % (9 : Int32))), .val (.ref w6), .unset] [(.int (1 : Int32))])
                  refine own_st (fun _ k => XS.istore X8.here hx rfl (hb hby at_175) rfl (l' := #[.val (.int p1), .val (.int p2), .val (.int ((p1 &&& (2147483647 : Int32)) % (9 : Int32))), .val (.ref w6), .val (.int (1 : Int32))]) rfl k) ?_
                  show own_Go _ _ _ _ T8 (mkF m 177 #[.val (.int p1), .val (.int p2), .val (.int ((p1 &&& (2147483647 : Int32)) % (9 : Int32))), .val (.ref w6), .val (.int (1 : Int32))] [])
                  refine own_st (fun _ k => XS.goto X8.here hx rfl (pc0 := 177) (pc' := 225) rfl (hb hby at_177) (by decide) (by decide) k) ?_
                  show own_Go _ _ _ _ T8 (mkF m 225 #[.val (.int p1), .val (.int p2), .val (.int ((p1 &&& (2147483647 : Int32)) % (9 : Int32))), .val (.ref w6), .val (.int (1 : Int32))] [])
                  exact tl _ _ _ X8 N0 e8 O0 _ _ _ _ _ _ E6 (own_w29 hw) Fi6 Fa6 (own_yes (a := 2) (b := 2147483647) (by decide) (by decide) (by have := own_nlI hd (k := 2) (by decide); have := rng32 p2; omega) (by have := own_nlI hd (k := 2) (by decide); have := rng32 p2; omega))
              · refine own_st (fun _ k => XS.icmpYes X0.here hx rfl (pc0 := 158) (pc' := 180) rfl (hb hby at_158) rfl (feq (hk6 : ¬ (((p1 &&& (2147483647 : Int32)) % (9 : Int32)) = (6 : Int32)))).2 (by decide) (by decide) k) ?_
                show own_Go _ _ _ _ T0 (mkF m 180 #[.val (.int p1), .val (.int p2), .val (.int ((p1 &&& (2147483647 : Int32)) % (9 : Int32))), .unset, .unset] [])
                refine own_st (fun _ k => XS.iloadN X0.here hx rfl (hb hby at_180) rfl k) ?_
                show own_Go _ _ _ _ T0 (mkF m 181 #[.val (.int p1), .val (.int p2), .val (.int ((p1 &&& (2147483647 : Int32)) % (9 : Int32))), .unset, .unset] [(.int ((p1 &&& (2147483647 : Int32)) % (9 : Int32)))])
                refine own_st (fun _ k => XS.bipush X0.here hx rfl (hb hby at_181) k) ?_
                show own_Go _ _ _ _ T0 (mkF m 183 #[.val (.int p1), .val (.int p2), .val (.int ((p1 &&& (2147483647 : Int32)) % (9 : Int32))), .unset, .unset] [(.int (7 : Int32)), (.int ((p1 &&& (2147483647 : Int32)) % (9 : Int32)))])
                by_cases hk7 : ((p1 &&& (2147483647 : Int32)) % (9 : Int32)) = (7 : Int32)
                · refine own_st (fun _ k => XS.icmpNo X0.here hx rfl (hb hby at_183) rfl (teq (hk7 : ((p1 &&& (2147483647 : Int32)) % (9 : Int32)) = (7 : Int32))).2 k) ?_
                  show own_Go _ _ _ _ T0 (mkF m 186 #[.val (.int p1), .val (.int p2), .val (.int ((p1 &&& (2147483647 : Int32)) % (9 : Int32))), .unset, .unset] [])
                  obtain ⟨T9, X9, e9, st9⟩ := getS2 X0 hx hZ hown (host := "") (Or.inl (own_w47 hw)) Via.refl e0 (S7.ext O0) (g := (mkF m 186 #[.val (.int p1), .val (.int p2), .val (.int ((p1 &&& (2147483647 : Int32)) % (9 : Int32))), .unset, .unset] [])) rfl (hb hby at_186)
                  refine own_st st9 ?_
                  show own_Go _ _ _ _ T9 (mkF m 189 #[.val (.int p1), .val (.int p2), .val (.int ((p1 &&& (2147483647 : Int32)) % (9 : Int32))), .unset, .unset] [(.ref w7)])
                  refine own_st (fun _ k => XS.astoreN X9.here hx rfl (hb hby at_189) rfl rfl (l' := #[.val (.int p1), .val (.int p2), .val (.int ((p1 &&& (2147483647 : Int32)) % (9 : Int32))), .val (.ref w7), .unset]) rfl k) ?_
                  show own_Go _ _ _ _ T9 (mkF m 190 #[.val (.int p1), .val (.int p2), .val (.int ((p1 &&& (2147483647 : Int32)) % (9 : Int32))), .val (.ref w7), .unset] [])
                  refine own_st (fun _ k => XS.iloadN X9.here hx rfl (hb hby at_190) rfl k) ?_
                  show own_Go _ _ _ _ T9 (mkF m 191 #[.val (.int p1), .val (.int p2), .val (.int ((p1 &&& (2147483647 : Int32)) % (9 : Int32))), .val (.ref w7), .unset] [(.int p2)])
                  by_cases hd : p2 = (0 : Int32)
                  · refine own_st (fun _ k => XS.ifYes X9.here hx rfl (pc0 := 191) (pc' := 199) rfl (hb hby at_191) rfl ((if0 _ _).trans (teq (hd : p2 = (0 : Int32))).1) (by decide) (by decide) k) ?_
                    show own_Go _ _ _ _ T9 (mkF m 199 #[.val (.int p1), .val (.int p2), .val (.int ((p1 &&& (2147483647 : Int32)) % (9 : Int32))), .val (.ref w7), .unset] [])
                    refine own_st (fun _ k => XS.iconst X9.here hx rfl (hb hby at_199) k) ?_
                    show own_Go _ _ _ _ T9 (mkF m 200 #[.val (.int p1), .val (.int p2), .val (.int ((p1 &&& (2147483647 : Int32)) % (9 : Int32))), .val (.ref w7), .unset] [(.int (1 : Int32))])
                    refine own_st (fun _ k => XS.goto X9.here hx rfl (pc0 := 200) (pc' := 204) rfl (hb hby at_200) (by decide) (by decide) k) ?_
                    show own_Go _ _ _ _ T9 (mkF m 204 #[.val (.int p1), .val (.int p2), .val (.int ((p1 &&& (2147483647 : Int32)) % (9 : Int32))), .val (.ref w7), .unset] [(.int (1 : Int32))])
                    refine own_st (fun _ k => XS.istore X9.here hx rfl (hb hby at_204) rfl (l' := #[.val (.int p1), .val (.int p2), .val (.int ((p1 &&& (2147483647 : Int32)) % (9 : Int32))), .val (.ref w7), .val (.int (1 : Int32))]) rfl k) ?_
                    show own_Go _ _ _ _ T9 (mkF m 206 #[.val (.int p1), .val (.int p2), .val (.int ((p1 &&& (2147483647 : Int32)) % (9 : Int32))), .val (.ref w7), .val (.int (1 : Int32))] [])
                    refine own_st (fun _ k => XS.goto X9.here hx rfl (pc0 := 206) (pc' := 225) rfl (hb hby at_206) (by decide) (by decide) k) ?_
                    show own_Go _ _ _ _ T9 (mkF m 225 #[.val (.int p1), .val (.int p2), .val (.int ((p1 &&& (2147483647 : Int32)) % (9 : Int32))), .val (.ref w7), .val (.int (1 : Int32))] [])
                    exact tl _ _ _ X9 N0 e9 O0 _ _ _ _ _ _ E7 (own_w49 hw) Fi7 Fa7 (own_yes (a := 0) (b := 1) (by decide) (by decide) (by have := own_eqI hd (k := 0) (by decide); have := rng32 p2; omega) (by have := own_eqI hd (k := 0) (by decide); have := rng32 p2; omega))
                  · refine own_st (fun _ k => XS.ifNo X9.here hx rfl (hb hby at_191) rfl ((if0 _ _).trans (feq (hd : ¬ (p2 = (0 : Int32)))).1) k) ?_
                    show own_Go _ _ _ _ T9 (mkF m 194 #[.val (.int p1), .val (.int p2), .val (.int ((p1 &&& (2147483647 : Int32)) % (9 : Int32))), .val (.ref w7), .unset] [])
                    refine own_st (fun _ k => XS.iloadN X9.here hx rfl (hb hby at_194) rfl k) ?_
                    show own_Go _ _ _ _ T9 (mkF m 195 #[.val (.int p1), .val (.int p2), .val (.int ((p1 &&& (2147483647 : Int32)) % (9 : Int32))), .val (.ref w7), .unset] [(.int p2)])
                    refine own_st (fun _ k => XS.iconst X9.here hx rfl (hb hby at_195) k) ?_
                    show own_Go _ _ _ _ T9 (mkF m 196 #[.val (.int p1), .val (.int p2), .val (.int ((p1 &&& (2147483647 : Int32)) % (9 : Int32))), .val (.ref w7), .unset] [(.int (1 : Int32)), (.int p2)])
                    by_cases hd2 : p2 = (1 : Int32)
                    · refine own_st (fun _ k => XS.icmpNo X9.here hx rfl (hb hby at_196) rfl (teq (hd2 : p2 = (1 : Int32))).2 k) ?_
                      show own_Go _ _ _ _ T9 (mkF m 199 #[.val (.int p1), .val (.int p2), .val (.int ((p1 &&& (2147483647 : Int32)) % (9 : Int32))), .val (.ref w7), .unset] [])
                      refine own_st (fun _ k => XS.iconst X9.here hx rfl (hb hby at_199) k) ?_
                      show own_Go _ _ _ _ T9 (mkF m 200 #[.val (.int p1), .val (.int p2), .val (.int ((p1 &&& (2147483647 : Int32)) % (9 : Int32))), .val (.ref w7), .unset] [(.int (1 : Int32))])
                      refine own_st (fun _ k => XS.goto X9.here hx rfl (pc0 := 200) (pc' := 204) rfl (hb hby at_200) (by decide) (by decide) k) ?_
                      show own_Go _ _ _ _ T9 (mkF m 204 #[.val (.int p1), .val (.int p2), .val (.int ((p1 &&& (2147483647 : Int32)) % (9 : Int32))), .val (.ref w7), .unset] [(.int (1 : Int32))])
                      refine own_st (fun _ k => XS.istore X9.here hx rfl (hb hby at_204) rfl (l' := #[.val (.int p1), .val (.int p2), .val (.int ((p1 &&& (2147483647 : Int32)) % (9 : Int32))), .val (.ref w7), .val (.int (1 : Int32))]) rfl k) ?_
                      show own_Go _ _ _ _ T9 (mkF m 206 #[.val (.int p1), .val (.int p2), .val (.int ((p1 &&& (2147483647 : Int32)) % (9 : Int32))), .val (.ref w7), .val (.int (1 : Int32))] [])
                      refine own_st (fun _ k => XS.goto X9.here hx rfl (pc0 := 206) (pc' := 225) rfl (hb hby at_206) (by decide) (by decide) k) ?_
                      show own_Go _ _ _ _ T9 (mkF m 225 #[.val (.int p1), .val (.int p2), .val (.int ((p1 &&& (2147483647 : Int32)) % (9 : Int32))), .val (.ref w7), .val (.int (1 : Int32))] [])
                      exact tl _ _ _ X9 N0 e9 O0 _ _ _ _ _ _ E7 (own_w49 hw) Fi7 Fa7 (own_yes (a := 0) (b := 1) (by decide) (by decide) (by have := own_eqI hd2 (k := 1) (by decide); have := rng32 p2; omega) (by have := own_eqI hd2 (k := 1) (by decide); have := rng32 p2; omega))
                    · refine own_st (fun _ k => XS.icmpYes X9.here hx rfl (pc0 := 196) (pc' := 203) rfl (hb hby at_196) rfl (feq (hd2 : ¬ (p2 = (1 : Int32)))).2 (by decide) (by decide) k) ?_
                      show own_Go _ _ _ _ T9 (mkF m 203 #[.val (.int p1), .val (.int p2), .val (.int ((p1 &&& (2147483647 : Int32)) % (9 : Int32))), .val (.ref w7), .unset] [])
                      refine own_st (fun _ k => XS.iconst X9.here hx rfl (hb hby at_203) k) ?_
                      show own_Go _ _ _ _ T9 (mkF m 204 #[.val (.int p1), .val (.int p2), .val (.int ((p1 &&& (2147483647 : Int32)) % (9 : Int32))), .val (.ref w7), .unset] [(.int (0 : Int32))])
                      refine own_st (fun _ k => XS.istore X9.here hx rfl (hb hby at_204) rfl (l' := #[.val (.int p1), .val (.int p2), .val (.int ((p1 &&& (2147483647 : Int32)) % (9 : Int32))), .val (.ref w7), .val (.int (0 : Int32))]) rfl k) ?_
                      show own_Go _ _ _ _ T9 (mkF m 206 #[.val (.int p1), .val (.int p2), .val (.int ((p1 &&& (2147483647 : Int32)) % (9 : Int32))), .val (.ref w7), .val (.int (0 : Int32))] [])
                      refine own_st (fun _ k => XS.goto X9.here hx rfl (pc0 := 206) (pc' := 225) rfl (hb hby at_206) (by decide) (by decide) k) ?_
                      show own_Go _ _ _ _ T9 (mkF m 225 #[.val (.int p1), .val (.int p2), .val (.int ((p1 &&& (2147483647 : Int32)) % (9 : Int32))), .val (.ref w7), .val (.int (0 : Int32))] [])
                      exact tl _ _ _ X9 N0 e9 O0 _ _ _ _ _ _ E7 (own_w49 hw) Fi7 Fa7 (own_no (a := 0) (b := 1) (by decide) (by decide) (by have := own_neI hd (k := 0) (by decide); have := own_neI hd2 (k := 1) (by decide); have := rng32 p2; omega))
                · refine own_st (fun _ k => XS.icmpYes X0.here hx rfl (pc0 := 183) (pc' := 209) rfl (hb hby at_183) rfl (feq (hk7 : ¬ (((p1 &&& (2147483647 : Int32)) % (9 : Int32)) = (7 : Int32)))).2 (by decide) (by decide) k) ?_
                  show own_Go _ _ _ _ T0 (mkF m 209 #[.val (.int p1), .val (.int p2), .val (.int ((p1 &&& (2147483647 : Int32)) % (9 : Int32))), .unset, .unset] [])
                  obtain ⟨T10, X10, e10, st10⟩ := getS2 X0 hx hZ hown (host := "") (Or.inl (own_w31 hw)) Via.refl e0 (S8.ext O0) (g := (mkF m 209 #[.val (.int p1), .val (.int p2), .val (.int ((p1 &&& (2147483647 : Int32)) % (9 : Int32))), .unset, .unset] [])) rfl (hb hby at_209)
                  refine own_st st10 ?_
                  show own_Go _ _ _ _ T10 (mkF m 212 #[.val (.int p1), .val (.int p2), .val (.int ((p1 &&& (2147483647 : Int32)) % (9 : Int32))), .unset, .unset] [(.ref w8)])
                  refine own_st (fun _ k => XS.astoreN X10.here hx rfl (hb hby at_212) rfl rfl (l' := #[.val (.int p1), .val (.int p2), .val (.int ((p1 &&& (2147483647 : Int32)) % (9 : Int32))), .val (.ref w8), .unset]) rfl k) ?_
                  show own_Go _ _ _ _ T10 (mkF m 213 #[.val (.int p1), .val (.int p2), .val (.int ((p1 &&& (2147483647 : Int32)) % (9 : Int32))), .val (.ref w8), .unset] [])
                  refine own_st (fun _ k => XS.iloadN X10.here hx rfl (hb hby at_213) rfl k) ?_
                  show own_Go _ _ _ _ T10 (mkF m 214 #[.val (.int p1), .val (.int p2), .val (.int ((p1 &&& (2147483647 : Int32)) % (9 : Int32))), .val (.ref w8), .unset] [(.int p2)])
                  refine own_st (fun _ k => XS.iconst X10.here hx rfl (hb hby at_214) k) ?_
                  show own_Go _ _ _ _ T10 (mkF m 215 #[.val (.int p1), .val (.int p2), .val (.int ((p1 &&& (2147483647 : Int32)) % (9 : Int32))), .val (.ref w8), .unset] [(.int (1 : Int32)), (.int p2)])
                  by_cases hd : p2 = (1 : Int32)
                  · refine own_st (fun _ k => XS.icmpNo X10.here hx rfl (hb hby at_215) rfl (teq (hd : p2 = (1 : Int32))).2 k) ?_
                    show own_Go _ _ _ _ T10 (mkF m 218 #[.val (.int p1), .val (.int p2), .val (.int ((p1 &&& (2147483647 : Int32)) % (9 : Int32))), .val (.ref w8), .unset] [])
                    refine own_st (fun _ k => XS.iconst X10.here hx rfl (hb hby at_218) k) ?_
                    show own_Go _ _ _ _ T10 (mkF m 219 #[.val (.int p1), .val (.int p2), .val (.int ((p1 &&& (2147483647 : Int32)) % (9 : Int32))), .val (.ref w8), .unset] [(.int (1 : Int32))])
                    refine own_st (fun _ k => XS.goto X10.here hx rfl (pc0 := 219) (pc' := 223) rfl (hb hby at_219) (by decide) (by decide) k) ?_
                    show own_Go _ _ _ _ T10 (mkF m 223 #[.val (.int p1), .val (.int p2), .val (.int ((p1 &&& (2147483647 : Int32)) % (9 : Int32))), .val (.ref w8), .unset] [(.int (1 : Int32))])
                    refine own_st (fun _ k => XS.istore X10.here hx rfl (hb hby at_223) rfl (l' := #[.val (.int p1), .val (.int p2), .val (.int ((p1 &&& (2147483647 : Int32)) % (9 : Int32))), .val (.ref w8), .val (.int (1 : Int32))]) rfl k) ?_
                    show own_Go _ _ _ _ T10 (mkF m 225 #[.val (.int p1), .val (.int p2), .val (.int ((p1 &&& (2147483647 : Int32)) % (9 : Int32))), .val (.ref w8), .val (.int (1 : Int32))] [])
                    exact tl _ _ _ X10 N0 e10 O0 _ _ _ _ _ _ E8 (own_w33 hw) Fi8 Fa8 (own_yes (a := 1) (b := 1) (by decide) (by decide) (by have := own_eqI hd (k := 1) (by decide); have := rng32 p2; omega) (by have := own_eqI hd (k := 1) (by decide); have := rng32 p2; omega))
                  · refine own_st (fun _ k => XS.icmpYes X10.here hx rfl (pc0 := 215) (pc' := 222) rfl (hb hby at_215) rfl (feq (hd : ¬ (p2 = (1 : Int32)))).2 (by decide) (by decide) k) ?_
                    show own_Go _ _ _ _ T10 (mkF m 222 #[.val (.int p1), .val (.int p2), .val (.int ((p1 &&& (2147483647 : Int32)) % (9 : Int32))), .val (.ref w8), .unset] [])
                    refine own_st (fun _ k => XS.iconst X10.here hx rfl (hb hby at_222) k) ?_
                    show own_Go _ _ _ _ T10 (mkF m 223 #[.val (.int p1), .val (.int p2), .val (.int ((p1 &&& (2147483647 : Int32)) % (9 : Int32))), .val (.ref w8), .unset] [(.int (0 : Int32))])
                    refine own_st (fun _ k => XS.istore X10.here hx rfl (hb hby at_223) rfl (l' := #[.val (.int p1), .val (.int p2), .val (.int ((p1 &&& (2147483647 : Int32)) % (9 : Int32))), .val (.ref w8), .val (.int (0 : Int32))]) rfl k) ?_
                    show own_Go _ _ _ _ T10 (mkF m 225 #[.val (.int p1), .val (.int p2), .val (.int ((p1 &&& (2147483647 : Int32)) % (9 : Int32))), .val (.ref w8), .val (.int (0 : Int32))] [])
                    exact tl _ _ _ X10 N0 e10 O0 _ _ _ _ _ _ E8 (own_w33 hw) Fi8 Fa8 (own_no (a := 1) (b := 1) (by decide) (by decide) (by have := own_neI hd (k := 1) (by decide); have := rng32 p2; omega))
set_option maxRecDepth 65536 in
set_option maxHeartbeats 40000000 in
theorem comes_1 {Post : Tables → Env → Array Value → State → Outcome → State → Prop} (hpost : ∀ tb e args s v u, (limb_1_1.after args s (.returned v) u = true ∧ limb_1_2.after args s (.returned v) u = true ∧ True) → FrameEnd s (.returned v) u (Jvm.fieldLocs frame_1_writes args s ++ Jvm.arrayLocs frame_1_arrays args s ++ Jvm.staticLocs frame_1_statics s) 0 0 → Post tb e args s (.returned v) u) :
    ArmFor flags0 classFile x code maxLocals ret World_1 tables_1 room_1 Calls_1 rest_1 Pre_1 Post := by
  intro l hfl _ _ p e ha hc hk s m args below hf hA hF happ hP
  obtain ⟨hcalls, hrest, hpre⟩ := hP
  obtain ⟨-, -, -, hnamed, -, -, -, hat⟩ := (Spec.applies_iff hf).mp happ
  obtain ⟨hg, hn⟩ := and_e (Cond.before_iff.mp (show (Jvm.Cond.and given_1 narrow_1).before args s = true from hpre))
  obtain ⟨q1, q2⟩ := and_e hg
  obtain ⟨q3, q4⟩ := and_e q2
  obtain ⟨w0_, w1_, rfl⟩ : ∃ w0_ w1_ : Value, args = #[w0_, w1_] := by
    have hs : args.size = 2 := by simpa [Cond.value, given_1] using q1
    obtain ⟨L⟩ := args
    match L, hs with
    | [w0_, w1_], _ => exact ⟨w0_, w1_, rfl⟩
  have hw : own_W s _ := fun d (hd : d ∈ tables_1) => atoms_spec (ws := Jvm.Cond.code x code maxLocals ret :: tables_1) hat d (List.mem_cons_of_mem _ hd)
  have hfit : Fit s := fun {y c} hc i hi => by
    obtain ⟨ha, rfl⟩ := Array.getElem?_eq_some_iff.mp hc
    have q := List.all_eq_true.mp ((Array.all_eq_true_iff_forall_mem.mp hF) _ (Array.getElem_mem ha)) i (List.mem_range.mpr hi)
    simpa [Array.getElem?_eq_getElem hi] using q
  obtain ⟨i0, ei0⟩ := is_v q3
  obtain rfl : w0_ = (.int i0) := Option.some.inj ei0
  obtain ⟨i1, ei1⟩ := is_v q4
  obtain rfl : w1_ = (.int i1) := Option.some.inj ei1
  have hn : narrow_1.value _ s none s [] = some true := hn
  obtain ⟨q5, q6⟩ := and_e hn
  obtain ⟨q7, q8⟩ := and_e q6
  obtain ⟨q9, q10⟩ := and_e q8
  obtain ⟨q11, q12⟩ := and_e q10
  obtain ⟨q13, q14⟩ := and_e q12
  obtain ⟨q15, q16⟩ := and_e q14
  obtain ⟨q17, q18⟩ := and_e q16
  obtain ⟨q19, q20⟩ := and_e q18
  obtain ⟨q21, q22⟩ := and_e q20
  obtain ⟨q23, q24⟩ := and_e q22
  obtain ⟨q25, q26⟩ := and_e q24
  obtain ⟨q27, q28⟩ := and_e q26
  obtain ⟨q29, q30⟩ := and_e q28
  obtain ⟨q31, q32⟩ := and_e q30
  obtain ⟨q33, q34⟩ := and_e q32
  obtain ⟨q35, q36⟩ := and_e q34
  obtain ⟨q37, q38⟩ := and_e q36
  obtain ⟨q39, q40⟩ := and_e q38
  obtain ⟨q41, q42⟩ := and_e q40
  obtain ⟨q43, q44⟩ := and_e q42
  obtain ⟨q45, q46⟩ := and_e q44
  obtain ⟨q47, q48⟩ := and_e q46
  obtain ⟨q49, q50⟩ := and_e q48
  obtain ⟨q51, q52⟩ := and_e q50
  obtain ⟨q53, q54⟩ := and_e q52
  obtain ⟨q55, q56⟩ := and_e q54
  obtain ⟨w57, vw57⟩ := exa_v q5
  have E58 := Exa.start vw57 q5
  have S59 := Sta.start vw57 (Or.inr ⟨(own_w2 hw), (own_w3 hw)⟩)
  have F60 := Fld.start ((fld_at vw57).symm.trans (own_eqi q7))
  have F61 := Fld.start ((fld_at vw57).symm.trans (own_eqi q9))
  obtain ⟨w62, vw62⟩ := exa_v q11
  have E63 := Exa.start vw62 q11
  have S64 := Sta.start vw62 (Or.inr ⟨(own_w2 hw), (own_w14 hw)⟩)
  have F65 := Fld.start ((fld_at vw62).symm.trans (own_eqi q13))
  have F66 := Fld.start ((fld_at vw62).symm.trans (own_eqi q15))
  obtain ⟨w67, vw67⟩ := exa_v q17
  have E68 := Exa.start vw67 q17
  have S69 := Sta.start vw67 (Or.inr ⟨(own_w2 hw), (own_w19 hw)⟩)
  have F70 := Fld.start ((fld_at vw67).symm.trans (own_eqi q19))
  obtain ⟨w71, vw71⟩ := exa_v q21
  have E72 := Exa.start vw71 q21
  have S73 := Sta.start vw71 (Or.inr ⟨(own_w2 hw), (own_w23 hw)⟩)
  have F74 := Fld.start ((fld_at vw71).symm.trans (own_eqi q23))
  have F75 := Fld.start ((fld_at vw71).symm.trans (own_eqi q25))
  obtain ⟨w76, vw76⟩ := exa_v q27
  have E77 := Exa.start vw76 q27
  have S78 := Sta.start vw76 (Or.inr ⟨(own_w2 hw), (own_w28 hw)⟩)
  have F79 := Fld.start ((fld_at vw76).symm.trans (own_eqi q29))
  obtain ⟨w80, vw80⟩ := exa_v q31
  have E81 := Exa.start vw80 q31
  have S82 := Sta.start vw80 (Or.inr ⟨(own_w2 hw), (own_w32 hw)⟩)
  have F83 := Fld.start ((fld_at vw80).symm.trans (own_eqi q33))
  have F84 := Fld.start ((fld_at vw80).symm.trans (own_eqi q35))
  obtain ⟨w85, vw85⟩ := exa_v q37
  have E86 := Exa.start vw85 q37
  have S87 := Sta.start vw85 (Or.inr ⟨(own_w2 hw), (own_w37 hw)⟩)
  have F88 := Fld.start ((fld_at vw85).symm.trans (own_eqi q39))
  have F89 := Fld.start ((fld_at vw85).symm.trans (own_eqi q41))
  obtain ⟨w90, vw90⟩ := exa_v q43
  have E91 := Exa.start vw90 q43
  have S92 := Sta.start vw90 (Or.inr ⟨(own_w2 hw), (own_w42 hw)⟩)
  have F93 := Fld.start ((fld_at vw90).symm.trans (own_eqi q45))
  have F94 := Fld.start ((fld_at vw90).symm.trans (own_eqi q47))
  have F95 := Fld.start ((fld_at vw76).symm.trans (own_eqi q49))
  obtain ⟨w96, vw96⟩ := exa_v q51
  have E97 := Exa.start vw96 q51
  have S98 := Sta.start vw96 (Or.inr ⟨(own_w2 hw), (own_w48 hw)⟩)
  have F99 := Fld.start ((fld_at vw96).symm.trans (own_eqi q53))
  have F100 := Fld.start ((fld_at vw96).symm.trans (own_eqi q55))
  have F101 := Fld.start ((fld_at vw67).symm.trans (own_eqi q56))
  obtain ⟨n, o, r1, r2, r3, _, L, rfl, ⟨rfl, N⟩, hq⟩ := own_law l hw tables_1 i0 i1 w57 w71 w90 w85 w67 w62 w76 w96 w80 s.heap s.heap.size (Nat.le_refl _) S59 E58 F60 F61 S73 E72 F74 F75 S92 E91 F93 F94 S87 E86 F88 F89 S69 E68 F70 F101 S64 E63 F65 F66 S78 E77 F79 F95 S98 E97 F99 F100 S82 E81 F83 F84 p e ha hc hk s m _ below hf ((Spec.applies_iff_loose hf).mp happ).1 ⟨rfl, State.Warmed39.refl s, rfl⟩ trivial
  refine ⟨n, _, r1, r2, r3, hpost _ _ _ _ _ _ ⟨Cond.after_iff.mpr rfl, Cond.after_iff.mpr (eq_i res_at (Term.int_eval (1)) rfl), trivial⟩ ⟨hq.1, hq.2.1, (hq.2.2.sift fun y hy => Or.inr (N y hy)).mono (by decide) (by decide)⟩⟩
theorem main_1_1 : Claimed_1_1 := comes_1 fun _ _ _ _ _ _ h hF => ⟨h.1, hF⟩
theorem main_1_2 : Claimed_1_2 := comes_1 fun _ _ _ _ _ _ h hF => ⟨h.2.1, hF⟩
end Jvm.Pilot.@@N@@
namespace Jvm.Pilot.@@N@@
open Jvm Jvm.ClassFile Sem Op Lib Jvm.Free Jvm.Stand Jvm.Pilot.@@N@@.Jvm.D
/-! MADE BY PROGRAM (witnessworld.py) out of the Statement's table words and the real class files: 21 classes; the members and pool entries that the words name. The judged class is class 1, her method 1. -/
namespace start1
open Jvm.ClassFile
def u (s : String) : CpInfo := .utf8 (stringToUtf16 s)
/-- a pool by its gaps: so many unusable entries, then the entry; so many at the end -/
def gap : Nat → List CpInfo → List CpInfo
  | 0, r => r
  | n + 1, r => .unusable :: gap n r
def poolList (es : List (Nat × CpInfo)) (last : Nat) : List CpInfo := es.foldr (fun e r => gap e.1 (e.2 :: r)) (gap last [])
def pool (es : List (Nat × CpInfo)) (last : Nat) : Array CpInfo := ⟨poolList es last⟩
def fileOf (pool : Array CpInfo) (this : Nat) (attrs : Array Attribute := #[]) (ms : Array MethodInfo := #[]) (fl : Nat := 33) (sup : Nat := 0) (ifs : Array Nat := #[]) (fds : Array FieldInfo := #[]) : ClassFile where
  minorVersion := 0
  majorVersion := 65
  constantPool := pool
  accessFlags := fl
  thisClass := this
  superClass := sup
  interfaces := ifs
  fields := fds
  methods := ms
  attributes := attrs
def plain (name : String) (sup : Option ClassId) : Class where
  name := name
  kind := .ordinary
  loader := none
  accessFlags := 33
  super := sup
  interfaces := #[]
  cf := none
  fields := #[]
  methods := #[]
  instanceTypes := #[]
  staticTypes := #[]
  resolved := #[]
  callSites := []
  init := .initialized
  statics := none
  mirror := none

def pool0 : Array CpInfo := pool [(5, u "<init>"), (0, u "()V"), (1, .class_ 10), (1, u "java/lang/Object")] 113

def k0m0 : Method := { name := "<init>", desc := "()V", sig := { parameters := [], returnType := none }, accessFlags := 1, code := none }
/-- java/lang/Object -/
def k0 : Class := { plain "java/lang/Object" none with
  accessFlags := 33
  interfaces := #[]
  cf := some (fileOf pool0 8 #[] #[{ accessFlags := 1, nameIndex := 5, descriptorIndex := 6, attributes := #[] }] 33 0 #[] #[])
  fields := #[]
  methods := #[k0m0]
  instanceTypes := #[]
  staticTypes := #[]
  resolved := Array.replicate 124 none
  statics := none }

def pool1 : Array CpInfo := pool [(2, .class_ 4), (1, u "java/lang/Object"), (0, u "<init>"), (0, u "()V"), (0, .integer 2147483647), (0, .fieldref 9 10), (0, .class_ 11), (0, .nameAndType 12 13), (0, u "com/example/inqueue/inqueue/cli/Command"), (0, u "MIGRATE"), (0, u "Lcom/example/inqueue/inqueue/cli/Command;"), (0, .fieldref 9 15), (0, .nameAndType 16 13), (0, u "CREATE"), (0, .fieldref 9 18), (0, .nameAndType 19 13), (0, u "SEND"), (0, .fieldref 9 21), (0, .nameAndType 22 13), (0, u "RECEIVE"), (0, .fieldref 9 24), (0, .nameAndType 25 13), (0, u "ACK"), (0, .fieldref 9 27), (0, .nameAndType 28 13), (0, u "DEAD"), (0, .fieldref 9 30), (0, .nameAndType 31 13), (0, u "REQUEUE"), (0, .fieldref 9 33), (0, .nameAndType 34 13), (0, u "STATS"), (0, .fieldref 9 36), (0, .nameAndType 37 13), (0, u "WORK"), (0, .methodref 9 39), (0, .nameAndType 40 41), (0, u "takesArguments"), (0, u "(I)Z"), (0, .class_ 43), (0, u "com/example/inqueue/inqueue/cli/CommandTakesArgumentsPinLaw"), (2, u "law"), (0, u "(II)Z")] 3

def k1m0 : Method := { name := "<init>", desc := "()V", sig := { parameters := [], returnType := none }, accessFlags := 1, code := none }
def k1c1 : Code := { maxStack := 2, maxLocals := 5, code := code, exceptionTable := #[], attributes := #[] }
def k1m1 : Method := { name := "law", desc := "(II)Z", sig := { parameters := [.int, .int], returnType := some .boolean }, accessFlags := 9, code := some k1c1 }
/-- com/example/inqueue/inqueue/cli/CommandTakesArgumentsPinLaw -/
def k1 : Class := { plain "com/example/inqueue/inqueue/cli/CommandTakesArgumentsPinLaw" (some 0) with
  accessFlags := 49
  interfaces := #[]
  cf := some (fileOf pool1 42 #[] #[{ accessFlags := 1, nameIndex := 5, descriptorIndex := 6, attributes := #[] }, { accessFlags := 9, nameIndex := 46, descriptorIndex := 47, attributes := #[] }] 49 2 #[] #[])
  fields := #[]
  methods := #[k1m0, k1m1]
  instanceTypes := #[]
  staticTypes := #[]
  resolved := Array.replicate 51 none
  statics := none }

def pool2 : Array CpInfo := pool [(1, .class_ 2), (0, u "java/lang/constant/Constable"), (0, .class_ 4), (0, u "java/lang/Object")] 6

/-- java/lang/constant/Constable -/
def k2 : Class := { plain "java/lang/constant/Constable" (some 0) with
  accessFlags := 1537
  interfaces := #[]
  cf := some (fileOf pool2 1 #[] #[] 1537 3 #[] #[])
  fields := #[]
  methods := #[]
  instanceTypes := #[]
  staticTypes := #[]
  resolved := Array.replicate 11 none
  statics := none }

def pool3 : Array CpInfo := pool [(1, .class_ 2), (0, u "java/lang/Comparable"), (0, .class_ 4), (0, u "java/lang/Object")] 7

/-- java/lang/Comparable -/
def k3 : Class := { plain "java/lang/Comparable" (some 0) with
  accessFlags := 1537
  interfaces := #[]
  cf := some (fileOf pool3 1 #[] #[] 1537 3 #[] #[])
  fields := #[]
  methods := #[]
  instanceTypes := #[]
  staticTypes := #[]
  resolved := Array.replicate 12 none
  statics := none }

def pool4 : Array CpInfo := pool [(1, .class_ 2), (0, u "java/io/Serializable"), (0, .class_ 4), (0, u "java/lang/Object")] 2

/-- java/io/Serializable -/
def k4 : Class := { plain "java/io/Serializable" (some 0) with
  accessFlags := 1537
  interfaces := #[]
  cf := some (fileOf pool4 1 #[] #[] 1537 3 #[] #[])
  fields := #[]
  methods := #[]
  instanceTypes := #[]
  staticTypes := #[]
  resolved := Array.replicate 7 none
  statics := none }

def pool5 : Array CpInfo := pool [(2, .class_ 4), (1, u "java/lang/Enum"), (0, u "name"), (0, u "Ljava/lang/String;"), (2, u "ordinal"), (0, u "I"), (1, .class_ 14), (1, u "java/lang/Object"), (4, u "hash"), (86, .class_ 108), (1, u "java/lang/Enum$EnumDesc"), (2, .class_ 112), (0, u "java/lang/constant/Constable"), (0, .class_ 114), (0, u "java/lang/Comparable"), (0, .class_ 116), (0, u "java/io/Serializable")] 87

/-- java/lang/Enum -/
def k5 : Class := { plain "java/lang/Enum" (some 0) with
  accessFlags := 1057
  interfaces := #[2, 3, 4]
  cf := some (fileOf pool5 2 #[.nestMembers #[106]] #[] 1057 12 #[111, 113, 115] #[{ accessFlags := 18, nameIndex := 5, descriptorIndex := 6, attributes := #[] }, { accessFlags := 18, nameIndex := 9, descriptorIndex := 10, attributes := #[] }, { accessFlags := 2, nameIndex := 19, descriptorIndex := 10, attributes := #[] }])
  fields := #[{ name := "name", type := (.object "java/lang/String"), accessFlags := 18, slot := 0, constantValue := 0 }, { name := "ordinal", type := .int, accessFlags := 18, slot := 1, constantValue := 0 }, { name := "hash", type := .int, accessFlags := 2, slot := 2, constantValue := 0 }]
  methods := #[]
  instanceTypes := #[(.object "java/lang/String"), .int, .int]
  staticTypes := #[]
  resolved := Array.replicate 204 none
  statics := none }

def pool6 : Array CpInfo := pool [(1, .class_ 2), (0, u "com/example/inqueue/inqueue/cli/Command"), (2, u "MIGRATE"), (0, u "Lcom/example/inqueue/inqueue/cli/Command;"), (2, u "CREATE"), (2, u "SEND"), (2, u "RECEIVE"), (2, u "ACK"), (2, u "DEAD"), (2, u "REQUEUE"), (2, u "STATS"), (2, u "WORK"), (2, u "$VALUES"), (0, u "[Lcom/example/inqueue/inqueue/cli/Command;"), (6, .class_ 43), (1, u "java/lang/Enum"), (8, u "word"), (0, u "Ljava/lang/String;"), (2, u "synopsis"), (2, u "summary"), (0, .fieldref 1 61), (0, .nameAndType 62 63), (0, u "minArguments"), (0, u "I"), (0, .fieldref 1 65), (0, .nameAndType 66 63), (0, u "maxArguments"), (27, u "options"), (0, u "Ljava/util/Map;"), (182, .class_ 279), (0, u "com/example/inqueue/inqueue/cli/Command$1"), (10, .class_ 291), (0, u "com/example/inqueue/inqueue/cli/Command$2"), (16, .class_ 309), (0, u "com/example/inqueue/inqueue/cli/Command$3"), (21, .class_ 332), (0, u "com/example/inqueue/inqueue/cli/Command$4"), (12, .class_ 346), (0, u "com/example/inqueue/inqueue/cli/Command$5"), (10, .class_ 358), (0, u "com/example/inqueue/inqueue/cli/Command$6"), (8, .class_ 368), (0, u "com/example/inqueue/inqueue/cli/Command$7"), (11, .class_ 381), (0, u "com/example/inqueue/inqueue/cli/Command$8"), (8, .class_ 391), (0, u "com/example/inqueue/inqueue/cli/Command$9"), (21, u "DEAD_PAGE"), (15, u "takesArguments"), (0, u "(I)Z"), (27, .class_ 459), (0, u "com/example/inqueue/inqueue/cli/Command$Transactional"), (0, .class_ 461), (0, u "com/example/inqueue/inqueue/cli/Command$Action")] 67

def k6c0 : Code := { maxStack := 2, maxLocals := 2, code := prog_22_method_7_code, exceptionTable := #[], attributes := #[] }
def k6m0 : Method := { name := "takesArguments", desc := "(I)Z", sig := { parameters := [.int], returnType := some .boolean }, accessFlags := 0, code := some k6c0 }
/-- com/example/inqueue/inqueue/cli/Command -/
def k6 : Class := { plain "com/example/inqueue/inqueue/cli/Command" (some 5) with
  accessFlags := 17440
  interfaces := #[]
  cf := some (fileOf pool6 1 #[.nestMembers #[458, 460, 390, 380, 367, 357, 345, 331, 308, 290, 278]] #[{ accessFlags := 0, nameIndex := 429, descriptorIndex := 430, attributes := #[] }] 17440 41 #[] #[{ accessFlags := 16409, nameIndex := 5, descriptorIndex := 6, attributes := #[] }, { accessFlags := 16409, nameIndex := 9, descriptorIndex := 6, attributes := #[] }, { accessFlags := 16409, nameIndex := 12, descriptorIndex := 6, attributes := #[] }, { accessFlags := 16409, nameIndex := 15, descriptorIndex := 6, attributes := #[] }, { accessFlags := 16409, nameIndex := 18, descriptorIndex := 6, attributes := #[] }, { accessFlags := 16409, nameIndex := 21, descriptorIndex := 6, attributes := #[] }, { accessFlags := 16409, nameIndex := 24, descriptorIndex := 6, attributes := #[] }, { accessFlags := 16409, nameIndex := 27, descriptorIndex := 6, attributes := #[] }, { accessFlags := 16409, nameIndex := 30, descriptorIndex := 6, attributes := #[] }, { accessFlags := 26, nameIndex := 413, descriptorIndex := 63, attributes := #[] }, { accessFlags := 18, nameIndex := 52, descriptorIndex := 53, attributes := #[] }, { accessFlags := 18, nameIndex := 56, descriptorIndex := 53, attributes := #[] }, { accessFlags := 18, nameIndex := 59, descriptorIndex := 53, attributes := #[] }, { accessFlags := 18, nameIndex := 62, descriptorIndex := 63, attributes := #[] }, { accessFlags := 18, nameIndex := 66, descriptorIndex := 63, attributes := #[] }, { accessFlags := 18, nameIndex := 94, descriptorIndex := 95, attributes := #[] }, { accessFlags := 4122, nameIndex := 33, descriptorIndex := 34, attributes := #[] }])
  fields := #[{ name := "MIGRATE", type := (.object "com/example/inqueue/inqueue/cli/Command"), accessFlags := 16409, slot := 0, constantValue := 0 }, { name := "CREATE", type := (.object "com/example/inqueue/inqueue/cli/Command"), accessFlags := 16409, slot := 1, constantValue := 0 }, { name := "SEND", type := (.object "com/example/inqueue/inqueue/cli/Command"), accessFlags := 16409, slot := 2, constantValue := 0 }, { name := "RECEIVE", type := (.object "com/example/inqueue/inqueue/cli/Command"), accessFlags := 16409, slot := 3, constantValue := 0 }, { name := "ACK", type := (.object "com/example/inqueue/inqueue/cli/Command"), accessFlags := 16409, slot := 4, constantValue := 0 }, { name := "DEAD", type := (.object "com/example/inqueue/inqueue/cli/Command"), accessFlags := 16409, slot := 5, constantValue := 0 }, { name := "REQUEUE", type := (.object "com/example/inqueue/inqueue/cli/Command"), accessFlags := 16409, slot := 6, constantValue := 0 }, { name := "STATS", type := (.object "com/example/inqueue/inqueue/cli/Command"), accessFlags := 16409, slot := 7, constantValue := 0 }, { name := "WORK", type := (.object "com/example/inqueue/inqueue/cli/Command"), accessFlags := 16409, slot := 8, constantValue := 0 }, { name := "DEAD_PAGE", type := .int, accessFlags := 26, slot := 9, constantValue := 0 }, { name := "word", type := (.object "java/lang/String"), accessFlags := 18, slot := 3, constantValue := 0 }, { name := "synopsis", type := (.object "java/lang/String"), accessFlags := 18, slot := 4, constantValue := 0 }, { name := "summary", type := (.object "java/lang/String"), accessFlags := 18, slot := 5, constantValue := 0 }, { name := "minArguments", type := .int, accessFlags := 18, slot := 6, constantValue := 0 }, { name := "maxArguments", type := .int, accessFlags := 18, slot := 7, constantValue := 0 }, { name := "options", type := (.object "java/util/Map"), accessFlags := 18, slot := 8, constantValue := 0 }, { name := "$VALUES", type := (.array (.object "com/example/inqueue/inqueue/cli/Command")), accessFlags := 4122, slot := 10, constantValue := 0 }]
  methods := #[k6m0]
  instanceTypes := #[(.object "java/lang/String"), .int, .int, (.object "java/lang/String"), (.object "java/lang/String"), (.object "java/lang/String"), .int, .int, (.object "java/util/Map")]
  staticTypes := #[(.object "com/example/inqueue/inqueue/cli/Command"), (.object "com/example/inqueue/inqueue/cli/Command"), (.object "com/example/inqueue/inqueue/cli/Command"), (.object "com/example/inqueue/inqueue/cli/Command"), (.object "com/example/inqueue/inqueue/cli/Command"), (.object "com/example/inqueue/inqueue/cli/Command"), (.object "com/example/inqueue/inqueue/cli/Command"), (.object "com/example/inqueue/inqueue/cli/Command"), (.object "com/example/inqueue/inqueue/cli/Command"), .int, (.array (.object "com/example/inqueue/inqueue/cli/Command"))]
  resolved := Array.replicate 529 none
  statics := some 0 }

def pool7 : Array CpInfo := pool [(2, .class_ 4), (1, u "com/example/inqueue/inqueue/cli/Command"), (24, .class_ 30), (0, u "com/example/inqueue/inqueue/cli/Command$1")] 40

/-- com/example/inqueue/inqueue/cli/Command$1 -/
def k7 : Class := { plain "com/example/inqueue/inqueue/cli/Command$1" (some 6) with
  accessFlags := 16432
  interfaces := #[]
  cf := some (fileOf pool7 29 #[.nestHost 2] #[] 16432 2 #[] #[])
  fields := #[]
  methods := #[]
  instanceTypes := #[(.object "java/lang/String"), .int, .int, (.object "java/lang/String"), (.object "java/lang/String"), (.object "java/lang/String"), .int, .int, (.object "java/util/Map")]
  staticTypes := #[]
  resolved := Array.replicate 71 none
  statics := none }

def pool8 : Array CpInfo := pool [(1, .class_ 2), (0, u "com/example/inqueue/inqueue/cli/Command"), (68, .class_ 72), (0, u "com/example/inqueue/inqueue/cli/Command$6")] 42

/-- com/example/inqueue/inqueue/cli/Command$6 -/
def k8 : Class := { plain "com/example/inqueue/inqueue/cli/Command$6" (some 6) with
  accessFlags := 16432
  interfaces := #[]
  cf := some (fileOf pool8 71 #[.nestHost 1] #[] 16432 1 #[] #[])
  fields := #[]
  methods := #[]
  instanceTypes := #[(.object "java/lang/String"), .int, .int, (.object "java/lang/String"), (.object "java/lang/String"), (.object "java/lang/String"), .int, .int, (.object "java/util/Map")]
  staticTypes := #[]
  resolved := Array.replicate 115 none
  statics := none }

def pool9 : Array CpInfo := pool [(2, .class_ 4), (1, u "com/example/inqueue/inqueue/cli/Command"), (53, .class_ 59), (0, u "com/example/inqueue/inqueue/cli/Command$5")] 44

/-- com/example/inqueue/inqueue/cli/Command$5 -/
def k9 : Class := { plain "com/example/inqueue/inqueue/cli/Command$5" (some 6) with
  accessFlags := 16432
  interfaces := #[]
  cf := some (fileOf pool9 58 #[.nestHost 2] #[] 16432 2 #[] #[])
  fields := #[]
  methods := #[]
  instanceTypes := #[(.object "java/lang/String"), .int, .int, (.object "java/lang/String"), (.object "java/lang/String"), (.object "java/lang/String"), .int, .int, (.object "java/util/Map")]
  staticTypes := #[]
  resolved := Array.replicate 104 none
  statics := none }

def pool10 : Array CpInfo := pool [(2, .class_ 4), (1, u "com/example/inqueue/inqueue/cli/Command"), (79, .class_ 85), (0, u "com/example/inqueue/inqueue/cli/Command$2")] 51

/-- com/example/inqueue/inqueue/cli/Command$2 -/
def k10 : Class := { plain "com/example/inqueue/inqueue/cli/Command$2" (some 6) with
  accessFlags := 16432
  interfaces := #[]
  cf := some (fileOf pool10 84 #[.nestHost 2] #[] 16432 2 #[] #[])
  fields := #[]
  methods := #[]
  instanceTypes := #[(.object "java/lang/String"), .int, .int, (.object "java/lang/String"), (.object "java/lang/String"), (.object "java/lang/String"), .int, .int, (.object "java/util/Map")]
  staticTypes := #[]
  resolved := Array.replicate 137 none
  statics := none }

def pool11 : Array CpInfo := pool [(2, .class_ 4), (1, u "com/example/inqueue/inqueue/cli/Command"), (83, .class_ 89), (0, u "com/example/inqueue/inqueue/cli/Command$7")] 52

/-- com/example/inqueue/inqueue/cli/Command$7 -/
def k11 : Class := { plain "com/example/inqueue/inqueue/cli/Command$7" (some 6) with
  accessFlags := 16432
  interfaces := #[]
  cf := some (fileOf pool11 88 #[.nestHost 2] #[] 16432 2 #[] #[])
  fields := #[]
  methods := #[]
  instanceTypes := #[(.object "java/lang/String"), .int, .int, (.object "java/lang/String"), (.object "java/lang/String"), (.object "java/lang/String"), .int, .int, (.object "java/util/Map")]
  staticTypes := #[]
  resolved := Array.replicate 142 none
  statics := none }

def pool12 : Array CpInfo := pool [(2, .class_ 4), (1, u "com/example/inqueue/inqueue/cli/Command"), (13, .class_ 20), (1, u "com/example/inqueue/inqueue/cli/Command$9")] 111

/-- com/example/inqueue/inqueue/cli/Command$9 -/
def k12 : Class := { plain "com/example/inqueue/inqueue/cli/Command$9" (some 6) with
  accessFlags := 16432
  interfaces := #[]
  cf := some (fileOf pool12 18 #[.nestHost 2] #[] 16432 2 #[] #[])
  fields := #[]
  methods := #[]
  instanceTypes := #[(.object "java/lang/String"), .int, .int, (.object "java/lang/String"), (.object "java/lang/String"), (.object "java/lang/String"), .int, .int, (.object "java/util/Map")]
  staticTypes := #[]
  resolved := Array.replicate 132 none
  statics := none }

def pool13 : Array CpInfo := pool [(2, .class_ 4), (1, u "com/example/inqueue/inqueue/cli/Command"), (74, .class_ 80), (0, u "com/example/inqueue/inqueue/cli/Command$4")] 44

/-- com/example/inqueue/inqueue/cli/Command$4 -/
def k13 : Class := { plain "com/example/inqueue/inqueue/cli/Command$4" (some 6) with
  accessFlags := 16432
  interfaces := #[]
  cf := some (fileOf pool13 79 #[.nestHost 2] #[] 16432 2 #[] #[])
  fields := #[]
  methods := #[]
  instanceTypes := #[(.object "java/lang/String"), .int, .int, (.object "java/lang/String"), (.object "java/lang/String"), (.object "java/lang/String"), .int, .int, (.object "java/util/Map")]
  staticTypes := #[]
  resolved := Array.replicate 125 none
  statics := none }

def pool14 : Array CpInfo := pool [(2, .class_ 4), (1, u "com/example/inqueue/inqueue/cli/Command"), (21, .class_ 28), (1, u "com/example/inqueue/inqueue/cli/Command$3")] 159

/-- com/example/inqueue/inqueue/cli/Command$3 -/
def k14 : Class := { plain "com/example/inqueue/inqueue/cli/Command$3" (some 6) with
  accessFlags := 16432
  interfaces := #[]
  cf := some (fileOf pool14 26 #[.nestHost 2] #[] 16432 2 #[] #[])
  fields := #[]
  methods := #[]
  instanceTypes := #[(.object "java/lang/String"), .int, .int, (.object "java/lang/String"), (.object "java/lang/String"), (.object "java/lang/String"), .int, .int, (.object "java/util/Map")]
  staticTypes := #[]
  resolved := Array.replicate 188 none
  statics := none }

def pool15 : Array CpInfo := pool [(2, .class_ 4), (1, u "com/example/inqueue/inqueue/cli/Command"), (66, .class_ 72), (0, u "com/example/inqueue/inqueue/cli/Command$8")] 46

/-- com/example/inqueue/inqueue/cli/Command$8 -/
def k15 : Class := { plain "com/example/inqueue/inqueue/cli/Command$8" (some 6) with
  accessFlags := 16432
  interfaces := #[]
  cf := some (fileOf pool15 71 #[.nestHost 2] #[] 16432 2 #[] #[])
  fields := #[]
  methods := #[]
  instanceTypes := #[(.object "java/lang/String"), .int, .int, (.object "java/lang/String"), (.object "java/lang/String"), (.object "java/lang/String"), .int, .int, (.object "java/util/Map")]
  staticTypes := #[]
  resolved := Array.replicate 119 none
  statics := none }

def pool16 : Array CpInfo := pool [(1, u "java/lang/Cloneable"), (0, .class_ 1), (0, u "java/lang/Object"), (0, .class_ 3)] 3

/-- java/lang/Cloneable -/
def k16 : Class := { plain "java/lang/Cloneable" (some 0) with
  accessFlags := 1537
  interfaces := #[]
  cf := some (fileOf pool16 2 #[] #[] 1537 4 #[] #[])
  fields := #[]
  methods := #[]
  instanceTypes := #[]
  staticTypes := #[]
  resolved := Array.replicate 8 none
  statics := none }

/-- the primitive byte -/
def k17 : Class := { plain "byte" none with kind := .primitive 'B', accessFlags := 0x411 }
/-- [B -/
def k18 : Class := { plain "[B" (some 0) with kind := .array 17 .byte, interfaces := #[16, 4], accessFlags := 1041 }

/-- the primitive int -/
def k19 : Class := { plain "int" none with kind := .primitive 'I', accessFlags := 0x411 }
/-- [I -/
def k20 : Class := { plain "[I" (some 0) with kind := .array 19 .int, interfaces := #[16, 4], accessFlags := 1041 }

def heap : Heap := #[{ cls := 6, slots := #[.ref 1, .ref 2, .ref 3, .ref 4, .ref 5, .ref 6, .ref 7, .ref 8, .ref 9, .int 0, .null], vm := .statics 6 },
  { cls := 7, slots := #[.null, .int 0, .int 0, .null, .null, .null, .int 0, .int 0, .null], vm := .none },
  { cls := 10, slots := #[.null, .int 1, .int 0, .null, .null, .null, .int 1, .int 1, .null], vm := .none },
  { cls := 14, slots := #[.null, .int 2, .int 0, .null, .null, .null, .int 1, .int 2, .null], vm := .none },
  { cls := 13, slots := #[.null, .int 3, .int 0, .null, .null, .null, .int 1, .int 1, .null], vm := .none },
  { cls := 9, slots := #[.null, .int 4, .int 0, .null, .null, .null, .int 2, .int 2, .null], vm := .none },
  { cls := 8, slots := #[.null, .int 5, .int 0, .null, .null, .null, .int 1, .int 1, .null], vm := .none },
  { cls := 11, slots := #[.null, .int 6, .int 0, .null, .null, .null, .int 2, .int 2147483647, .null], vm := .none },
  { cls := 15, slots := #[.null, .int 7, .int 0, .null, .null, .null, .int 0, .int 1, .null], vm := .none },
  { cls := 12, slots := #[.null, .int 8, .int 0, .null, .null, .null, .int 1, .int 1, .null], vm := .none }]
def classes : Array Class := #[k0, k1, k2, k3, k4, k5, k6, k7, k8, k9, k10, k11, k12, k13, k14, k15, k16, k17, k18, k19, k20]
def interned : List (Array UInt16 × Addr) := []
def slotsUsed : Nat := 92
def theMethod : MethodId := ⟨1, 1⟩
def args0 : Array Value := #[.int 5, .int 1]
def aboutOver (below : List Frame) : State where
  vm := { classes := classes, interned := interned.toArray }
  heap := heap
  slotsUsed := slotsUsed
  threads := #[{ frames := .invoking theMethod args0 :: below }]
def below0 : List Frame := [.native { method := ⟨0, 0⟩, args := #[] }]
def about1 : State := aboutOver below0
def p0 : Program := .bare "" "" ""
def e0 : Env := launch0.env 0 0 0
theorem w_frames : about1.frames = Frame.invoking theMethod args0 :: below0 := rfl
set_option maxRecDepth 65536 in
theorem w_args : argsFit about1.vm theMethod args0 = true := by decide +kernel
set_option maxRecDepth 65536 in
theorem w_heap : heapFits about1 = true := by decide +kernel
set_option maxRecDepth 65536 in
theorem w_runnable : about1.curStatus? = some .runnable := by decide +kernel
set_option maxRecDepth 65536 in
theorem w_alone : about1.alone = true := by decide +kernel
set_option maxRecDepth 65536 in
theorem w_named : about1.methodNamed? x = some theMethod := by decide +kernel
set_option maxRecDepth 65536 in
theorem w_hears : about1.hears theMethod below0 = true := by decide +kernel
set_option maxRecDepth 65536 in
theorem w_ripe : about1.ripe theMethod args0 below0 = true := by decide +kernel
theorem w_running : about1.status = .running := rfl
set_option maxRecDepth 65536 in
theorem w_room : about1.hasRoom e0.platform room_1 = true :=
  launch0.hasRoom_least _ room_1 (by decide +kernel) (by decide +kernel) (by decide +kernel) (by decide +kernel) (by decide +kernel) (by decide +kernel)
theorem allAtoms_all (ts : List Jvm.Cond) (a : Array Jvm.Value) (st : Jvm.State) : (allAtoms ts).before a st = ts.all (fun c => c.before a st) := by
  induction ts with
  | nil => rfl
  | cons c t ih =>
    show (Jvm.Cond.and c (allAtoms t)).before a st = _
    rw [Jvm.Cond.before_and, ih, List.all_cons]
def words1 : List Jvm.Cond := Jvm.Cond.code x code maxLocals ret :: tables_1
/-- a 'code' word, met by the world's own term for the bytes: nothing is compared byte by byte -/
theorem code_word {y : MethodName} {bytes : ByteArray} {mx : Nat} {rt : Option FieldType} {a : Array Value} {s : State} {m : MethodId} {meth : Method} {c : Code} (h1 : s.methodNamed? y = some m) (h2 : s.vm.method? m = some meth) (h3 : meth.code = some c) (h4 : c.code = bytes)
    (h5 : (c.maxLocals == mx && c.exceptionTable.isEmpty && decide (c.maxStack ≤ mostOperands) && decide (meth.sig.returnType = rt) && !meth.locks && decide (parseMethodDescriptor y.desc = some meth.sig)) = true) : (Jvm.Cond.code y bytes mx rt).before a s = true := by
  simp only [Bool.and_eq_true, beq_iff_eq, Bool.not_eq_true', decide_eq_true_eq] at h5
  obtain ⟨⟨⟨⟨⟨g1, g2⟩, g3⟩, g4⟩, g5⟩, g6⟩ := h5
  simp [Cond.before, Cond.holds, Cond.value, h1, h2, h3, h4, g1, g2, g3, g4, g5, g6]
def isCode : Jvm.Cond → Bool
  | .code _ _ _ _ => true
  | _ => false
theorem all_split {L : List Jvm.Cond} {P : Jvm.Cond → Bool} (h1 : L.all (fun c => isCode c || P c) = true) (h2 : ∀ c ∈ L.filter isCode, P c = true) : L.all P = true := by
  refine List.all_eq_true.mpr fun c hc => ?_
  have h := List.all_eq_true.mp h1 c hc
  rcases Bool.eq_false_or_eq_true (isCode c) with hi | hi
  · exact h2 c (List.mem_filter.mpr ⟨hc, hi⟩)
  · simpa [hi] using h
set_option maxRecDepth 65536 in
theorem w_c0 : (Jvm.Cond.code x code maxLocals ret).before args0 about1 = true := code_word (m := ⟨1, 1⟩) (meth := k1m1) (c := k1c1) (by decide +kernel) rfl rfl rfl (by decide +kernel)
set_option maxRecDepth 65536 in
theorem w_c1 : (Jvm.Cond.code ({ cls := "com/example/inqueue/inqueue/cli/Command", name := "takesArguments", desc := "(I)Z" } : Jvm.MethodName) prog_22_method_7_code (2 : Nat) (Option.some Jvm.ClassFile.FieldType.boolean)).before args0 about1 = true := code_word (m := ⟨6, 0⟩) (meth := k6m0) (c := k6c0) (by decide +kernel) rfl rfl rfl (by decide +kernel)
def codes1 : List Jvm.Cond := [Jvm.Cond.code x code maxLocals ret, Jvm.Cond.code ({ cls := "com/example/inqueue/inqueue/cli/Command", name := "takesArguments", desc := "(I)Z" } : Jvm.MethodName) prog_22_method_7_code (2 : Nat) (Option.some Jvm.ClassFile.FieldType.boolean)]
set_option maxRecDepth 65536 in
theorem codes_eq : words1.filter isCode = codes1 := rfl
theorem w_codes : ∀ c ∈ words1.filter isCode, c.before args0 about1 = true := by
  rw [codes_eq]
  intro c hc
  simp only [codes1, List.mem_cons, List.not_mem_nil, or_false] at hc
  rcases hc with rfl | rfl
  · exact w_c0
  · exact w_c1
set_option maxRecDepth 65536 in
theorem w_t1 : (words1.take 24).all (fun c => isCode c || c.before args0 about1) = true := by decide +kernel
set_option maxRecDepth 65536 in
theorem w_t2 : ((words1.drop 24).take 24).all (fun c => isCode c || c.before args0 about1) = true := by decide +kernel
set_option maxRecDepth 65536 in
theorem w_t3 : ((words1.drop 24).drop 24).all (fun c => isCode c || c.before args0 about1) = true := by decide +kernel
theorem w_tables : (allAtoms (Jvm.Cond.code x code maxLocals ret :: tables_1)).before args0 about1 = true := by
  rw [allAtoms_all]
  show words1.all (fun c => c.before args0 about1) = true
  refine all_split ?_ w_codes
  rw [← List.take_append_drop 24 words1, List.all_append, w_t1, ← List.take_append_drop 24 (words1.drop 24), List.all_append, w_t2, w_t3]
  rfl
set_option maxRecDepth 65536 in
theorem w_case : (Jvm.Cond.and given_1 narrow_1).before args0 about1 = true := by decide +kernel
theorem w_applies : (headSpec (Jvm.Cond.code x code maxLocals ret :: tables_1) room_1).applies x e0.platform about1 = true :=
  (Spec.applies_iff w_frames).mpr ⟨w_running, w_runnable, w_alone, w_named, w_hears, w_ripe, w_room, w_tables⟩
theorem atStart : AtStart classFile x code maxLocals ret World_1 tables_1 room_1 Calls_1 rest_1 Pre_1 launch0 p0 e0 about1 theMethod args0 below0 :=
  ⟨lists_1, trivial, launch0.admits_env _ _ _, launch0.least_env, fairChoices_fair.cas, fairChoices_fair.clock, w_frames, w_args, w_heap, w_applies, trivial, trivial, w_case⟩
end start1
theorem witness_1 : WitnessClaimed_1 := ⟨start1.p0, start1.e0, start1.about1, start1.theMethod, start1.args0, start1.below0, start1.atStart⟩
end Jvm.Pilot.@@N@@
