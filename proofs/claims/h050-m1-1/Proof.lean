import JvmDerived
import JvmDerived.Pilot.@@N@@Statement
import JvmDerived.Pilot.@@N@@Code
set_option linter.unusedVariables false
set_option linter.unusedSimpArgs false
namespace Jvm.Pilot.@@N@@
open Jvm Jvm.ClassFile Sem Op Lib Jvm.Free Jvm.Stand Jvm.LawKit Jvm.RoadKit Bundle Jvm.Pilot.@@N@@.Jvm.D
section OwnKit
variable {p : Program} {l : Launch} {e : Env} {R : Room} {s : State} {m : MethodId} {args : Array Value} {below : List Frame} {meth : Method} {c : Code} {T : State} {locs : List Loc} {cells slots : Nat} {Z : State} {a0 : Array Value} {h h' h0 : Heap}
/-- the run comes, from the frame g over T, to an end of which F holds -/
def own_Go (tb : Tables) (e : Env) (below : List Frame) (F : State → Outcome → Prop) (T : State) (g : JFrame) : Prop := ∃ s₂ o, Steps tb e below (T.setTop g) s₂ ∧ F s₂ o
theorem own_st {tb : Tables} {F : State → Outcome → Prop} {T' : State} {g g' : JFrame} (st : ∀ t, Steps tb e below (T'.setTop g') t → Steps tb e below (T.setTop g) t) (k : own_Go tb e below F T' g') : own_Go tb e below F T g := by
  obtain ⟨a, o, h1, h2⟩ := k
  exact ⟨a, o, st a h1, h2⟩
/-- the end that a contract asks -/
def own_F (below : List Frame) (s : State) (Q : Option Value → Heap → List Loc → Prop) (C S : Nat) : State → Outcome → Prop := fun s₂ o => s₂.status = .running ∧ Ended s₂ below o ∧ ∃ v L, o = .returned v ∧ Q v s₂.heap L ∧ FrameEnd s o s₂ L C S
/-- what a body's walk knows of the body -/
def own_In (p : Program) (s : State) (m : MethodId) (meth : Method) (c : Code) (Z : State) (bytes : ByteArray) (maxL : Nat) (own nm : String) (ret : Option FieldType) : Prop := p.tables.exec = Jvm.exec ∧ c.code = bytes ∧ c.maxLocals = maxL ∧ s.vm.findClass own = some m.cls ∧ meth.name = nm ∧ meth.sig.returnType = ret ∧ meth.locks = false ∧ Z.Warmed39 s.vm
theorem own_enter {y : MethodName} {bytes : ByteArray} {maxL : Nat} {ret : Option FieldType} {ws : List Jvm.Cond} {rm : Room} {as' : Array Value} {Q : Option Value → Heap → List Loc → Prop} {C S : Nat} (hp : plainFor y = true)
    (body : ∀ (p : Program) (e : Env) (s : State) (m : MethodId) (below : List Frame) (meth : Method) (c : Code) (T : State), Stand p l e rm s m as' below meth c T [] 0 0 → own_In p s m meth c Z bytes maxL y.cls y.name ret → T.heap = h0 → own_Go p.tables e below (own_F below s Q C S) T (entryFrame m as' maxL)) :
    MetFree l y (head1 (Jvm.Cond.code y bytes maxL ret :: ws) rm) (fun a U => a = as' ∧ Z.Warmed39 U.vm ∧ U.heap = h0) (fun _ _ _ _ _ => True) (fun _ U o U' => ∃ v L, o = .returned v ∧ Q v U'.heap L ∧ FrameEnd U o U' L C S) := by
  refine MetFree.of_bodySF hp hisR ?_
  intro p e s m args below meth c s₁ Bd hml0 hP hK
  obtain ⟨rfl, hZ, hh⟩ := hP
  exact body p e s m below meth c s₁ (Stand.of_body Bd) ⟨Bd.exec, Bd.bytes, hml0, findClass_of_methodNamed Bd.named, (name_of_methodNamed Bd.named Bd.method).1, Bd.returns, Bd.notSynchronized, hZ⟩ (by rw [← hh, Bd.state]; rfl)
theorem own_cast {tb : Tables} {F : State → Outcome → Prop} {g g' : JFrame} (q : g = g') (k : own_Go tb e below F T g') : own_Go tb e below F T g := q ▸ k
/-- the end of a walk: a boolean, byte, char or short -/
theorem own_retN (X : Stand p l e R s m args below meth c T locs cells slots) (hx : p.tables.exec = Jvm.exec) {t : FieldType} (hret : meth.sig.returnType = some t) (ht : t = .boolean ∨ t = .byte ∨ t = .char ∨ t = .short) (hlk : meth.locks = false) {pc : Nat} {Ls : Array Slot} {z : Int32} {rest : List Value}
    (hd : decode c.code pc = .ok (.ireturn, 1)) {Q : Option Value → Heap → List Loc → Prop} {C S : Nat} (hQ : Q (some (.int (nar t z))) T.heap locs) (hC : cells ≤ C) (hS : slots ≤ S) : own_Go p.tables e below (own_F below s Q C S) T (mkF m pc Ls (.int z :: rest)) := by
  obtain ⟨fs, hr, hrun, hended, hW, hsame⟩ := X.leave (v := some (.int (nar t z))) (fun q => by rw [hret] at q; cases q)
  exact ⟨_, _, retN X hx hret ht hd hr, hrun, hended, _, _, rfl, hQ, ⟨_, rfl⟩, hW, hsame.mono hC hS⟩
theorem own_retO (X : Stand p l e R s m args below meth c T locs cells slots) (hx : p.tables.exec = Jvm.exec) {t : FieldType} (hret : meth.sig.returnType = some t) (hlk : meth.locks = false) {pc : Nat} {Ls : Array Slot} {w : Value} {i : Instr} {rest : List Value} (hn : narrow t w = w)
    (hi : (i = .ireturn ∧ (t = .int ∨ t = .boolean ∨ t = .byte ∨ t = .char ∨ t = .short) ∧ ∃ z, w = .int z) ∨ (i = .lreturn ∧ t = .long ∧ ∃ z, w = .long z) ∨ (i = .dreturn ∧ t = .double ∧ ∃ z, w = .double z) ∨ (i = .freturn ∧ t = .float ∧ ∃ z, w = .float z) ∨ (i = .areturn ∧ t.isReference = true ∧ w.isRef = true))
    (hd : decode c.code pc = .ok (i, 1)) {Q : Option Value → Heap → List Loc → Prop} {C S : Nat} (hQ : Q (some w) T.heap locs) (hC : cells ≤ C) (hS : slots ≤ S) : own_Go p.tables e below (own_F below s Q C S) T (mkF m pc Ls (w :: rest)) := by
  obtain ⟨fs, hr, hrun, hended, hW, hsame⟩ := X.leave (v := some w) (fun q => by rw [hret] at q; cases q)
  exact ⟨_, _, retOut X hx hret hn hi hd hr, hrun, hended, _, _, rfl, hQ, ⟨_, rfl⟩, hW, hsame.mono hC hS⟩
/-- a reference -/
theorem own_retA (X : Stand p l e R s m args below meth c T locs cells slots) (hx : p.tables.exec = Jvm.exec) {t : FieldType} (hret : meth.sig.returnType = some t) (ht : t.isReference = true) (hlk : meth.locks = false) {pc : Nat} {Ls : Array Slot} {w : Value} {rest : List Value} (hw : w.isRef = true)
    (hd : decode c.code pc = .ok (.areturn, 1)) {Q : Option Value → Heap → List Loc → Prop} {C S : Nat} (hQ : Q (some w) T.heap locs) (hC : cells ≤ C) (hS : slots ≤ S) : own_Go p.tables e below (own_F below s Q C S) T (mkF m pc Ls (w :: rest)) := by
  refine own_retO X hx hret hlk ?_ (Or.inr (Or.inr (Or.inr (Or.inr ⟨rfl, ht, hw⟩)))) hd hQ hC hS
  rcases ref_cases hw with rfl | ⟨a, rfl⟩ <;> cases t <;> first | rfl | (simp [FieldType.isReference] at ht)
/-- an int -/
theorem own_retI (X : Stand p l e R s m args below meth c T locs cells slots) (hx : p.tables.exec = Jvm.exec) (hret : meth.sig.returnType = some .int) (hlk : meth.locks = false) {pc : Nat} {Ls : Array Slot} {z : Int32} {rest : List Value}
    (hd : decode c.code pc = .ok (.ireturn, 1)) {Q : Option Value → Heap → List Loc → Prop} {C S : Nat} (hQ : Q (some (.int z)) T.heap locs) (hC : cells ≤ C) (hS : slots ≤ S) : own_Go p.tables e below (own_F below s Q C S) T (mkF m pc Ls (.int z :: rest)) :=
  own_retO X hx hret hlk rfl (Or.inl ⟨rfl, Or.inl rfl, z, rfl⟩) hd hQ hC hS
/-- nothing -/
theorem own_retV (X : Stand p l e R s m args below meth c T locs cells slots) (hx : p.tables.exec = Jvm.exec) (hret : meth.sig.returnType = none) (hlk : meth.locks = false) {pc : Nat} {Ls : Array Slot}
    (hd : decode c.code pc = .ok (.return_, 1)) {Q : Option Value → Heap → List Loc → Prop} {C S : Nat} (hQ : Q none T.heap locs) (hC : cells ≤ C) (hS : slots ≤ S) : own_Go p.tables e below (own_F below s Q C S) T (mkF m pc Ls []) := by
  obtain ⟨fs, hr, hrun, hended, hW, hsame⟩ := X.leave (v := none) (fun _ => rfl)
  exact ⟨_, _, X.returnOut hx hret hd hr, hrun, hended, _, _, rfl, hQ, ⟨_, rfl⟩, hW, hsame.mono hC hS⟩
/-- calls, each by its callee's contract -/
theorem own_callS (X : Stand p l e R s m args below meth c T locs cells slots) (hx : p.tables.exec = Jvm.exec) (hZ : Z.Warmed39 s.vm) {own : String} {index : Nat} {y : MethodName} {bytes : ByteArray} {maxL : Nat} {ret : Option FieldType} (hown : s.vm.findClass own = some m.cls)
    (w1 : (Jvm.Cond.methodLink own index y).before a0 Z = true) (w2 : (Jvm.Cond.static y).before a0 Z = true) (w3 : (Jvm.Cond.initialized y.cls).before a0 Z = true) (w4 : (Jvm.Cond.code y bytes maxL ret).before a0 Z = true) (hy : y.cls ≠ "java/lang/invoke/MethodHandle" ∧ y.cls ≠ "java/lang/invoke/VarHandle")
    {rm : Room} {as' : Array Value} {Q : Option Value → Heap → List Loc → Prop} (hM : MetFree l y (head1 [Jvm.Cond.code y bytes maxL ret] rm) (fun a U => a = as' ∧ Z.Warmed39 U.vm ∧ U.heap = h) (fun _ _ _ _ _ => True) (fun _ U o U' => ∃ v L, o = .returned v ∧ Q v U'.heap L ∧ FrameEnd U o U' L rm.cells rm.slots))
    (eT : T.heap = h) {g : JFrame} (hg : g.method = m) (hsize : g.locals.size = c.maxLocals) {argsL rest : List Value} (hlen : ∀ sig, parseMethodDescriptor y.desc = some sig → argsL.length = sig.parameters.length) (hstack : g.stack = argsL.reverse ++ rest) (has : argsL.toArray = as') {W : Nat} (hW : 2 * g.monitorRoom + (rest.map fun v => v.category).sum ≤ W)
    (hd : decode c.code g.pc = .ok (.invokestatic index, 3)) (hf : rm.frames + 1 ≤ R.frames) (hl : W + (maxL + 11) + rm.locals ≤ R.locals) (hc : cells + rm.cells ≤ R.cells) (hs : slots + rm.slots ≤ R.slots) :
    ∃ v T' L, Q v T'.heap L ∧ Stand p l e R s m args below meth c T' (locs ++ L) (cells + rm.cells) (slots + rm.slots) ∧ ∀ t, Steps p.tables e below (T'.setTop { g with pc := g.pc + 3, stack := v.toList ++ rest }) t → Steps p.tables e below (T.setTop g) t := by
  obtain ⟨v, vm₁, ⟨T', L', k', n'⟩, -, X', ⟨L, hQ, l1, y1, z1⟩, st⟩ := Jvm.LawKit.callS X hx (y := y) hown (mvT hZ w1) (mvT hZ w2) (mvT hZ w3) (mvT hZ w4) hy (backOf (W := W) hM hZ w4 w3 hf hl) hg hsize (argsL := argsL) (rest := rest) hlen hstack hW hd (fun _ _ => ⟨has, eT, hc, hs⟩)
  dsimp only [Pt.U, Pt.locs, Pt.cells, Pt.slots] at X' l1 y1 z1 st hQ
  subst l1 y1 z1
  exact ⟨v, T', L, hQ, X', st⟩
theorem own_callI (X : Stand p l e R s m args below meth c T locs cells slots) (hx : p.tables.exec = Jvm.exec) (hZ : Z.Warmed39 s.vm) {own : String} {index : Nat} {y : MethodName} {bytes : ByteArray} {maxL : Nat} (hn : y.name = "<init>") (hown : s.vm.findClass own = some m.cls)
    (w1 : (Jvm.Cond.methodLink own index y).before a0 Z = true) (w2 : (Jvm.Cond.instanceMethod y).before a0 Z = true) (w3 : (Jvm.Cond.initialized y.cls).before a0 Z = true) (w4 : (Jvm.Cond.code y bytes maxL none).before a0 Z = true) (hy : y.cls ≠ "java/lang/invoke/MethodHandle" ∧ y.cls ≠ "java/lang/invoke/VarHandle")
    {rm : Room} {as' : Array Value} {Q : Option Value → Heap → List Loc → Prop} (hM : MetFree l y (head1 [Jvm.Cond.code y bytes maxL none] rm) (fun a U => a = as' ∧ Z.Warmed39 U.vm ∧ U.heap = h) (fun _ _ _ _ _ => True) (fun _ U o U' => ∃ v L, o = .returned v ∧ Q v U'.heap L ∧ FrameEnd U o U' L rm.cells rm.slots))
    (eT : T.heap = h) {g : JFrame} (hg : g.method = m) (hsize : g.locals.size = c.maxLocals) {a : Addr} {argsL rest : List Value} (hlen : ∀ sig, parseMethodDescriptor y.desc = some sig → argsL.length = sig.parameters.length) (hstack : g.stack = argsL.reverse ++ .ref a :: rest) (has : (.ref a :: argsL).toArray = as') {W : Nat} (hW : 2 * g.monitorRoom + (rest.map fun v => v.category).sum ≤ W)
    (hd : decode c.code g.pc = .ok (.invokespecial index, 3)) (hf : rm.frames + 1 ≤ R.frames) (hl : W + (maxL + 11) + rm.locals ≤ R.locals) (hc : cells + rm.cells ≤ R.cells) (hs : slots + rm.slots ≤ R.slots) :
    ∃ v T' L, Q v T'.heap L ∧ Stand p l e R s m args below meth c T' (locs ++ L) (cells + rm.cells) (slots + rm.slots) ∧ ∀ t, Steps p.tables e below (T'.setTop { g with pc := g.pc + 3, stack := v.toList ++ rest }) t → Steps p.tables e below (T.setTop g) t := by
  obtain ⟨v, vm₁, ⟨T', L', k', n'⟩, -, X', ⟨L, hQ, l1, y1, z1⟩, st⟩ := X.specialBack hx (y := y) hn hown (mvT hZ w1) (mvT hZ w2) (mvT hZ w4) hy (backOf (W := W) hM hZ w4 w3 hf hl) hg hsize (Steps.refl _) (a := a) (argsL := argsL) (rest := rest) hlen hstack hW hd (fun _ _ => ⟨has, eT, hc, hs⟩)
  dsimp only [Pt.U, Pt.locs, Pt.cells, Pt.slots] at X' l1 y1 z1 st hQ
  subst l1 y1 z1
  exact ⟨v, T', L, hQ, X', fun t k => st.trans k⟩
theorem own_callV (X : Stand p l e R s m args below meth c T locs cells slots) (hx : p.tables.exec = Jvm.exec) (hZ : Z.Warmed39 s.vm) {own C : String} {index : Nat} {y : MethodName} {bytes : ByteArray} {maxL : Nat} {ret : Option FieldType} (hown : s.vm.findClass own = some m.cls)
    (w1 : (Jvm.Cond.methodLink own index y).before a0 Z = true) (w2 : (Jvm.Cond.declares y).before a0 Z = true) (w3 : (Jvm.Cond.selects C y y).before a0 Z = true) (w5 : (Jvm.Cond.instanceMethod y).before a0 Z = true) (w6 : (Jvm.Cond.initialized y.cls).before a0 Z = true) (w4 : (Jvm.Cond.code y bytes maxL ret).before a0 Z = true) (hy : y.cls ≠ "java/lang/invoke/MethodHandle" ∧ y.cls ≠ "java/lang/invoke/VarHandle")
    {rm : Room} {as' : Array Value} {Q : Option Value → Heap → List Loc → Prop} (hM : MetFree l y (head1 [Jvm.Cond.code y bytes maxL ret] rm) (fun a U => a = as' ∧ Z.Warmed39 U.vm ∧ U.heap = h) (fun _ _ _ _ _ => True) (fun _ U o U' => ∃ v L, o = .returned v ∧ Q v U'.heap L ∧ FrameEnd U o U' L rm.cells rm.slots))
    (eT : T.heap = h) {a : Addr} (E : Exa Z h a C) {g : JFrame} (hg : g.method = m) (hsize : g.locals.size = c.maxLocals) {argsL rest : List Value} (hlen : ∀ sig, parseMethodDescriptor y.desc = some sig → argsL.length = sig.parameters.length) (hstack : g.stack = argsL.reverse ++ .ref a :: rest) (has : (.ref a :: argsL).toArray = as') {W : Nat} (hW : 2 * g.monitorRoom + (rest.map fun v => v.category).sum ≤ W)
    (hd : decode c.code g.pc = .ok (.invokevirtual index, 3)) (hf : rm.frames + 1 ≤ R.frames) (hl : W + (maxL + 11) + rm.locals ≤ R.locals) (hc : cells + rm.cells ≤ R.cells) (hs : slots + rm.slots ≤ R.slots) :
    ∃ v T' L, Q v T'.heap L ∧ Stand p l e R s m args below meth c T' (locs ++ L) (cells + rm.cells) (slots + rm.slots) ∧ ∀ t, Steps p.tables e below (T'.setTop { g with pc := g.pc + 3, stack := v.toList ++ rest }) t → Steps p.tables e below (T.setTop g) t := by
  obtain ⟨cq, kq, qa, qb, qc⟩ := isOf hZ eT E
  obtain ⟨v, vm₁, ⟨T', L', k', n'⟩, -, X', ⟨L, hQ, l1, y1, z1⟩, st⟩ := X.virtualBack hx (y := y) (z := y) hown (mvT hZ w1) (mvT hZ w2) (notFace_of_selects (args := #[]) (mvT hZ w3)) (mvT hZ w3) (mvT hZ w5) hy (backOf (W := W) hM hZ w4 w6 hf hl) qa qc hg hsize (Steps.refl _) (argsL := argsL) (rest := rest) hlen hstack hW hd (fun _ _ => ⟨has, eT, hc, hs⟩)
  dsimp only [Pt.U, Pt.locs, Pt.cells, Pt.slots] at X' l1 y1 z1 st hQ
  subst l1 y1 z1
  exact ⟨v, T', L, hQ, X', fun t k => st.trans k⟩
/-- a method that a class above declares -/
theorem own_callU (X : Stand p l e R s m args below meth c T locs cells slots) (hx : p.tables.exec = Jvm.exec) (hZ : Z.Warmed39 s.vm) {own C owner : String} {index : Nat} {x y : MethodName} {bytes : ByteArray} {maxL : Nat} {ret : Option FieldType} (hown : s.vm.findClass own = some m.cls)
    (w1 : (Jvm.Cond.methodLink own index x).before a0 Z = true) (w0 : (Jvm.Cond.sameMethod x.cls owner x.name x.desc).before a0 Z = true) (w2 : (Jvm.Cond.declares ⟨owner, x.name, x.desc⟩).before a0 Z = true) (hy : owner ≠ "java/lang/invoke/MethodHandle" ∧ owner ≠ "java/lang/invoke/VarHandle") (w3 : (Jvm.Cond.selects C x y).before a0 Z = true) (w5 : (Jvm.Cond.instanceMethod y).before a0 Z = true) (w6 : (Jvm.Cond.initialized y.cls).before a0 Z = true) (w4 : (Jvm.Cond.code y bytes maxL ret).before a0 Z = true)
    {rm : Room} {as' : Array Value} {Q : Option Value → Heap → List Loc → Prop} (hM : MetFree l y (head1 [Jvm.Cond.code y bytes maxL ret] rm) (fun a U => a = as' ∧ Z.Warmed39 U.vm ∧ U.heap = h) (fun _ _ _ _ _ => True) (fun _ U o U' => ∃ v L, o = .returned v ∧ Q v U'.heap L ∧ FrameEnd U o U' L rm.cells rm.slots))
    (eT : T.heap = h) {a : Addr} (E : Exa Z h a C) {g : JFrame} (hg : g.method = m) (hsize : g.locals.size = c.maxLocals) {argsL rest : List Value} (hlen : ∀ sig, parseMethodDescriptor x.desc = some sig → argsL.length = sig.parameters.length) (hstack : g.stack = argsL.reverse ++ .ref a :: rest) (has : (.ref a :: argsL).toArray = as') {W : Nat} (hW : 2 * g.monitorRoom + (rest.map fun v => v.category).sum ≤ W)
    (hd : decode c.code g.pc = .ok (.invokevirtual index, 3)) (hf : rm.frames + 1 ≤ R.frames) (hl : W + (maxL + 11) + rm.locals ≤ R.locals) (hc : cells + rm.cells ≤ R.cells) (hs : slots + rm.slots ≤ R.slots) :
    ∃ v T' L, Q v T'.heap L ∧ Stand p l e R s m args below meth c T' (locs ++ L) (cells + rm.cells) (slots + rm.slots) ∧ ∀ t, Steps p.tables e below (T'.setTop { g with pc := g.pc + 3, stack := v.toList ++ rest }) t → Steps p.tables e below (T.setTop g) t := by
  obtain ⟨cq, kq, qa, qb, qc⟩ := isOf hZ eT E
  obtain ⟨v, vm₁, ⟨T', L', k', n'⟩, -, X', ⟨L, hQ, l1, y1, z1⟩, st⟩ := X.virtualBackUp hx (x := x) (y := y) hown (mvT hZ w1) (mvT hZ w0) (mvT hZ w2) hy (mvT hZ w3) (mvT hZ w5) (backOf (W := W) hM hZ w4 w6 hf hl) qa qc hg hsize (Steps.refl _) (argsL := argsL) (rest := rest) hlen hstack hW hd (fun _ _ => ⟨has, eT, hc, hs⟩)
  dsimp only [Pt.U, Pt.locs, Pt.cells, Pt.slots] at X' l1 y1 z1 st hQ
  subst l1 y1 z1
  exact ⟨v, T', L, hQ, X', fun t k => st.trans k⟩
/-- heaps -/
theorem own_extr (h : Heap) : Ext h h := ⟨Nat.le_refl _, fun _ _ q => q⟩
theorem own_extt (O : Ext h0 h) (E : Ext h h') : Ext h0 h' := ⟨Nat.le_trans O.1 E.1, fun a c q => E.2 a c (O.2 a c q)⟩
theorem own_extw (O : Ext h0 h) {a : Addr} {sl : Nat} {v : Value} (W : Wr h h' a sl v) (q : h0.size ≤ a) : Ext h0 h' :=
  ⟨Nat.le_trans O.1 (Keep.of_wr W).1, fun x c r => (Keep.of_wr W).2.1 x c (O.2 x c r) (fun z => by cases List.mem_singleton.mp z; exact absurd (Array.getElem?_eq_some_iff.mp r).1 (Nat.not_lt.mpr q))⟩
theorem own_extk (O : Ext h0 h) {a : Addr} (K : Keep h h' [a]) (q : h0.size ≤ a) : Ext h0 h' :=
  ⟨Nat.le_trans O.1 K.1, fun x c r => K.2.1 x c (O.2 x c r) (fun z => by cases List.mem_singleton.mp z; exact absurd (Array.getElem?_eq_some_iff.mp r).1 (Nat.not_lt.mpr q))⟩
/-- arrays: a store and a load by the array's fact -/
theorem own_stZ (X : Stand p l e R s m args below meth c T locs cells slots) (hx : p.tables.exec = Jvm.exec) (hZ : Z.Warmed39 s.vm) (eT : T.heap = h) {a : Addr} {k : ClassId} {n : Int32} {vs : List Value} {dv : Value} (V : Arv Z h a k .boolean n vs dv) {j x : Int32} (hj : ¬ j < 0 ∧ j < n) (i : Nat) (hi : j.toNatClampNeg = i) (hil : i < vs.length) {g : JFrame} (hg : g.method = m) {rest : List Value} (hs : g.stack = .int x :: .int j :: .ref a :: rest) (hd : decode c.code g.pc = .ok (.bastore, 1)) :
    ∃ T' h', Stand p l e R s m args below meth c T' (locs ++ [⟨a, j.toNatClampNeg⟩]) cells slots ∧ T'.heap = h' ∧ Wr h h' a j.toNatClampNeg (.int (nar .boolean x)) ∧ Arv Z h' a k .boolean n (vs.set i (.int (nar .boolean x))) dv ∧ ∀ t, Steps p.tables e below (T'.setTop { g with pc := g.pc + 1, stack := rest }) t → Steps p.tables e below (T.setTop g) t := by
  obtain ⟨cl, A, q1, S1, N1, H1, G1⟩ := V
  obtain ⟨T', h', X', e', W', st⟩ := stZ X hx hZ eT A (j := j) (inb_of S1 hj) hg hs hd
  exact ⟨T', h', X', e', W', Arv.set A q1 S1 N1 H1 G1 (fits_nar_bool x) W' i hi hil, st⟩
theorem own_stB (X : Stand p l e R s m args below meth c T locs cells slots) (hx : p.tables.exec = Jvm.exec) (hZ : Z.Warmed39 s.vm) (eT : T.heap = h) {a : Addr} {k : ClassId} {n : Int32} {vs : List Value} {dv : Value} (V : Arv Z h a k .byte n vs dv) {j x : Int32} (hj : ¬ j < 0 ∧ j < n) (i : Nat) (hi : j.toNatClampNeg = i) (hil : i < vs.length) {g : JFrame} (hg : g.method = m) {rest : List Value} (hs : g.stack = .int x :: .int j :: .ref a :: rest) (hd : decode c.code g.pc = .ok (.bastore, 1)) :
    ∃ T' h', Stand p l e R s m args below meth c T' (locs ++ [⟨a, j.toNatClampNeg⟩]) cells slots ∧ T'.heap = h' ∧ Wr h h' a j.toNatClampNeg (.int (nar .byte x)) ∧ Arv Z h' a k .byte n (vs.set i (.int (nar .byte x))) dv ∧ ∀ t, Steps p.tables e below (T'.setTop { g with pc := g.pc + 1, stack := rest }) t → Steps p.tables e below (T.setTop g) t := by
  obtain ⟨cl, A, q1, S1, N1, H1, G1⟩ := V
  obtain ⟨T', h', X', e', W', st⟩ := stB X hx hZ eT A (j := j) (inb_of S1 hj) hg hs hd
  exact ⟨T', h', X', e', W', Arv.set A q1 S1 N1 H1 G1 (fits_nar_byte x) W' i hi hil, st⟩
theorem own_stI (X : Stand p l e R s m args below meth c T locs cells slots) (hx : p.tables.exec = Jvm.exec) (hZ : Z.Warmed39 s.vm) (eT : T.heap = h) {a : Addr} {k : ClassId} {n : Int32} {vs : List Value} {dv : Value} (V : Arv Z h a k .int n vs dv) {j x : Int32} (hj : ¬ j < 0 ∧ j < n) (i : Nat) (hi : j.toNatClampNeg = i) (hil : i < vs.length) {g : JFrame} (hg : g.method = m) {rest : List Value} (hs : g.stack = .int x :: .int j :: .ref a :: rest) (hd : decode c.code g.pc = .ok (.iastore, 1)) :
    ∃ T' h', Stand p l e R s m args below meth c T' (locs ++ [⟨a, j.toNatClampNeg⟩]) cells slots ∧ T'.heap = h' ∧ Wr h h' a j.toNatClampNeg (.int x) ∧ Arv Z h' a k .int n (vs.set i (.int x)) dv ∧ ∀ t, Steps p.tables e below (T'.setTop { g with pc := g.pc + 1, stack := rest }) t → Steps p.tables e below (T.setTop g) t := by
  obtain ⟨cl, A, q1, S1, N1, H1, G1⟩ := V
  obtain ⟨T', h', X', e', W', st⟩ := stI X hx hZ eT A (j := j) (inb_of S1 hj) hg hs hd
  exact ⟨T', h', X', e', W', Arv.set A q1 S1 N1 H1 G1 rfl W' i hi hil, st⟩
theorem own_stC (X : Stand p l e R s m args below meth c T locs cells slots) (hx : p.tables.exec = Jvm.exec) (hZ : Z.Warmed39 s.vm) (eT : T.heap = h) {a : Addr} {k : ClassId} {n : Int32} {vs : List Value} {dv : Value} (V : Arv Z h a k .char n vs dv) {j x : Int32} (hj : ¬ j < 0 ∧ j < n) (i : Nat) (hi : j.toNatClampNeg = i) (hil : i < vs.length) {g : JFrame} (hg : g.method = m) {rest : List Value} (hs : g.stack = .int x :: .int j :: .ref a :: rest) (hd : decode c.code g.pc = .ok (.castore, 1)) :
    ∃ T' h', Stand p l e R s m args below meth c T' (locs ++ [⟨a, j.toNatClampNeg⟩]) cells slots ∧ T'.heap = h' ∧ Wr h h' a j.toNatClampNeg (.int (nar .char x)) ∧ Arv Z h' a k .char n (vs.set i (.int (nar .char x))) dv ∧ ∀ t, Steps p.tables e below (T'.setTop { g with pc := g.pc + 1, stack := rest }) t → Steps p.tables e below (T.setTop g) t := by
  obtain ⟨cl, A, q1, S1, N1, H1, G1⟩ := V
  obtain ⟨T', h', X', e', W', st⟩ := stC X hx hZ eT A (j := j) (inb_of S1 hj) hg hs hd
  exact ⟨T', h', X', e', W', Arv.set A q1 S1 N1 H1 G1 (fits_nar_char x) W' i hi hil, st⟩
theorem own_stR (X : Stand p l e R s m args below meth c T locs cells slots) (hx : p.tables.exec = Jvm.exec) (hZ : Z.Warmed39 s.vm) (eT : T.heap = h) {a : Addr} {k : ClassId} {ty : FieldType} {n : Int32} {vs : List Value} {dv : Value} (V : Arv Z h a k ty n vs dv) (hty : ty.isReference = true) {j : Int32} {v : Value} (hv : fits ty v = true) (hj : ¬ j < 0 ∧ j < n) (i : Nat) (hi : j.toNatClampNeg = i) (hil : i < vs.length) (F : ∀ cl : Cell, Arr Z h a cl ty → cl.cls = k → Sto Z h a v) {g : JFrame} (hg : g.method = m) {rest : List Value} (hs : g.stack = v :: .int j :: .ref a :: rest) (hd : decode c.code g.pc = .ok (.aastore, 1)) :
    ∃ T' h', Stand p l e R s m args below meth c T' (locs ++ [⟨a, j.toNatClampNeg⟩]) cells slots ∧ T'.heap = h' ∧ Wr h h' a j.toNatClampNeg v ∧ Arv Z h' a k ty n (vs.set i v) dv ∧ ∀ t, Steps p.tables e below (T'.setTop { g with pc := g.pc + 1, stack := rest }) t → Steps p.tables e below (T.setTop g) t := by
  obtain ⟨cl, A, q1, S1, N1, H1, G1⟩ := V
  obtain ⟨T', h', X', e', W', st⟩ := stR X hx hZ eT A (j := j) (inb_of S1 hj) hty (F cl A q1) hg hs hd
  exact ⟨T', h', X', e', W', Arv.set A q1 S1 N1 H1 G1 hv W' i hi hil, st⟩
theorem own_ldZ (X : Stand p l e R s m args below meth c T locs cells slots) (hx : p.tables.exec = Jvm.exec) (hZ : Z.Warmed39 s.vm) (eT : T.heap = h) {a : Addr} {k : ClassId} {n : Int32} {vs : List Value} {dv v : Value} (V : Arv Z h a k .boolean n vs dv) {j : Int32} (hj : ¬ j < 0 ∧ j < n) (hv : vs.getD j.toNatClampNeg dv = v) {g : JFrame} (hg : g.method = m) {rest : List Value} (hs : g.stack = .int j :: .ref a :: rest) (hd : decode c.code g.pc = .ok (.baload, 1)) :
    ∀ t, Steps p.tables e below (T.setTop { g with pc := g.pc + 1, stack := v :: rest }) t → Steps p.tables e below (T.setTop g) t := by
  obtain ⟨cl, A, q1, S1, N1, H1, G1⟩ := V
  exact X.baloadBooleans hx (by rw [eT]; exact A.1) (State.isArrayOf_alike hZ.alike A.2.1) A.2.2 (inb_of S1 hj) (H1.at (inb_of S1 hj) hv) hg hs hd
theorem own_ldB (X : Stand p l e R s m args below meth c T locs cells slots) (hx : p.tables.exec = Jvm.exec) (hZ : Z.Warmed39 s.vm) (eT : T.heap = h) {a : Addr} {k : ClassId} {n : Int32} {vs : List Value} {dv v : Value} (V : Arv Z h a k .byte n vs dv) {j : Int32} (hj : ¬ j < 0 ∧ j < n) (hv : vs.getD j.toNatClampNeg dv = v) {g : JFrame} (hg : g.method = m) {rest : List Value} (hs : g.stack = .int j :: .ref a :: rest) (hd : decode c.code g.pc = .ok (.baload, 1)) :
    ∀ t, Steps p.tables e below (T.setTop { g with pc := g.pc + 1, stack := v :: rest }) t → Steps p.tables e below (T.setTop g) t := by
  obtain ⟨cl, A, q1, S1, N1, H1, G1⟩ := V
  exact X.baloadBytes hx (by rw [eT]; exact A.1) (State.isArrayOf_alike hZ.alike A.2.1) A.2.2 (inb_of S1 hj) (H1.at (inb_of S1 hj) hv) hg hs hd
theorem own_ldI (X : Stand p l e R s m args below meth c T locs cells slots) (hx : p.tables.exec = Jvm.exec) (hZ : Z.Warmed39 s.vm) (eT : T.heap = h) {a : Addr} {k : ClassId} {n : Int32} {vs : List Value} {dv v : Value} (V : Arv Z h a k .int n vs dv) {j : Int32} (hj : ¬ j < 0 ∧ j < n) (hv : vs.getD j.toNatClampNeg dv = v) {g : JFrame} (hg : g.method = m) {rest : List Value} (hs : g.stack = .int j :: .ref a :: rest) (hd : decode c.code g.pc = .ok (.iaload, 1)) :
    ∀ t, Steps p.tables e below (T.setTop { g with pc := g.pc + 1, stack := v :: rest }) t → Steps p.tables e below (T.setTop g) t := by
  obtain ⟨cl, A, q1, S1, N1, H1, G1⟩ := V
  exact X.iaload hx (by rw [eT]; exact A.1) (State.isArrayOf_alike hZ.alike A.2.1) A.2.2 (inb_of S1 hj) (H1.at (inb_of S1 hj) hv) hg hs hd
theorem own_ldC (X : Stand p l e R s m args below meth c T locs cells slots) (hx : p.tables.exec = Jvm.exec) (hZ : Z.Warmed39 s.vm) (eT : T.heap = h) {a : Addr} {k : ClassId} {n : Int32} {vs : List Value} {dv v : Value} (V : Arv Z h a k .char n vs dv) {j : Int32} (hj : ¬ j < 0 ∧ j < n) (hv : vs.getD j.toNatClampNeg dv = v) {g : JFrame} (hg : g.method = m) {rest : List Value} (hs : g.stack = .int j :: .ref a :: rest) (hd : decode c.code g.pc = .ok (.caload, 1)) :
    ∀ t, Steps p.tables e below (T.setTop { g with pc := g.pc + 1, stack := v :: rest }) t → Steps p.tables e below (T.setTop g) t := by
  obtain ⟨cl, A, q1, S1, N1, H1, G1⟩ := V
  exact X.caload hx (by rw [eT]; exact A.1) (State.isArrayOf_alike hZ.alike A.2.1) A.2.2 (inb_of S1 hj) (H1.at (inb_of S1 hj) hv) hg hs hd
theorem own_ldR (X : Stand p l e R s m args below meth c T locs cells slots) (hx : p.tables.exec = Jvm.exec) (hZ : Z.Warmed39 s.vm) (eT : T.heap = h) {a : Addr} {k : ClassId} {ty : FieldType} {n : Int32} {vs : List Value} {dv v : Value} (V : Arv Z h a k ty n vs dv) (hty : ty.isReference = true) {j : Int32} (hj : ¬ j < 0 ∧ j < n) (hv : vs.getD j.toNatClampNeg dv = v) {g : JFrame} (hg : g.method = m) {rest : List Value} (hs : g.stack = .int j :: .ref a :: rest) (hd : decode c.code g.pc = .ok (.aaload, 1)) :
    ∀ t, Steps p.tables e below (T.setTop { g with pc := g.pc + 1, stack := v :: rest }) t → Steps p.tables e below (T.setTop g) t := by
  obtain ⟨cl, A, q1, S1, N1, H1, G1⟩ := V
  exact X.aaload hx (by rw [eT]; exact A.1) (State.isArrayOf_alike hZ.alike A.2.1) hty A.2.2 (inb_of S1 hj) (H1.at (inb_of S1 hj) hv) hg hs hd
theorem own_len (X : Stand p l e R s m args below meth c T locs cells slots) (hx : p.tables.exec = Jvm.exec) (hZ : Z.Warmed39 s.vm) (eT : T.heap = h) {a : Addr} {k : ClassId} {ty : FieldType} {n : Int32} {vs : List Value} {dv : Value} (V : Arv Z h a k ty n vs dv) {g : JFrame} (hg : g.method = m) {rest : List Value} (hs : g.stack = .ref a :: rest) (hd : decode c.code g.pc = .ok (.arraylength, 1)) :
    ∀ t, Steps p.tables e below (T.setTop { g with pc := g.pc + 1, stack := .int n :: rest }) t → Steps p.tables e below (T.setTop g) t := by
  obtain ⟨cl, A, q1, S1, N1, H1, G1⟩ := V
  intro t k
  refine X.arraylength hx (by rw [eT]; exact A.1) (State.isArrayOf_alike hZ.alike A.2.1) hg hs hd t ?_
  rw [len_of S1 N1]
  exact k
end OwnKit
theorem own_eqi {t : Term} {n : Int32} {args : Array Value} {s : State} (h : (Jvm.Cond.eq t (.int n)).value args s none s [] = some true) : t.eval args s none [] s = some (.int n) := by
  obtain ⟨x, y, h1, h2, h3, -⟩ := cmp_v (Or.inl h)
  cases (Term.int_eval n).symm.trans h2
  cases x <;> simp [Kin, Value.isRef] at h3
  rw [h1]
  have q := h
  simp [Jvm.Cond.value, h1, Term.int_eval] at q
  rw [q]
theorem own_lenw {t : Term} {n : Int32} {args : Array Value} {s : State} {x : Addr} {cl : Cell} {ty : FieldType} (h : (Jvm.Cond.eq (Term.length t) (.int n)).value args s none s [] = some true) (ht : t.eval args s none [] s = some (.ref x)) (A : Arr s s.heap x cl ty) : cl.slots.size < 2 ^ 31 ∧ cl.slots.size.toInt32 = n := by
  obtain ⟨b, cell, e1, e2, e4⟩ := Term.length_spec (own_eqi h)
  obtain rfl : x = b := Value.ref.inj (Option.some.inj (ht.symm.trans e1))
  obtain rfl : cl = cell := Option.some.inj ((A.fin (Vm.Alike.refl _)).symm.trans e2)
  exact ⟨Jvm.Free.SBG.length_lt e1 e2 (own_eqi h), (Value.int.inj e4).symm⟩
theorem own_elemw {t u : Term} {j : Int32} {args : Array Value} {s : State} {x y : Addr} {cl : Cell} {ty : FieldType} (h : (Jvm.Cond.eq (Term.elem t (.int j)) u).value args s none s [] = some true) (ht : t.eval args s none [] s = some (.ref x)) (hu : u.eval args s none [] s = some (.ref y)) (A : Arr s s.heap x cl ty) : cl.slots[j.toNatClampNeg]? = some (.ref y) := by
  obtain ⟨v, w, h1, h2, h3, h4⟩ := cmp_v (Or.inl h)
  cases hu.symm.trans h2
  obtain ⟨-, q⟩ := elem_in h1 ht (Term.int_eval j) A.1
  have r : v = .ref y := gotT (eq_R h1 hu h4.2 rfl) h
  rw [q, r]
theorem own_elemi {t : Term} {j k : Int32} {args : Array Value} {s : State} {x : Addr} {cl : Cell} {ty : FieldType} (h : (Jvm.Cond.eq (Term.elem t (.int j)) (.int k)).value args s none s [] = some true) (ht : t.eval args s none [] s = some (.ref x)) (A : Arr s s.heap x cl ty) : cl.slots[j.toNatClampNeg]? = some (.int k) := by
  obtain ⟨-, q⟩ := elem_in (own_eqi h) ht (Term.int_eval j) A.1
  exact q
abbrev own_W (Z : State) (a0 : Array Value) : Prop := ∀ d ∈ tables_1, d.before a0 Z = true
theorem own_w0 {Z : State} {a0 : Array Value} (hw : own_W Z a0) : (Jvm.Cond.methodLink "com/example/siringa/siringa/MultiplicityOfPinLaw" (22 : Nat) ({ cls := "com/example/siringa/siringa/Multiplicity", name := "of", desc := "(ZZ)Lcom/example/siringa/siringa/Multiplicity;" } : Jvm.MethodName)).before a0 Z = true := hw _ (List.mem_of_getElem? (i := 0) rfl)
theorem own_w1 {Z : State} {a0 : Array Value} (hw : own_W Z a0) : (Jvm.Cond.static ({ cls := "com/example/siringa/siringa/Multiplicity", name := "of", desc := "(ZZ)Lcom/example/siringa/siringa/Multiplicity;" } : Jvm.MethodName)).before a0 Z = true := hw _ (List.mem_of_getElem? (i := 1) rfl)
theorem own_w2 {Z : State} {a0 : Array Value} (hw : own_W Z a0) : (Jvm.Cond.initialized "com/example/siringa/siringa/Multiplicity").before a0 Z = true := hw _ (List.mem_of_getElem? (i := 2) rfl)
theorem own_w3 {Z : State} {a0 : Array Value} (hw : own_W Z a0) : (Jvm.Cond.code ({ cls := "com/example/siringa/siringa/Multiplicity", name := "of", desc := "(ZZ)Lcom/example/siringa/siringa/Multiplicity;" } : Jvm.MethodName) prog_6_method_4_code (7 : Nat) (Option.some (Jvm.ClassFile.FieldType.object "com/example/siringa/siringa/Multiplicity"))).before a0 Z = true := hw _ (List.mem_of_getElem? (i := 3) rfl)
theorem own_w4 {Z : State} {a0 : Array Value} (hw : own_W Z a0) : (Jvm.Cond.methodLink "com/example/siringa/siringa/Multiplicity" (42 : Nat) ({ cls := "com/example/siringa/siringa/Multiplicity", name := "values", desc := "()[Lcom/example/siringa/siringa/Multiplicity;" } : Jvm.MethodName)).before a0 Z = true := hw _ (List.mem_of_getElem? (i := 4) rfl)
theorem own_w5 {Z : State} {a0 : Array Value} (hw : own_W Z a0) : (Jvm.Cond.static ({ cls := "com/example/siringa/siringa/Multiplicity", name := "values", desc := "()[Lcom/example/siringa/siringa/Multiplicity;" } : Jvm.MethodName)).before a0 Z = true := hw _ (List.mem_of_getElem? (i := 5) rfl)
theorem own_w6 {Z : State} {a0 : Array Value} (hw : own_W Z a0) : (Jvm.Cond.code ({ cls := "com/example/siringa/siringa/Multiplicity", name := "values", desc := "()[Lcom/example/siringa/siringa/Multiplicity;" } : Jvm.MethodName) prog_6_method_1_code (0 : Nat) (Option.some (Jvm.ClassFile.FieldType.array (Jvm.ClassFile.FieldType.object "com/example/siringa/siringa/Multiplicity")))).before a0 Z = true := hw _ (List.mem_of_getElem? (i := 6) rfl)
theorem own_w7 {Z : State} {a0 : Array Value} (hw : own_W Z a0) : (Jvm.Cond.fieldLink "com/example/siringa/siringa/Multiplicity" (16 : Nat) "com/example/siringa/siringa/Multiplicity" "$VALUES" "[Lcom/example/siringa/siringa/Multiplicity;").before a0 Z = true := hw _ (List.mem_of_getElem? (i := 7) rfl)
theorem own_w9 {Z : State} {a0 : Array Value} (hw : own_W Z a0) : (Jvm.Cond.methodLink "com/example/siringa/siringa/Multiplicity" (20 : Nat) ({ cls := "[Lcom/example/siringa/siringa/Multiplicity;", name := "clone", desc := "()Ljava/lang/Object;" } : Jvm.MethodName)).before a0 Z = true := hw _ (List.mem_of_getElem? (i := 9) rfl)
theorem own_w10 {Z : State} {a0 : Array Value} (hw : own_W Z a0) : (Jvm.Cond.sameMethod "[Lcom/example/siringa/siringa/Multiplicity;" "java/lang/Object" "clone" "()Ljava/lang/Object;").before a0 Z = true := hw _ (List.mem_of_getElem? (i := 10) rfl)
theorem own_w12 {Z : State} {a0 : Array Value} (hw : own_W Z a0) : (Jvm.Cond.instanceMethod ({ cls := "java/lang/Object", name := "clone", desc := "()Ljava/lang/Object;" } : Jvm.MethodName)).before a0 Z = true := hw _ (List.mem_of_getElem? (i := 12) rfl)
theorem own_w13 {Z : State} {a0 : Array Value} (hw : own_W Z a0) : (Jvm.Cond.selects "[Lcom/example/siringa/siringa/Multiplicity;" ({ cls := "[Lcom/example/siringa/siringa/Multiplicity;", name := "clone", desc := "()Ljava/lang/Object;" } : Jvm.MethodName) ({ cls := "java/lang/Object", name := "clone", desc := "()Ljava/lang/Object;" } : Jvm.MethodName)).before a0 Z = true := hw _ (List.mem_of_getElem? (i := 13) rfl)
theorem own_w14 {Z : State} {a0 : Array Value} (hw : own_W Z a0) : (Jvm.Cond.native ({ cls := "java/lang/Object", name := "clone", desc := "()Ljava/lang/Object;" } : Jvm.MethodName)).before a0 Z = true := hw _ (List.mem_of_getElem? (i := 14) rfl)
theorem own_w15 {Z : State} {a0 : Array Value} (hw : own_W Z a0) : (Jvm.Cond.castable "[Lcom/example/siringa/siringa/Multiplicity;" "java/lang/Cloneable").before a0 Z = true := hw _ (List.mem_of_getElem? (i := 15) rfl)
theorem own_w16 {Z : State} {a0 : Array Value} (hw : own_W Z a0) : (Jvm.Cond.laysStatic "com/example/siringa/siringa/Multiplicity" "ONE" "Lcom/example/siringa/siringa/Multiplicity;").before a0 Z = true := hw _ (List.mem_of_getElem? (i := 16) rfl)
theorem own_w17 {Z : State} {a0 : Array Value} (hw : own_W Z a0) : (Jvm.Cond.laysStatic "com/example/siringa/siringa/Multiplicity" "ZERO_OR_ONE" "Lcom/example/siringa/siringa/Multiplicity;").before a0 Z = true := hw _ (List.mem_of_getElem? (i := 17) rfl)
theorem own_w18 {Z : State} {a0 : Array Value} (hw : own_W Z a0) : (Jvm.Cond.laysStatic "com/example/siringa/siringa/Multiplicity" "ONE_OR_MORE" "Lcom/example/siringa/siringa/Multiplicity;").before a0 Z = true := hw _ (List.mem_of_getElem? (i := 18) rfl)
theorem own_w19 {Z : State} {a0 : Array Value} (hw : own_W Z a0) : (Jvm.Cond.laysStatic "com/example/siringa/siringa/Multiplicity" "ZERO_OR_MORE" "Lcom/example/siringa/siringa/Multiplicity;").before a0 Z = true := hw _ (List.mem_of_getElem? (i := 19) rfl)
theorem own_w20 {Z : State} {a0 : Array Value} (hw : own_W Z a0) : (Jvm.Cond.initializedFor "com/example/siringa/siringa/Multiplicity" "$VALUES" "[Lcom/example/siringa/siringa/Multiplicity;").before a0 Z = true := hw _ (List.mem_of_getElem? (i := 20) rfl)
theorem own_w21 {Z : State} {a0 : Array Value} (hw : own_W Z a0) : (Jvm.Cond.classLink "com/example/siringa/siringa/Multiplicity" (21 : Nat) "[Lcom/example/siringa/siringa/Multiplicity;").before a0 Z = true := hw _ (List.mem_of_getElem? (i := 21) rfl)
theorem own_w23 {Z : State} {a0 : Array Value} (hw : own_W Z a0) : (Jvm.Cond.fieldLink "com/example/siringa/siringa/Multiplicity" (35 : Nat) "com/example/siringa/siringa/Multiplicity" "required" "Z").before a0 Z = true := hw _ (List.mem_of_getElem? (i := 23) rfl)
theorem own_w25 {Z : State} {a0 : Array Value} (hw : own_W Z a0) : (Jvm.Cond.fieldLink "com/example/siringa/siringa/Multiplicity" (39 : Nat) "com/example/siringa/siringa/Multiplicity" "many" "Z").before a0 Z = true := hw _ (List.mem_of_getElem? (i := 25) rfl)
theorem own_w27 {Z : State} {a0 : Array Value} (hw : own_W Z a0) : (Jvm.Cond.methodLink "com/example/siringa/siringa/MultiplicityOfPinLaw" (26 : Nat) ({ cls := "com/example/siringa/siringa/MultiplicityOfPinLaw", name := "expected", desc := "(ZZ)Lcom/example/siringa/siringa/Multiplicity;" } : Jvm.MethodName)).before a0 Z = true := hw _ (List.mem_of_getElem? (i := 27) rfl)
theorem own_w28 {Z : State} {a0 : Array Value} (hw : own_W Z a0) : (Jvm.Cond.static ({ cls := "com/example/siringa/siringa/MultiplicityOfPinLaw", name := "expected", desc := "(ZZ)Lcom/example/siringa/siringa/Multiplicity;" } : Jvm.MethodName)).before a0 Z = true := hw _ (List.mem_of_getElem? (i := 28) rfl)
theorem own_w29 {Z : State} {a0 : Array Value} (hw : own_W Z a0) : (Jvm.Cond.initialized "com/example/siringa/siringa/MultiplicityOfPinLaw").before a0 Z = true := hw _ (List.mem_of_getElem? (i := 29) rfl)
theorem own_w30 {Z : State} {a0 : Array Value} (hw : own_W Z a0) : (Jvm.Cond.code ({ cls := "com/example/siringa/siringa/MultiplicityOfPinLaw", name := "expected", desc := "(ZZ)Lcom/example/siringa/siringa/Multiplicity;" } : Jvm.MethodName) method_2_code (2 : Nat) (Option.some (Jvm.ClassFile.FieldType.object "com/example/siringa/siringa/Multiplicity"))).before a0 Z = true := hw _ (List.mem_of_getElem? (i := 30) rfl)
theorem own_w31 {Z : State} {a0 : Array Value} (hw : own_W Z a0) : (Jvm.Cond.fieldLink "com/example/siringa/siringa/MultiplicityOfPinLaw" (16 : Nat) "com/example/siringa/siringa/Multiplicity" "ZERO_OR_MORE" "Lcom/example/siringa/siringa/Multiplicity;").before a0 Z = true := hw _ (List.mem_of_getElem? (i := 31) rfl)
theorem own_w32 {Z : State} {a0 : Array Value} (hw : own_W Z a0) : (Jvm.Cond.methodLink "com/example/siringa/siringa/MultiplicityOfPinLaw" (31 : Nat) ({ cls := "com/example/siringa/siringa/Multiplicity", name := "isRequired", desc := "()Z" } : Jvm.MethodName)).before a0 Z = true := hw _ (List.mem_of_getElem? (i := 32) rfl)
theorem own_w33 {Z : State} {a0 : Array Value} (hw : own_W Z a0) : (Jvm.Cond.declares ({ cls := "com/example/siringa/siringa/Multiplicity", name := "isRequired", desc := "()Z" } : Jvm.MethodName)).before a0 Z = true := hw _ (List.mem_of_getElem? (i := 33) rfl)
theorem own_w34 {Z : State} {a0 : Array Value} (hw : own_W Z a0) : (Jvm.Cond.instanceMethod ({ cls := "com/example/siringa/siringa/Multiplicity", name := "isRequired", desc := "()Z" } : Jvm.MethodName)).before a0 Z = true := hw _ (List.mem_of_getElem? (i := 34) rfl)
theorem own_w35 {Z : State} {a0 : Array Value} (hw : own_W Z a0) : (Jvm.Cond.selects "com/example/siringa/siringa/Multiplicity" ({ cls := "com/example/siringa/siringa/Multiplicity", name := "isRequired", desc := "()Z" } : Jvm.MethodName) ({ cls := "com/example/siringa/siringa/Multiplicity", name := "isRequired", desc := "()Z" } : Jvm.MethodName)).before a0 Z = true := hw _ (List.mem_of_getElem? (i := 35) rfl)
theorem own_w36 {Z : State} {a0 : Array Value} (hw : own_W Z a0) : (Jvm.Cond.code ({ cls := "com/example/siringa/siringa/Multiplicity", name := "isRequired", desc := "()Z" } : Jvm.MethodName) prog_6_method_5_code (1 : Nat) (Option.some Jvm.ClassFile.FieldType.boolean)).before a0 Z = true := hw _ (List.mem_of_getElem? (i := 36) rfl)
theorem own_w37 {Z : State} {a0 : Array Value} (hw : own_W Z a0) : (Jvm.Cond.methodLink "com/example/siringa/siringa/MultiplicityOfPinLaw" (35 : Nat) ({ cls := "com/example/siringa/siringa/Multiplicity", name := "isMany", desc := "()Z" } : Jvm.MethodName)).before a0 Z = true := hw _ (List.mem_of_getElem? (i := 37) rfl)
theorem own_w38 {Z : State} {a0 : Array Value} (hw : own_W Z a0) : (Jvm.Cond.declares ({ cls := "com/example/siringa/siringa/Multiplicity", name := "isMany", desc := "()Z" } : Jvm.MethodName)).before a0 Z = true := hw _ (List.mem_of_getElem? (i := 38) rfl)
theorem own_w39 {Z : State} {a0 : Array Value} (hw : own_W Z a0) : (Jvm.Cond.instanceMethod ({ cls := "com/example/siringa/siringa/Multiplicity", name := "isMany", desc := "()Z" } : Jvm.MethodName)).before a0 Z = true := hw _ (List.mem_of_getElem? (i := 39) rfl)
theorem own_w40 {Z : State} {a0 : Array Value} (hw : own_W Z a0) : (Jvm.Cond.selects "com/example/siringa/siringa/Multiplicity" ({ cls := "com/example/siringa/siringa/Multiplicity", name := "isMany", desc := "()Z" } : Jvm.MethodName) ({ cls := "com/example/siringa/siringa/Multiplicity", name := "isMany", desc := "()Z" } : Jvm.MethodName)).before a0 Z = true := hw _ (List.mem_of_getElem? (i := 40) rfl)
theorem own_w41 {Z : State} {a0 : Array Value} (hw : own_W Z a0) : (Jvm.Cond.code ({ cls := "com/example/siringa/siringa/Multiplicity", name := "isMany", desc := "()Z" } : Jvm.MethodName) prog_6_method_6_code (1 : Nat) (Option.some Jvm.ClassFile.FieldType.boolean)).before a0 Z = true := hw _ (List.mem_of_getElem? (i := 41) rfl)
theorem own_w42 {Z : State} {a0 : Array Value} (hw : own_W Z a0) : (Jvm.Cond.fieldLink "com/example/siringa/siringa/MultiplicityOfPinLaw" (19 : Nat) "com/example/siringa/siringa/Multiplicity" "ZERO_OR_ONE" "Lcom/example/siringa/siringa/Multiplicity;").before a0 Z = true := hw _ (List.mem_of_getElem? (i := 42) rfl)
theorem own_w43 {Z : State} {a0 : Array Value} (hw : own_W Z a0) : (Jvm.Cond.fieldLink "com/example/siringa/siringa/MultiplicityOfPinLaw" (7 : Nat) "com/example/siringa/siringa/Multiplicity" "ONE_OR_MORE" "Lcom/example/siringa/siringa/Multiplicity;").before a0 Z = true := hw _ (List.mem_of_getElem? (i := 43) rfl)
theorem own_w44 {Z : State} {a0 : Array Value} (hw : own_W Z a0) : (Jvm.Cond.fieldLink "com/example/siringa/siringa/MultiplicityOfPinLaw" (13 : Nat) "com/example/siringa/siringa/Multiplicity" "ONE" "Lcom/example/siringa/siringa/Multiplicity;").before a0 Z = true := hw _ (List.mem_of_getElem? (i := 44) rfl)
theorem own_d1_0 : decode prog_6_method_4_code 0 = .ok (.aconst_null, 1) := by decide +kernel
theorem own_d1_1 : decode prog_6_method_4_code 1 = .ok (.astore_n 2, 1) := by decide +kernel
theorem own_d1_2 : decode prog_6_method_4_code 2 = .ok (.invokestatic 42, 3) := by decide +kernel
theorem own_d1_5 : decode prog_6_method_4_code 5 = .ok (.astore_n 3, 1) := by decide +kernel
theorem own_d1_6 : decode prog_6_method_4_code 6 = .ok (.aload_n 3, 1) := by decide +kernel
theorem own_d1_7 : decode prog_6_method_4_code 7 = .ok (.arraylength, 1) := by decide +kernel
theorem own_d1_8 : decode prog_6_method_4_code 8 = .ok (.istore 4, 2) := by decide +kernel
theorem own_d1_10 : decode prog_6_method_4_code 10 = .ok (.iconst 0, 1) := by decide +kernel
theorem own_d1_11 : decode prog_6_method_4_code 11 = .ok (.istore 5, 2) := by decide +kernel
theorem own_d1_13 : decode prog_6_method_4_code 13 = .ok (.iload 5, 2) := by decide +kernel
theorem own_d1_15 : decode prog_6_method_4_code 15 = .ok (.iload 4, 2) := by decide +kernel
theorem own_d1_17 : decode prog_6_method_4_code 17 = .ok (.if_icmp .ge 36, 3) := by decide +kernel
theorem own_d1_20 : decode prog_6_method_4_code 20 = .ok (.aload_n 3, 1) := by decide +kernel
theorem own_d1_21 : decode prog_6_method_4_code 21 = .ok (.iload 5, 2) := by decide +kernel
theorem own_d1_23 : decode prog_6_method_4_code 23 = .ok (.aaload, 1) := by decide +kernel
theorem own_d1_24 : decode prog_6_method_4_code 24 = .ok (.astore 6, 2) := by decide +kernel
theorem own_d1_26 : decode prog_6_method_4_code 26 = .ok (.aload 6, 2) := by decide +kernel
theorem own_d1_28 : decode prog_6_method_4_code 28 = .ok (.getfield 35, 3) := by decide +kernel
theorem own_d1_31 : decode prog_6_method_4_code 31 = .ok (.iload_n 0, 1) := by decide +kernel
theorem own_d1_32 : decode prog_6_method_4_code 32 = .ok (.if_icmp .ne 15, 3) := by decide +kernel
theorem own_d1_35 : decode prog_6_method_4_code 35 = .ok (.aload 6, 2) := by decide +kernel
theorem own_d1_37 : decode prog_6_method_4_code 37 = .ok (.getfield 39, 3) := by decide +kernel
theorem own_d1_40 : decode prog_6_method_4_code 40 = .ok (.iload_n 1, 1) := by decide +kernel
theorem own_d1_41 : decode prog_6_method_4_code 41 = .ok (.if_icmp .ne 6, 3) := by decide +kernel
theorem own_d1_44 : decode prog_6_method_4_code 44 = .ok (.aload 6, 2) := by decide +kernel
theorem own_d1_46 : decode prog_6_method_4_code 46 = .ok (.astore_n 2, 1) := by decide +kernel
theorem own_d1_47 : decode prog_6_method_4_code 47 = .ok (.iinc 5 1, 3) := by decide +kernel
theorem own_d1_50 : decode prog_6_method_4_code 50 = .ok (.goto (-37), 3) := by decide +kernel
theorem own_d1_53 : decode prog_6_method_4_code 53 = .ok (.aload_n 2, 1) := by decide +kernel
theorem own_d1_54 : decode prog_6_method_4_code 54 = .ok (.areturn, 1) := by decide +kernel
theorem own_d2_0 : decode prog_6_method_1_code 0 = .ok (.getstatic 16, 3) := by decide +kernel
theorem own_d2_3 : decode prog_6_method_1_code 3 = .ok (.invokevirtual 20, 3) := by decide +kernel
theorem own_d2_6 : decode prog_6_method_1_code 6 = .ok (.checkcast 21, 3) := by decide +kernel
theorem own_d2_9 : decode prog_6_method_1_code 9 = .ok (.areturn, 1) := by decide +kernel
theorem own_d3_0 : decode method_2_code 0 = .ok (.iload_n 0, 1) := by decide +kernel
theorem own_d3_1 : decode method_2_code 1 = .ok (.ifCond .eq 15, 3) := by decide +kernel
theorem own_d3_4 : decode method_2_code 4 = .ok (.iload_n 1, 1) := by decide +kernel
theorem own_d3_5 : decode method_2_code 5 = .ok (.ifCond .eq 7, 3) := by decide +kernel
theorem own_d3_8 : decode method_2_code 8 = .ok (.getstatic 7, 3) := by decide +kernel
theorem own_d3_11 : decode method_2_code 11 = .ok (.areturn, 1) := by decide +kernel
theorem own_d3_12 : decode method_2_code 12 = .ok (.getstatic 13, 3) := by decide +kernel
theorem own_d3_15 : decode method_2_code 15 = .ok (.areturn, 1) := by decide +kernel
theorem own_d3_16 : decode method_2_code 16 = .ok (.iload_n 1, 1) := by decide +kernel
theorem own_d3_17 : decode method_2_code 17 = .ok (.ifCond .eq 7, 3) := by decide +kernel
theorem own_d3_20 : decode method_2_code 20 = .ok (.getstatic 16, 3) := by decide +kernel
theorem own_d3_23 : decode method_2_code 23 = .ok (.areturn, 1) := by decide +kernel
theorem own_d3_24 : decode method_2_code 24 = .ok (.getstatic 19, 3) := by decide +kernel
theorem own_d3_27 : decode method_2_code 27 = .ok (.areturn, 1) := by decide +kernel
theorem own_d4_0 : decode prog_6_method_5_code 0 = .ok (.aload_n 0, 1) := by decide +kernel
theorem own_d4_1 : decode prog_6_method_5_code 1 = .ok (.getfield 35, 3) := by decide +kernel
theorem own_d4_4 : decode prog_6_method_5_code 4 = .ok (.ireturn, 1) := by decide +kernel
theorem own_d5_0 : decode prog_6_method_6_code 0 = .ok (.aload_n 0, 1) := by decide +kernel
theorem own_d5_1 : decode prog_6_method_6_code 1 = .ok (.getfield 39, 3) := by decide +kernel
theorem own_d5_4 : decode prog_6_method_6_code 4 = .ok (.ireturn, 1) := by decide +kernel
theorem own_pd0 : parseMethodDescriptor "()[Lcom/example/siringa/siringa/Multiplicity;" = some ⟨[], some (.array (.object "com/example/siringa/siringa/Multiplicity"))⟩ := by decide +kernel
theorem own_pd1 : parseMethodDescriptor "(ZZ)Lcom/example/siringa/siringa/Multiplicity;" = some ⟨[.boolean, .boolean], some (.object "com/example/siringa/siringa/Multiplicity")⟩ := by decide +kernel
theorem own_pd2 : parseMethodDescriptor "()Z" = some ⟨[], some .boolean⟩ := by decide +kernel
theorem own_pn0 : plainName "com/example/siringa/siringa/Multiplicity" = true := by first | (simp [plainName, overriddenIn]; done) | decide +kernel
theorem own_pn1 : plainName "com/example/siringa/siringa/MultiplicityOfPinLaw" = true := by first | (simp [plainName, overriddenIn]; done) | decide +kernel
theorem own_ef2 (m : MethodId)  : entryFrame m #[] 0 = mkF m 0 #[] [] := by first | (simp [entryFrame, mkF, argsToLocals, Value.category]; done) | rfl
theorem own_ef1 (m : MethodId) (p1 : Int32) (p2 : Int32) : entryFrame m #[(.int p1), (.int p2)] 7 = mkF m 0 #[.val (.int p1), .val (.int p2), .unset, .unset, .unset, .unset, .unset] [] := by first | (simp [entryFrame, mkF, argsToLocals, Value.category]; done) | rfl
theorem own_ef3 (m : MethodId) (p1 : Int32) (p2 : Int32) : entryFrame m #[(.int p1), (.int p2)] 2 = mkF m 0 #[.val (.int p1), .val (.int p2)] [] := by first | (simp [entryFrame, mkF, argsToLocals, Value.category]; done) | rfl
theorem own_ef4 (m : MethodId) (a1 : Addr) : entryFrame m #[(.ref a1)] 1 = mkF m 0 #[.val (.ref a1)] [] := by first | (simp [entryFrame, mkF, argsToLocals, Value.category]; done) | rfl
theorem own_ef5 (m : MethodId) (a1 : Addr) : entryFrame m #[(.ref a1)] 1 = mkF m 0 #[.val (.ref a1)] [] := by first | (simp [entryFrame, mkF, argsToLocals, Value.category]; done) | rfl
theorem own_ef0 (m : MethodId) (p1 : Int32) (p2 : Int32) : entryFrame m #[(.int p1), (.int p2)] maxLocals = mkF m 0 #[.val (.int p1), .val (.int p2), .unset, .unset, .unset] [] := by first | (simp [entryFrame, mkF, argsToLocals, Value.category, maxLocals]; done) | rfl
def own_vals_Q (Z : State) (wv w0 w1 w2 w3 : Addr) (kv : ClassId) (h0 : Heap) (n0 : Nat) (v : Option Value) (h : Heap) (L : List Loc) : Prop := ∃ b k, v = some (.ref b) ∧ Fr n0 L ∧ Ext h0 h ∧ n0 ≤ b ∧ h0.size ≤ b ∧ Arv Z h b k (.object "com/example/siringa/siringa/Multiplicity") 4 [(.ref w0), (.ref w1), (.ref w2), (.ref w3)] .null
set_option maxRecDepth 65536 in
set_option maxHeartbeats 40000000 in
theorem own_vals (l : Launch) {Z : State} {a0 : Array Value} (hw : own_W Z a0) (ws : List Jvm.Cond) (wv w0 w1 w2 w3 : Addr) (kv : ClassId) (h0 : Heap) (n0 : Nat) (Z0 : n0 ≤ h0.size) (Sv : Sta Z h0 "com/example/siringa/siringa/Multiplicity" "$VALUES" "[Lcom/example/siringa/siringa/Multiplicity;" (.ref wv)) (Vv : Arv Z h0 wv kv (.object "com/example/siringa/siringa/Multiplicity") 4 [(.ref w0), (.ref w1), (.ref w2), (.ref w3)] .null) (Ev : Exa Z h0 wv "[Lcom/example/siringa/siringa/Multiplicity;") :
    MetFree l (⟨"com/example/siringa/siringa/Multiplicity", "values", "()[Lcom/example/siringa/siringa/Multiplicity;"⟩ : MethodName) (head1 (Jvm.Cond.code (⟨"com/example/siringa/siringa/Multiplicity", "values", "()[Lcom/example/siringa/siringa/Multiplicity;"⟩ : MethodName) prog_6_method_1_code 0 (some (.array (.object "com/example/siringa/siringa/Multiplicity"))) :: ws) ({ frames := 1, cells := 1, slots := 4, locals := 14 } : Room)) (fun a U => a = #[] ∧ Z.Warmed39 U.vm ∧ U.heap = h0) (fun _ _ _ _ _ => True) (fun _ U o U' => ∃ v L, o = .returned v ∧ own_vals_Q Z wv w0 w1 w2 w3 kv h0 n0 v U'.heap L ∧ FrameEnd U o U' L ({ frames := 1, cells := 1, slots := 4, locals := 14 } : Room).cells ({ frames := 1, cells := 1, slots := 4, locals := 14 } : Room).slots) := by
  refine own_enter (C := ({ frames := 1, cells := 1, slots := 4, locals := 14 } : Room).cells) (S := ({ frames := 1, cells := 1, slots := 4, locals := 14 } : Room).slots) (plainFor_of_name own_pn0) ?_
  intro p e s m below meth c T0 X0 I e0
  obtain ⟨hx, hby, hml, hown, hnm, hret, hlk, hZ⟩ := I
  have N0 := Fr.nil n0
  have O0 := own_extr h0
  refine own_cast (own_ef2 m ) ?_
  show own_Go _ _ _ _ T0 (mkF m 0 #[] [])
  obtain ⟨T1, X1, e1, st1⟩ := getS2 X0 hx hZ hown (host := "") (Or.inl (own_w7 hw)) Via.refl e0 (Sv.ext O0) (g := (mkF m 0 #[] [])) rfl (hb hby own_d2_0)
  refine own_st st1 ?_
  show own_Go _ _ _ _ T1 (mkF m 3 #[] [(.ref wv)])
  obtain ⟨T2, hp2, X2, e2, Et2, A2, Ax2, st2⟩ := cloneH X1 hx hZ hown (own_w9 hw) (own_w10 hw) (own_w14 hw) (own_w12 hw) (own_w13 hw) (own_w15 hw) e1 (Vv.ext O0).arh (Ev.ext O0) (g := (mkF m 3 #[] [(.ref wv)])) rfl (by rw [hml]; rfl) rfl (hb hby own_d2_3) (by decide) (W := 0) (cap := 4) (Nat.le_of_eq rfl) (by decide) (by decide) (by decide) (by decide)
  obtain ⟨b2, g2⟩ : ∃ z, z = h0.size := ⟨_, rfl⟩
  rw [← g2] at A2 Ax2 st2
  have s_b2 : h0.size ≤ b2 := Nat.le_trans O0.1 (Nat.le_of_eq g2.symm)
  have g_b2 : n0 ≤ b2 := Nat.le_trans Z0 s_b2
  have O2 := own_extt O0 Et2
  have Va2 : Arv Z hp2 b2 kv (.object "com/example/siringa/siringa/Multiplicity") (4 : Int32) [(.ref w0), (.ref w1), (.ref w2), (.ref w3)] .null := A2
  refine own_st st2 ?_
  show own_Go _ _ _ _ T2 (mkF m 6 #[] [(.ref b2)])
  obtain ⟨T3, X3, e3, st3⟩ := castY X2 hx hZ hown (own_w21 hw) e2 (Ins.self Ax2) (g := (mkF m 6 #[] [(.ref b2)])) rfl rfl (hb hby own_d2_6)
  refine own_st st3 ?_
  show own_Go _ _ _ _ T3 (mkF m 9 #[] [(.ref b2)])
  exact own_retA X3 hx hret rfl hlk rfl (hb hby own_d2_9) ⟨b2, _, rfl, N0, by rw [e3]; exact O2, g_b2, s_b2, by rw [e3]; exact Va2⟩ (by decide) (by decide)
def own_of0_Q (Z : State) (p1 p2 : Int32) (wv w0 w1 w2 w3 : Addr) (kv : ClassId) (h0 : Heap) (n0 : Nat) (v : Option Value) (h : Heap) (L : List Loc) : Prop := v = some (.ref w0) ∧ Fr n0 L ∧ Ext h0 h
set_option maxRecDepth 65536 in
set_option maxHeartbeats 40000000 in
theorem own_of0 (l : Launch) {Z : State} {a0 : Array Value} (hw : own_W Z a0) (ws : List Jvm.Cond) (p1 p2 : Int32) (wv w0 w1 w2 w3 : Addr) (kv : ClassId) (h0 : Heap) (n0 : Nat) (Z0 : n0 ≤ h0.size) (hp1 : p1 = (1 : Int32)) (hp2 : p2 = (0 : Int32)) (Sv : Sta Z h0 "com/example/siringa/siringa/Multiplicity" "$VALUES" "[Lcom/example/siringa/siringa/Multiplicity;" (.ref wv)) (Vv : Arv Z h0 wv kv (.object "com/example/siringa/siringa/Multiplicity") 4 [(.ref w0), (.ref w1), (.ref w2), (.ref w3)] .null) (Ev : Exa Z h0 wv "[Lcom/example/siringa/siringa/Multiplicity;") (Fr0 : Fld Z h0 w0 "com/example/siringa/siringa/Multiplicity" "required" "Z" (.int (1 : Int32))) (Fm0 : Fld Z h0 w0 "com/example/siringa/siringa/Multiplicity" "many" "Z" (.int (0 : Int32))) (Fr1 : Fld Z h0 w1 "com/example/siringa/siringa/Multiplicity" "required" "Z" (.int (0 : Int32))) (Fm1 : Fld Z h0 w1 "com/example/siringa/siringa/Multiplicity" "many" "Z" (.int (0 : Int32))) (Fr2 : Fld Z h0 w2 "com/example/siringa/siringa/Multiplicity" "required" "Z" (.int (1 : Int32))) (Fm2 : Fld Z h0 w2 "com/example/siringa/siringa/Multiplicity" "many" "Z" (.int (1 : Int32))) (Fr3 : Fld Z h0 w3 "com/example/siringa/siringa/Multiplicity" "required" "Z" (.int (0 : Int32))) (Fm3 : Fld Z h0 w3 "com/example/siringa/siringa/Multiplicity" "many" "Z" (.int (1 : Int32))) :
    MetFree l (⟨"com/example/siringa/siringa/Multiplicity", "of", "(ZZ)Lcom/example/siringa/siringa/Multiplicity;"⟩ : MethodName) (head1 (Jvm.Cond.code (⟨"com/example/siringa/siringa/Multiplicity", "of", "(ZZ)Lcom/example/siringa/siringa/Multiplicity;"⟩ : MethodName) prog_6_method_4_code 7 (some (.object "com/example/siringa/siringa/Multiplicity")) :: ws) ({ frames := 2, cells := 1, slots := 4, locals := 25 } : Room)) (fun a U => a = #[(.int p1), (.int p2)] ∧ Z.Warmed39 U.vm ∧ U.heap = h0) (fun _ _ _ _ _ => True) (fun _ U o U' => ∃ v L, o = .returned v ∧ own_of0_Q Z p1 p2 wv w0 w1 w2 w3 kv h0 n0 v U'.heap L ∧ FrameEnd U o U' L ({ frames := 2, cells := 1, slots := 4, locals := 25 } : Room).cells ({ frames := 2, cells := 1, slots := 4, locals := 25 } : Room).slots) := by
  refine own_enter (C := ({ frames := 2, cells := 1, slots := 4, locals := 25 } : Room).cells) (S := ({ frames := 2, cells := 1, slots := 4, locals := 25 } : Room).slots) (plainFor_of_name own_pn0) ?_
  intro p e s m below meth c T0 X0 I e0
  obtain ⟨hx, hby, hml, hown, hnm, hret, hlk, hZ⟩ := I
  have N0 := Fr.nil n0
  have O0 := own_extr h0
  refine own_cast (own_ef1 m p1 p2) ?_
  show own_Go _ _ _ _ T0 (mkF m 0 #[.val (.int p1), .val (.int p2), .unset, .unset, .unset, .unset, .unset] [])
  rw [hp1, hp2]
  show own_Go _ _ _ _ T0 (mkF m 0 #[.val (.int (1 : Int32)), .val (.int (0 : Int32)), .unset, .unset, .unset, .unset, .unset] [])
  refine own_st (fun _ k => XS.aconstNull X0.here hx rfl (hb hby own_d1_0) k) ?_
  show own_Go _ _ _ _ T0 (mkF m 1 #[.val (.int (1 : Int32)), .val (.int (0 : Int32)), .unset, .unset, .unset, .unset, .unset] [.null])
  refine own_st (fun _ k => XS.astoreN X0.here hx rfl (hb hby own_d1_1) rfl rfl (l' := #[.val (.int (1 : Int32)), .val (.int (0 : Int32)), .val .null, .unset, .unset, .unset, .unset]) rfl k) ?_
  show own_Go _ _ _ _ T0 (mkF m 2 #[.val (.int (1 : Int32)), .val (.int (0 : Int32)), .val .null, .unset, .unset, .unset, .unset] [])
  obtain ⟨v1, T1, L1, hQ1, X1, st1⟩ := own_callS X0 hx hZ (y := (⟨"com/example/siringa/siringa/Multiplicity", "values", "()[Lcom/example/siringa/siringa/Multiplicity;"⟩ : MethodName)) hown (own_w4 hw) (own_w5 hw) (own_w2 hw) (own_w6 hw) (by decide) (own_vals l hw [] wv w0 w1 w2 w3 kv h0 n0 (Nat.le_trans Z0 O0.1) (Sv.ext O0) (Vv.ext O0) (Ev.ext O0)) e0 (g := (mkF m 2 #[.val (.int (1 : Int32)), .val (.int (0 : Int32)), .val .null, .unset, .unset, .unset, .unset] [])) rfl (by rw [hml]; rfl) (argsL := []) (rest := []) (lenOf own_pd0 rfl) rfl rfl (W := 0) (Nat.le_of_eq rfl) (hb hby own_d1_2) (by decide) (by decide) (by decide) (by decide)
  obtain ⟨bv, kb, rfl, N1, Et1, gb, sb, Vb⟩ := hQ1
  have O1 := own_extt O0 Et1
  have N1' := Fr.app N0 N1
  refine own_st st1 ?_
  show own_Go _ _ _ _ T1 (mkF m 5 #[.val (.int (1 : Int32)), .val (.int (0 : Int32)), .val .null, .unset, .unset, .unset, .unset] [(.ref bv)])
  refine own_st (fun _ k => XS.astoreN X1.here hx rfl (hb hby own_d1_5) rfl rfl (l' := #[.val (.int (1 : Int32)), .val (.int (0 : Int32)), .val .null, .val (.ref bv), .unset, .unset, .unset]) rfl k) ?_
  show own_Go _ _ _ _ T1 (mkF m 6 #[.val (.int (1 : Int32)), .val (.int (0 : Int32)), .val .null, .val (.ref bv), .unset, .unset, .unset] [])
  refine own_st (fun _ k => XS.aloadN X1.here hx rfl (hb hby own_d1_6) rfl rfl k) ?_
  show own_Go _ _ _ _ T1 (mkF m 7 #[.val (.int (1 : Int32)), .val (.int (0 : Int32)), .val .null, .val (.ref bv), .unset, .unset, .unset] [(.ref bv)])
  refine own_st (own_len X1 hx hZ rfl Vb (g := (mkF m 7 #[.val (.int (1 : Int32)), .val (.int (0 : Int32)), .val .null, .val (.ref bv), .unset, .unset, .unset] [(.ref bv)])) rfl rfl (hb hby own_d1_7)) ?_
  show own_Go _ _ _ _ T1 (mkF m 8 #[.val (.int (1 : Int32)), .val (.int (0 : Int32)), .val .null, .val (.ref bv), .unset, .unset, .unset] [(.int (4 : Int32))])
  refine own_st (fun _ k => XS.istore X1.here hx rfl (hb hby own_d1_8) rfl (l' := #[.val (.int (1 : Int32)), .val (.int (0 : Int32)), .val .null, .val (.ref bv), .val (.int (4 : Int32)), .unset, .unset]) rfl k) ?_
  show own_Go _ _ _ _ T1 (mkF m 10 #[.val (.int (1 : Int32)), .val (.int (0 : Int32)), .val .null, .val (.ref bv), .val (.int (4 : Int32)), .unset, .unset] [])
  refine own_st (fun _ k => XS.iconst X1.here hx rfl (hb hby own_d1_10) k) ?_
  show own_Go _ _ _ _ T1 (mkF m 11 #[.val (.int (1 : Int32)), .val (.int (0 : Int32)), .val .null, .val (.ref bv), .val (.int (4 : Int32)), .unset, .unset] [(.int (0 : Int32))])
  refine own_st (fun _ k => XS.istore X1.here hx rfl (hb hby own_d1_11) rfl (l' := #[.val (.int (1 : Int32)), .val (.int (0 : Int32)), .val .null, .val (.ref bv), .val (.int (4 : Int32)), .val (.int (0 : Int32)), .unset]) rfl k) ?_
  show own_Go _ _ _ _ T1 (mkF m 13 #[.val (.int (1 : Int32)), .val (.int (0 : Int32)), .val .null, .val (.ref bv), .val (.int (4 : Int32)), .val (.int (0 : Int32)), .unset] [])
  refine own_st (fun _ k => XS.iload X1.here hx rfl (hb hby own_d1_13) rfl k) ?_
  show own_Go _ _ _ _ T1 (mkF m 15 #[.val (.int (1 : Int32)), .val (.int (0 : Int32)), .val .null, .val (.ref bv), .val (.int (4 : Int32)), .val (.int (0 : Int32)), .unset] [(.int (0 : Int32))])
  refine own_st (fun _ k => XS.iload X1.here hx rfl (hb hby own_d1_15) rfl k) ?_
  show own_Go _ _ _ _ T1 (mkF m 17 #[.val (.int (1 : Int32)), .val (.int (0 : Int32)), .val .null, .val (.ref bv), .val (.int (4 : Int32)), .val (.int (0 : Int32)), .unset] [(.int (4 : Int32)), (.int (0 : Int32))])
  refine own_st (fun _ k => XS.icmpNo X1.here hx rfl (hb hby own_d1_17) rfl (tlt (by decide : (0 : Int32) < (4 : Int32))).2.1 k) ?_
  show own_Go _ _ _ _ T1 (mkF m 20 #[.val (.int (1 : Int32)), .val (.int (0 : Int32)), .val .null, .val (.ref bv), .val (.int (4 : Int32)), .val (.int (0 : Int32)), .unset] [])
  refine own_st (fun _ k => XS.aloadN X1.here hx rfl (hb hby own_d1_20) rfl rfl k) ?_
  show own_Go _ _ _ _ T1 (mkF m 21 #[.val (.int (1 : Int32)), .val (.int (0 : Int32)), .val .null, .val (.ref bv), .val (.int (4 : Int32)), .val (.int (0 : Int32)), .unset] [(.ref bv)])
  refine own_st (fun _ k => XS.iload X1.here hx rfl (hb hby own_d1_21) rfl k) ?_
  show own_Go _ _ _ _ T1 (mkF m 23 #[.val (.int (1 : Int32)), .val (.int (0 : Int32)), .val .null, .val (.ref bv), .val (.int (4 : Int32)), .val (.int (0 : Int32)), .unset] [(.int (0 : Int32)), (.ref bv)])
  refine own_st (own_ldR X1 hx hZ rfl Vb rfl (j := (0 : Int32)) (by decide) (v := (.ref w0)) rfl (g := (mkF m 23 #[.val (.int (1 : Int32)), .val (.int (0 : Int32)), .val .null, .val (.ref bv), .val (.int (4 : Int32)), .val (.int (0 : Int32)), .unset] [(.int (0 : Int32)), (.ref bv)])) rfl rfl (hb hby own_d1_23)) ?_
  show own_Go _ _ _ _ T1 (mkF m 24 #[.val (.int (1 : Int32)), .val (.int (0 : Int32)), .val .null, .val (.ref bv), .val (.int (4 : Int32)), .val (.int (0 : Int32)), .unset] [(.ref w0)])
  refine own_st (fun _ k => XS.astore X1.here hx rfl (hb hby own_d1_24) rfl rfl (l' := #[.val (.int (1 : Int32)), .val (.int (0 : Int32)), .val .null, .val (.ref bv), .val (.int (4 : Int32)), .val (.int (0 : Int32)), .val (.ref w0)]) rfl k) ?_
  show own_Go _ _ _ _ T1 (mkF m 26 #[.val (.int (1 : Int32)), .val (.int (0 : Int32)), .val .null, .val (.ref bv), .val (.int (4 : Int32)), .val (.int (0 : Int32)), .val (.ref w0)] [])
  refine own_st (fun _ k => XS.aload X1.here hx rfl (hb hby own_d1_26) rfl rfl k) ?_
  show own_Go _ _ _ _ T1 (mkF m 28 #[.val (.int (1 : Int32)), .val (.int (0 : Int32)), .val .null, .val (.ref bv), .val (.int (4 : Int32)), .val (.int (0 : Int32)), .val (.ref w0)] [(.ref w0)])
  obtain ⟨T2, X2, e2, st2⟩ := getF X1 hx hZ hown (host := "") (Or.inl (own_w23 hw)) Via.refl rfl (Fr0.ext O1) (g := (mkF m 28 #[.val (.int (1 : Int32)), .val (.int (0 : Int32)), .val .null, .val (.ref bv), .val (.int (4 : Int32)), .val (.int (0 : Int32)), .val (.ref w0)] [(.ref w0)])) rfl rfl (hb hby own_d1_28)
  refine own_st st2 ?_
  show own_Go _ _ _ _ T2 (mkF m 31 #[.val (.int (1 : Int32)), .val (.int (0 : Int32)), .val .null, .val (.ref bv), .val (.int (4 : Int32)), .val (.int (0 : Int32)), .val (.ref w0)] [(.int (1 : Int32))])
  refine own_st (fun _ k => XS.iloadN X2.here hx rfl (hb hby own_d1_31) rfl k) ?_
  show own_Go _ _ _ _ T2 (mkF m 32 #[.val (.int (1 : Int32)), .val (.int (0 : Int32)), .val .null, .val (.ref bv), .val (.int (4 : Int32)), .val (.int (0 : Int32)), .val (.ref w0)] [(.int (1 : Int32)), (.int (1 : Int32))])
  refine own_st (fun _ k => XS.icmpNo X2.here hx rfl (hb hby own_d1_32) rfl (teq (by decide : (1 : Int32) = (1 : Int32))).2 k) ?_
  show own_Go _ _ _ _ T2 (mkF m 35 #[.val (.int (1 : Int32)), .val (.int (0 : Int32)), .val .null, .val (.ref bv), .val (.int (4 : Int32)), .val (.int (0 : Int32)), .val (.ref w0)] [])
  refine own_st (fun _ k => XS.aload X2.here hx rfl (hb hby own_d1_35) rfl rfl k) ?_
  show own_Go _ _ _ _ T2 (mkF m 37 #[.val (.int (1 : Int32)), .val (.int (0 : Int32)), .val .null, .val (.ref bv), .val (.int (4 : Int32)), .val (.int (0 : Int32)), .val (.ref w0)] [(.ref w0)])
  obtain ⟨T3, X3, e3, st3⟩ := getF X2 hx hZ hown (host := "") (Or.inl (own_w25 hw)) Via.refl e2 (Fm0.ext O1) (g := (mkF m 37 #[.val (.int (1 : Int32)), .val (.int (0 : Int32)), .val .null, .val (.ref bv), .val (.int (4 : Int32)), .val (.int (0 : Int32)), .val (.ref w0)] [(.ref w0)])) rfl rfl (hb hby own_d1_37)
  refine own_st st3 ?_
  show own_Go _ _ _ _ T3 (mkF m 40 #[.val (.int (1 : Int32)), .val (.int (0 : Int32)), .val .null, .val (.ref bv), .val (.int (4 : Int32)), .val (.int (0 : Int32)), .val (.ref w0)] [(.int (0 : Int32))])
  refine own_st (fun _ k => XS.iloadN X3.here hx rfl (hb hby own_d1_40) rfl k) ?_
  show own_Go _ _ _ _ T3 (mkF m 41 #[.val (.int (1 : Int32)), .val (.int (0 : Int32)), .val .null, .val (.ref bv), .val (.int (4 : Int32)), .val (.int (0 : Int32)), .val (.ref w0)] [(.int (0 : Int32)), (.int (0 : Int32))])
  refine own_st (fun _ k => XS.icmpNo X3.here hx rfl (hb hby own_d1_41) rfl (teq (by decide : (0 : Int32) = (0 : Int32))).2 k) ?_
  show own_Go _ _ _ _ T3 (mkF m 44 #[.val (.int (1 : Int32)), .val (.int (0 : Int32)), .val .null, .val (.ref bv), .val (.int (4 : Int32)), .val (.int (0 : Int32)), .val (.ref w0)] [])
  refine own_st (fun _ k => XS.aload X3.here hx rfl (hb hby own_d1_44) rfl rfl k) ?_
  show own_Go _ _ _ _ T3 (mkF m 46 #[.val (.int (1 : Int32)), .val (.int (0 : Int32)), .val .null, .val (.ref bv), .val (.int (4 : Int32)), .val (.int (0 : Int32)), .val (.ref w0)] [(.ref w0)])
  refine own_st (fun _ k => XS.astoreN X3.here hx rfl (hb hby own_d1_46) rfl rfl (l' := #[.val (.int (1 : Int32)), .val (.int (0 : Int32)), .val (.ref w0), .val (.ref bv), .val (.int (4 : Int32)), .val (.int (0 : Int32)), .val (.ref w0)]) rfl k) ?_
  show own_Go _ _ _ _ T3 (mkF m 47 #[.val (.int (1 : Int32)), .val (.int (0 : Int32)), .val (.ref w0), .val (.ref bv), .val (.int (4 : Int32)), .val (.int (0 : Int32)), .val (.ref w0)] [])
  refine own_st (fun _ k => XS.iinc X3.here hx rfl (hb hby own_d1_47) rfl (l' := #[.val (.int (1 : Int32)), .val (.int (0 : Int32)), .val (.ref w0), .val (.ref bv), .val (.int (4 : Int32)), .val (.int ((0 : Int32) + (1 : Int32))), .val (.ref w0)]) rfl k) ?_
  show own_Go _ _ _ _ T3 (mkF m 50 #[.val (.int (1 : Int32)), .val (.int (0 : Int32)), .val (.ref w0), .val (.ref bv), .val (.int (4 : Int32)), .val (.int ((0 : Int32) + (1 : Int32))), .val (.ref w0)] [])
  rw [show ((0 : Int32) + (1 : Int32)) = (1 : Int32) from by decide]
  show own_Go _ _ _ _ T3 (mkF m 50 #[.val (.int (1 : Int32)), .val (.int (0 : Int32)), .val (.ref w0), .val (.ref bv), .val (.int (4 : Int32)), .val (.int (1 : Int32)), .val (.ref w0)] [])
  refine own_st (fun _ k => XS.goto X3.here hx rfl (pc0 := 50) (pc' := 13) rfl (hb hby own_d1_50) (by decide) (by decide) k) ?_
  show own_Go _ _ _ _ T3 (mkF m 13 #[.val (.int (1 : Int32)), .val (.int (0 : Int32)), .val (.ref w0), .val (.ref bv), .val (.int (4 : Int32)), .val (.int (1 : Int32)), .val (.ref w0)] [])
  refine own_st (fun _ k => XS.iload X3.here hx rfl (hb hby own_d1_13) rfl k) ?_
  show own_Go _ _ _ _ T3 (mkF m 15 #[.val (.int (1 : Int32)), .val (.int (0 : Int32)), .val (.ref w0), .val (.ref bv), .val (.int (4 : Int32)), .val (.int (1 : Int32)), .val (.ref w0)] [(.int (1 : Int32))])
  refine own_st (fun _ k => XS.iload X3.here hx rfl (hb hby own_d1_15) rfl k) ?_
  show own_Go _ _ _ _ T3 (mkF m 17 #[.val (.int (1 : Int32)), .val (.int (0 : Int32)), .val (.ref w0), .val (.ref bv), .val (.int (4 : Int32)), .val (.int (1 : Int32)), .val (.ref w0)] [(.int (4 : Int32)), (.int (1 : Int32))])
  refine own_st (fun _ k => XS.icmpNo X3.here hx rfl (hb hby own_d1_17) rfl (tlt (by decide : (1 : Int32) < (4 : Int32))).2.1 k) ?_
  show own_Go _ _ _ _ T3 (mkF m 20 #[.val (.int (1 : Int32)), .val (.int (0 : Int32)), .val (.ref w0), .val (.ref bv), .val (.int (4 : Int32)), .val (.int (1 : Int32)), .val (.ref w0)] [])
  refine own_st (fun _ k => XS.aloadN X3.here hx rfl (hb hby own_d1_20) rfl rfl k) ?_
  show own_Go _ _ _ _ T3 (mkF m 21 #[.val (.int (1 : Int32)), .val (.int (0 : Int32)), .val (.ref w0), .val (.ref bv), .val (.int (4 : Int32)), .val (.int (1 : Int32)), .val (.ref w0)] [(.ref bv)])
  refine own_st (fun _ k => XS.iload X3.here hx rfl (hb hby own_d1_21) rfl k) ?_
  show own_Go _ _ _ _ T3 (mkF m 23 #[.val (.int (1 : Int32)), .val (.int (0 : Int32)), .val (.ref w0), .val (.ref bv), .val (.int (4 : Int32)), .val (.int (1 : Int32)), .val (.ref w0)] [(.int (1 : Int32)), (.ref bv)])
  refine own_st (own_ldR X3 hx hZ e3 Vb rfl (j := (1 : Int32)) (by decide) (v := (.ref w1)) rfl (g := (mkF m 23 #[.val (.int (1 : Int32)), .val (.int (0 : Int32)), .val (.ref w0), .val (.ref bv), .val (.int (4 : Int32)), .val (.int (1 : Int32)), .val (.ref w0)] [(.int (1 : Int32)), (.ref bv)])) rfl rfl (hb hby own_d1_23)) ?_
  show own_Go _ _ _ _ T3 (mkF m 24 #[.val (.int (1 : Int32)), .val (.int (0 : Int32)), .val (.ref w0), .val (.ref bv), .val (.int (4 : Int32)), .val (.int (1 : Int32)), .val (.ref w0)] [(.ref w1)])
  refine own_st (fun _ k => XS.astore X3.here hx rfl (hb hby own_d1_24) rfl rfl (l' := #[.val (.int (1 : Int32)), .val (.int (0 : Int32)), .val (.ref w0), .val (.ref bv), .val (.int (4 : Int32)), .val (.int (1 : Int32)), .val (.ref w1)]) rfl k) ?_
  show own_Go _ _ _ _ T3 (mkF m 26 #[.val (.int (1 : Int32)), .val (.int (0 : Int32)), .val (.ref w0), .val (.ref bv), .val (.int (4 : Int32)), .val (.int (1 : Int32)), .val (.ref w1)] [])
  refine own_st (fun _ k => XS.aload X3.here hx rfl (hb hby own_d1_26) rfl rfl k) ?_
  show own_Go _ _ _ _ T3 (mkF m 28 #[.val (.int (1 : Int32)), .val (.int (0 : Int32)), .val (.ref w0), .val (.ref bv), .val (.int (4 : Int32)), .val (.int (1 : Int32)), .val (.ref w1)] [(.ref w1)])
  obtain ⟨T4, X4, e4, st4⟩ := getF X3 hx hZ hown (host := "") (Or.inl (own_w23 hw)) Via.refl e3 (Fr1.ext O1) (g := (mkF m 28 #[.val (.int (1 : Int32)), .val (.int (0 : Int32)), .val (.ref w0), .val (.ref bv), .val (.int (4 : Int32)), .val (.int (1 : Int32)), .val (.ref w1)] [(.ref w1)])) rfl rfl (hb hby own_d1_28)
  refine own_st st4 ?_
  show own_Go _ _ _ _ T4 (mkF m 31 #[.val (.int (1 : Int32)), .val (.int (0 : Int32)), .val (.ref w0), .val (.ref bv), .val (.int (4 : Int32)), .val (.int (1 : Int32)), .val (.ref w1)] [(.int (0 : Int32))])
  refine own_st (fun _ k => XS.iloadN X4.here hx rfl (hb hby own_d1_31) rfl k) ?_
  show own_Go _ _ _ _ T4 (mkF m 32 #[.val (.int (1 : Int32)), .val (.int (0 : Int32)), .val (.ref w0), .val (.ref bv), .val (.int (4 : Int32)), .val (.int (1 : Int32)), .val (.ref w1)] [(.int (1 : Int32)), (.int (0 : Int32))])
  refine own_st (fun _ k => XS.icmpYes X4.here hx rfl (pc0 := 32) (pc' := 47) rfl (hb hby own_d1_32) rfl (feq (by decide : ¬ ((0 : Int32) = (1 : Int32)))).2 (by decide) (by decide) k) ?_
  show own_Go _ _ _ _ T4 (mkF m 47 #[.val (.int (1 : Int32)), .val (.int (0 : Int32)), .val (.ref w0), .val (.ref bv), .val (.int (4 : Int32)), .val (.int (1 : Int32)), .val (.ref w1)] [])
  refine own_st (fun _ k => XS.iinc X4.here hx rfl (hb hby own_d1_47) rfl (l' := #[.val (.int (1 : Int32)), .val (.int (0 : Int32)), .val (.ref w0), .val (.ref bv), .val (.int (4 : Int32)), .val (.int ((1 : Int32) + (1 : Int32))), .val (.ref w1)]) rfl k) ?_
  show own_Go _ _ _ _ T4 (mkF m 50 #[.val (.int (1 : Int32)), .val (.int (0 : Int32)), .val (.ref w0), .val (.ref bv), .val (.int (4 : Int32)), .val (.int ((1 : Int32) + (1 : Int32))), .val (.ref w1)] [])
  rw [show ((1 : Int32) + (1 : Int32)) = (2 : Int32) from by decide]
  show own_Go _ _ _ _ T4 (mkF m 50 #[.val (.int (1 : Int32)), .val (.int (0 : Int32)), .val (.ref w0), .val (.ref bv), .val (.int (4 : Int32)), .val (.int (2 : Int32)), .val (.ref w1)] [])
  refine own_st (fun _ k => XS.goto X4.here hx rfl (pc0 := 50) (pc' := 13) rfl (hb hby own_d1_50) (by decide) (by decide) k) ?_
  show own_Go _ _ _ _ T4 (mkF m 13 #[.val (.int (1 : Int32)), .val (.int (0 : Int32)), .val (.ref w0), .val (.ref bv), .val (.int (4 : Int32)), .val (.int (2 : Int32)), .val (.ref w1)] [])
  refine own_st (fun _ k => XS.iload X4.here hx rfl (hb hby own_d1_13) rfl k) ?_
  show own_Go _ _ _ _ T4 (mkF m 15 #[.val (.int (1 : Int32)), .val (.int (0 : Int32)), .val (.ref w0), .val (.ref bv), .val (.int (4 : Int32)), .val (.int (2 : Int32)), .val (.ref w1)] [(.int (2 : Int32))])
  refine own_st (fun _ k => XS.iload X4.here hx rfl (hb hby own_d1_15) rfl k) ?_
  show own_Go _ _ _ _ T4 (mkF m 17 #[.val (.int (1 : Int32)), .val (.int (0 : Int32)), .val (.ref w0), .val (.ref bv), .val (.int (4 : Int32)), .val (.int (2 : Int32)), .val (.ref w1)] [(.int (4 : Int32)), (.int (2 : Int32))])
  refine own_st (fun _ k => XS.icmpNo X4.here hx rfl (hb hby own_d1_17) rfl (tlt (by decide : (2 : Int32) < (4 : Int32))).2.1 k) ?_
  show own_Go _ _ _ _ T4 (mkF m 20 #[.val (.int (1 : Int32)), .val (.int (0 : Int32)), .val (.ref w0), .val (.ref bv), .val (.int (4 : Int32)), .val (.int (2 : Int32)), .val (.ref w1)] [])
  refine own_st (fun _ k => XS.aloadN X4.here hx rfl (hb hby own_d1_20) rfl rfl k) ?_
  show own_Go _ _ _ _ T4 (mkF m 21 #[.val (.int (1 : Int32)), .val (.int (0 : Int32)), .val (.ref w0), .val (.ref bv), .val (.int (4 : Int32)), .val (.int (2 : Int32)), .val (.ref w1)] [(.ref bv)])
  refine own_st (fun _ k => XS.iload X4.here hx rfl (hb hby own_d1_21) rfl k) ?_
  show own_Go _ _ _ _ T4 (mkF m 23 #[.val (.int (1 : Int32)), .val (.int (0 : Int32)), .val (.ref w0), .val (.ref bv), .val (.int (4 : Int32)), .val (.int (2 : Int32)), .val (.ref w1)] [(.int (2 : Int32)), (.ref bv)])
  refine own_st (own_ldR X4 hx hZ e4 Vb rfl (j := (2 : Int32)) (by decide) (v := (.ref w2)) rfl (g := (mkF m 23 #[.val (.int (1 : Int32)), .val (.int (0 : Int32)), .val (.ref w0), .val (.ref bv), .val (.int (4 : Int32)), .val (.int (2 : Int32)), .val (.ref w1)] [(.int (2 : Int32)), (.ref bv)])) rfl rfl (hb hby own_d1_23)) ?_
  show own_Go _ _ _ _ T4 (mkF m 24 #[.val (.int (1 : Int32)), .val (.int (0 : Int32)), .val (.ref w0), .val (.ref bv), .val (.int (4 : Int32)), .val (.int (2 : Int32)), .val (.ref w1)] [(.ref w2)])
  refine own_st (fun _ k => XS.astore X4.here hx rfl (hb hby own_d1_24) rfl rfl (l' := #[.val (.int (1 : Int32)), .val (.int (0 : Int32)), .val (.ref w0), .val (.ref bv), .val (.int (4 : Int32)), .val (.int (2 : Int32)), .val (.ref w2)]) rfl k) ?_
  show own_Go _ _ _ _ T4 (mkF m 26 #[.val (.int (1 : Int32)), .val (.int (0 : Int32)), .val (.ref w0), .val (.ref bv), .val (.int (4 : Int32)), .val (.int (2 : Int32)), .val (.ref w2)] [])
  refine own_st (fun _ k => XS.aload X4.here hx rfl (hb hby own_d1_26) rfl rfl k) ?_
  show own_Go _ _ _ _ T4 (mkF m 28 #[.val (.int (1 : Int32)), .val (.int (0 : Int32)), .val (.ref w0), .val (.ref bv), .val (.int (4 : Int32)), .val (.int (2 : Int32)), .val (.ref w2)] [(.ref w2)])
  obtain ⟨T5, X5, e5, st5⟩ := getF X4 hx hZ hown (host := "") (Or.inl (own_w23 hw)) Via.refl e4 (Fr2.ext O1) (g := (mkF m 28 #[.val (.int (1 : Int32)), .val (.int (0 : Int32)), .val (.ref w0), .val (.ref bv), .val (.int (4 : Int32)), .val (.int (2 : Int32)), .val (.ref w2)] [(.ref w2)])) rfl rfl (hb hby own_d1_28)
  refine own_st st5 ?_
  show own_Go _ _ _ _ T5 (mkF m 31 #[.val (.int (1 : Int32)), .val (.int (0 : Int32)), .val (.ref w0), .val (.ref bv), .val (.int (4 : Int32)), .val (.int (2 : Int32)), .val (.ref w2)] [(.int (1 : Int32))])
  refine own_st (fun _ k => XS.iloadN X5.here hx rfl (hb hby own_d1_31) rfl k) ?_
  show own_Go _ _ _ _ T5 (mkF m 32 #[.val (.int (1 : Int32)), .val (.int (0 : Int32)), .val (.ref w0), .val (.ref bv), .val (.int (4 : Int32)), .val (.int (2 : Int32)), .val (.ref w2)] [(.int (1 : Int32)), (.int (1 : Int32))])
  refine own_st (fun _ k => XS.icmpNo X5.here hx rfl (hb hby own_d1_32) rfl (teq (by decide : (1 : Int32) = (1 : Int32))).2 k) ?_
  show own_Go _ _ _ _ T5 (mkF m 35 #[.val (.int (1 : Int32)), .val (.int (0 : Int32)), .val (.ref w0), .val (.ref bv), .val (.int (4 : Int32)), .val (.int (2 : Int32)), .val (.ref w2)] [])
  refine own_st (fun _ k => XS.aload X5.here hx rfl (hb hby own_d1_35) rfl rfl k) ?_
  show own_Go _ _ _ _ T5 (mkF m 37 #[.val (.int (1 : Int32)), .val (.int (0 : Int32)), .val (.ref w0), .val (.ref bv), .val (.int (4 : Int32)), .val (.int (2 : Int32)), .val (.ref w2)] [(.ref w2)])
  obtain ⟨T6, X6, e6, st6⟩ := getF X5 hx hZ hown (host := "") (Or.inl (own_w25 hw)) Via.refl e5 (Fm2.ext O1) (g := (mkF m 37 #[.val (.int (1 : Int32)), .val (.int (0 : Int32)), .val (.ref w0), .val (.ref bv), .val (.int (4 : Int32)), .val (.int (2 : Int32)), .val (.ref w2)] [(.ref w2)])) rfl rfl (hb hby own_d1_37)
  refine own_st st6 ?_
  show own_Go _ _ _ _ T6 (mkF m 40 #[.val (.int (1 : Int32)), .val (.int (0 : Int32)), .val (.ref w0), .val (.ref bv), .val (.int (4 : Int32)), .val (.int (2 : Int32)), .val (.ref w2)] [(.int (1 : Int32))])
  refine own_st (fun _ k => XS.iloadN X6.here hx rfl (hb hby own_d1_40) rfl k) ?_
  show own_Go _ _ _ _ T6 (mkF m 41 #[.val (.int (1 : Int32)), .val (.int (0 : Int32)), .val (.ref w0), .val (.ref bv), .val (.int (4 : Int32)), .val (.int (2 : Int32)), .val (.ref w2)] [(.int (0 : Int32)), (.int (1 : Int32))])
  refine own_st (fun _ k => XS.icmpYes X6.here hx rfl (pc0 := 41) (pc' := 47) rfl (hb hby own_d1_41) rfl (feq (by decide : ¬ ((1 : Int32) = (0 : Int32)))).2 (by decide) (by decide) k) ?_
  show own_Go _ _ _ _ T6 (mkF m 47 #[.val (.int (1 : Int32)), .val (.int (0 : Int32)), .val (.ref w0), .val (.ref bv), .val (.int (4 : Int32)), .val (.int (2 : Int32)), .val (.ref w2)] [])
  refine own_st (fun _ k => XS.iinc X6.here hx rfl (hb hby own_d1_47) rfl (l' := #[.val (.int (1 : Int32)), .val (.int (0 : Int32)), .val (.ref w0), .val (.ref bv), .val (.int (4 : Int32)), .val (.int ((2 : Int32) + (1 : Int32))), .val (.ref w2)]) rfl k) ?_
  show own_Go _ _ _ _ T6 (mkF m 50 #[.val (.int (1 : Int32)), .val (.int (0 : Int32)), .val (.ref w0), .val (.ref bv), .val (.int (4 : Int32)), .val (.int ((2 : Int32) + (1 : Int32))), .val (.ref w2)] [])
  rw [show ((2 : Int32) + (1 : Int32)) = (3 : Int32) from by decide]
  show own_Go _ _ _ _ T6 (mkF m 50 #[.val (.int (1 : Int32)), .val (.int (0 : Int32)), .val (.ref w0), .val (.ref bv), .val (.int (4 : Int32)), .val (.int (3 : Int32)), .val (.ref w2)] [])
  refine own_st (fun _ k => XS.goto X6.here hx rfl (pc0 := 50) (pc' := 13) rfl (hb hby own_d1_50) (by decide) (by decide) k) ?_
  show own_Go _ _ _ _ T6 (mkF m 13 #[.val (.int (1 : Int32)), .val (.int (0 : Int32)), .val (.ref w0), .val (.ref bv), .val (.int (4 : Int32)), .val (.int (3 : Int32)), .val (.ref w2)] [])
  refine own_st (fun _ k => XS.iload X6.here hx rfl (hb hby own_d1_13) rfl k) ?_
  show own_Go _ _ _ _ T6 (mkF m 15 #[.val (.int (1 : Int32)), .val (.int (0 : Int32)), .val (.ref w0), .val (.ref bv), .val (.int (4 : Int32)), .val (.int (3 : Int32)), .val (.ref w2)] [(.int (3 : Int32))])
  refine own_st (fun _ k => XS.iload X6.here hx rfl (hb hby own_d1_15) rfl k) ?_
  show own_Go _ _ _ _ T6 (mkF m 17 #[.val (.int (1 : Int32)), .val (.int (0 : Int32)), .val (.ref w0), .val (.ref bv), .val (.int (4 : Int32)), .val (.int (3 : Int32)), .val (.ref w2)] [(.int (4 : Int32)), (.int (3 : Int32))])
  refine own_st (fun _ k => XS.icmpNo X6.here hx rfl (hb hby own_d1_17) rfl (tlt (by decide : (3 : Int32) < (4 : Int32))).2.1 k) ?_
  show own_Go _ _ _ _ T6 (mkF m 20 #[.val (.int (1 : Int32)), .val (.int (0 : Int32)), .val (.ref w0), .val (.ref bv), .val (.int (4 : Int32)), .val (.int (3 : Int32)), .val (.ref w2)] [])
  refine own_st (fun _ k => XS.aloadN X6.here hx rfl (hb hby own_d1_20) rfl rfl k) ?_
  show own_Go _ _ _ _ T6 (mkF m 21 #[.val (.int (1 : Int32)), .val (.int (0 : Int32)), .val (.ref w0), .val (.ref bv), .val (.int (4 : Int32)), .val (.int (3 : Int32)), .val (.ref w2)] [(.ref bv)])
  refine own_st (fun _ k => XS.iload X6.here hx rfl (hb hby own_d1_21) rfl k) ?_
  show own_Go _ _ _ _ T6 (mkF m 23 #[.val (.int (1 : Int32)), .val (.int (0 : Int32)), .val (.ref w0), .val (.ref bv), .val (.int (4 : Int32)), .val (.int (3 : Int32)), .val (.ref w2)] [(.int (3 : Int32)), (.ref bv)])
  refine own_st (own_ldR X6 hx hZ e6 Vb rfl (j := (3 : Int32)) (by decide) (v := (.ref w3)) rfl (g := (mkF m 23 #[.val (.int (1 : Int32)), .val (.int (0 : Int32)), .val (.ref w0), .val (.ref bv), .val (.int (4 : Int32)), .val (.int (3 : Int32)), .val (.ref w2)] [(.int (3 : Int32)), (.ref bv)])) rfl rfl (hb hby own_d1_23)) ?_
  show own_Go _ _ _ _ T6 (mkF m 24 #[.val (.int (1 : Int32)), .val (.int (0 : Int32)), .val (.ref w0), .val (.ref bv), .val (.int (4 : Int32)), .val (.int (3 : Int32)), .val (.ref w2)] [(.ref w3)])
  refine own_st (fun _ k => XS.astore X6.here hx rfl (hb hby own_d1_24) rfl rfl (l' := #[.val (.int (1 : Int32)), .val (.int (0 : Int32)), .val (.ref w0), .val (.ref bv), .val (.int (4 : Int32)), .val (.int (3 : Int32)), .val (.ref w3)]) rfl k) ?_
  show own_Go _ _ _ _ T6 (mkF m 26 #[.val (.int (1 : Int32)), .val (.int (0 : Int32)), .val (.ref w0), .val (.ref bv), .val (.int (4 : Int32)), .val (.int (3 : Int32)), .val (.ref w3)] [])
  refine own_st (fun _ k => XS.aload X6.here hx rfl (hb hby own_d1_26) rfl rfl k) ?_
  show own_Go _ _ _ _ T6 (mkF m 28 #[.val (.int (1 : Int32)), .val (.int (0 : Int32)), .val (.ref w0), .val (.ref bv), .val (.int (4 : Int32)), .val (.int (3 : Int32)), .val (.ref w3)] [(.ref w3)])
  obtain ⟨T7, X7, e7, st7⟩ := getF X6 hx hZ hown (host := "") (Or.inl (own_w23 hw)) Via.refl e6 (Fr3.ext O1) (g := (mkF m 28 #[.val (.int (1 : Int32)), .val (.int (0 : Int32)), .val (.ref w0), .val (.ref bv), .val (.int (4 : Int32)), .val (.int (3 : Int32)), .val (.ref w3)] [(.ref w3)])) rfl rfl (hb hby own_d1_28)
  refine own_st st7 ?_
  show own_Go _ _ _ _ T7 (mkF m 31 #[.val (.int (1 : Int32)), .val (.int (0 : Int32)), .val (.ref w0), .val (.ref bv), .val (.int (4 : Int32)), .val (.int (3 : Int32)), .val (.ref w3)] [(.int (0 : Int32))])
  refine own_st (fun _ k => XS.iloadN X7.here hx rfl (hb hby own_d1_31) rfl k) ?_
  show own_Go _ _ _ _ T7 (mkF m 32 #[.val (.int (1 : Int32)), .val (.int (0 : Int32)), .val (.ref w0), .val (.ref bv), .val (.int (4 : Int32)), .val (.int (3 : Int32)), .val (.ref w3)] [(.int (1 : Int32)), (.int (0 : Int32))])
  refine own_st (fun _ k => XS.icmpYes X7.here hx rfl (pc0 := 32) (pc' := 47) rfl (hb hby own_d1_32) rfl (feq (by decide : ¬ ((0 : Int32) = (1 : Int32)))).2 (by decide) (by decide) k) ?_
  show own_Go _ _ _ _ T7 (mkF m 47 #[.val (.int (1 : Int32)), .val (.int (0 : Int32)), .val (.ref w0), .val (.ref bv), .val (.int (4 : Int32)), .val (.int (3 : Int32)), .val (.ref w3)] [])
  refine own_st (fun _ k => XS.iinc X7.here hx rfl (hb hby own_d1_47) rfl (l' := #[.val (.int (1 : Int32)), .val (.int (0 : Int32)), .val (.ref w0), .val (.ref bv), .val (.int (4 : Int32)), .val (.int ((3 : Int32) + (1 : Int32))), .val (.ref w3)]) rfl k) ?_
  show own_Go _ _ _ _ T7 (mkF m 50 #[.val (.int (1 : Int32)), .val (.int (0 : Int32)), .val (.ref w0), .val (.ref bv), .val (.int (4 : Int32)), .val (.int ((3 : Int32) + (1 : Int32))), .val (.ref w3)] [])
  rw [show ((3 : Int32) + (1 : Int32)) = (4 : Int32) from by decide]
  show own_Go _ _ _ _ T7 (mkF m 50 #[.val (.int (1 : Int32)), .val (.int (0 : Int32)), .val (.ref w0), .val (.ref bv), .val (.int (4 : Int32)), .val (.int (4 : Int32)), .val (.ref w3)] [])
  refine own_st (fun _ k => XS.goto X7.here hx rfl (pc0 := 50) (pc' := 13) rfl (hb hby own_d1_50) (by decide) (by decide) k) ?_
  show own_Go _ _ _ _ T7 (mkF m 13 #[.val (.int (1 : Int32)), .val (.int (0 : Int32)), .val (.ref w0), .val (.ref bv), .val (.int (4 : Int32)), .val (.int (4 : Int32)), .val (.ref w3)] [])
  refine own_st (fun _ k => XS.iload X7.here hx rfl (hb hby own_d1_13) rfl k) ?_
  show own_Go _ _ _ _ T7 (mkF m 15 #[.val (.int (1 : Int32)), .val (.int (0 : Int32)), .val (.ref w0), .val (.ref bv), .val (.int (4 : Int32)), .val (.int (4 : Int32)), .val (.ref w3)] [(.int (4 : Int32))])
  refine own_st (fun _ k => XS.iload X7.here hx rfl (hb hby own_d1_15) rfl k) ?_
  show own_Go _ _ _ _ T7 (mkF m 17 #[.val (.int (1 : Int32)), .val (.int (0 : Int32)), .val (.ref w0), .val (.ref bv), .val (.int (4 : Int32)), .val (.int (4 : Int32)), .val (.ref w3)] [(.int (4 : Int32)), (.int (4 : Int32))])
  refine own_st (fun _ k => XS.icmpYes X7.here hx rfl (pc0 := 17) (pc' := 53) rfl (hb hby own_d1_17) rfl (flt (by decide : ¬ ((4 : Int32) < (4 : Int32)))).2.1 (by decide) (by decide) k) ?_
  show own_Go _ _ _ _ T7 (mkF m 53 #[.val (.int (1 : Int32)), .val (.int (0 : Int32)), .val (.ref w0), .val (.ref bv), .val (.int (4 : Int32)), .val (.int (4 : Int32)), .val (.ref w3)] [])
  refine own_st (fun _ k => XS.aloadN X7.here hx rfl (hb hby own_d1_53) rfl rfl k) ?_
  show own_Go _ _ _ _ T7 (mkF m 54 #[.val (.int (1 : Int32)), .val (.int (0 : Int32)), .val (.ref w0), .val (.ref bv), .val (.int (4 : Int32)), .val (.int (4 : Int32)), .val (.ref w3)] [(.ref w0)])
  exact own_retA X7 hx hret rfl hlk rfl (hb hby own_d1_54) ⟨rfl, N1', by rw [e7]; exact O1⟩ (by decide) (by decide)
def own_ex0_Q (Z : State) (p1 p2 : Int32) (w : Addr) (h0 : Heap) (n0 : Nat) (v : Option Value) (h : Heap) (L : List Loc) : Prop := v = some (.ref w) ∧ Fr n0 L ∧ h = h0
set_option maxRecDepth 65536 in
set_option maxHeartbeats 40000000 in
theorem own_ex0 (l : Launch) {Z : State} {a0 : Array Value} (hw : own_W Z a0) (ws : List Jvm.Cond) (p1 p2 : Int32) (w : Addr) (h0 : Heap) (n0 : Nat) (Z0 : n0 ≤ h0.size) (hp1 : p1 = (1 : Int32)) (hp2 : p2 = (0 : Int32)) (S : Sta Z h0 "com/example/siringa/siringa/Multiplicity" "ONE" "Lcom/example/siringa/siringa/Multiplicity;" (.ref w)) :
    MetFree l (⟨"com/example/siringa/siringa/MultiplicityOfPinLaw", "expected", "(ZZ)Lcom/example/siringa/siringa/Multiplicity;"⟩ : MethodName) (head1 (Jvm.Cond.code (⟨"com/example/siringa/siringa/MultiplicityOfPinLaw", "expected", "(ZZ)Lcom/example/siringa/siringa/Multiplicity;"⟩ : MethodName) method_2_code 2 (some (.object "com/example/siringa/siringa/Multiplicity")) :: ws) ({ frames := 0, cells := 0, slots := 0, locals := 0 } : Room)) (fun a U => a = #[(.int p1), (.int p2)] ∧ Z.Warmed39 U.vm ∧ U.heap = h0) (fun _ _ _ _ _ => True) (fun _ U o U' => ∃ v L, o = .returned v ∧ own_ex0_Q Z p1 p2 w h0 n0 v U'.heap L ∧ FrameEnd U o U' L ({ frames := 0, cells := 0, slots := 0, locals := 0 } : Room).cells ({ frames := 0, cells := 0, slots := 0, locals := 0 } : Room).slots) := by
  refine own_enter (C := ({ frames := 0, cells := 0, slots := 0, locals := 0 } : Room).cells) (S := ({ frames := 0, cells := 0, slots := 0, locals := 0 } : Room).slots) (plainFor_of_name own_pn1) ?_
  intro p e s m below meth c T0 X0 I e0
  obtain ⟨hx, hby, hml, hown, hnm, hret, hlk, hZ⟩ := I
  have N0 := Fr.nil n0
  have O0 := own_extr h0
  refine own_cast (own_ef3 m p1 p2) ?_
  show own_Go _ _ _ _ T0 (mkF m 0 #[.val (.int p1), .val (.int p2)] [])
  rw [hp1, hp2]
  show own_Go _ _ _ _ T0 (mkF m 0 #[.val (.int (1 : Int32)), .val (.int (0 : Int32))] [])
  refine own_st (fun _ k => XS.iloadN X0.here hx rfl (hb hby own_d3_0) rfl k) ?_
  show own_Go _ _ _ _ T0 (mkF m 1 #[.val (.int (1 : Int32)), .val (.int (0 : Int32))] [(.int (1 : Int32))])
  refine own_st (fun _ k => XS.ifNo X0.here hx rfl (hb hby own_d3_1) rfl ((if0 _ _).trans (feq (by decide : ¬ ((1 : Int32) = (0 : Int32)))).1) k) ?_
  show own_Go _ _ _ _ T0 (mkF m 4 #[.val (.int (1 : Int32)), .val (.int (0 : Int32))] [])
  refine own_st (fun _ k => XS.iloadN X0.here hx rfl (hb hby own_d3_4) rfl k) ?_
  show own_Go _ _ _ _ T0 (mkF m 5 #[.val (.int (1 : Int32)), .val (.int (0 : Int32))] [(.int (0 : Int32))])
  refine own_st (fun _ k => XS.ifYes X0.here hx rfl (pc0 := 5) (pc' := 12) rfl (hb hby own_d3_5) rfl ((if0 _ _).trans (teq (by decide : (0 : Int32) = (0 : Int32))).1) (by decide) (by decide) k) ?_
  show own_Go _ _ _ _ T0 (mkF m 12 #[.val (.int (1 : Int32)), .val (.int (0 : Int32))] [])
  obtain ⟨T1, X1, e1, st1⟩ := getS2 X0 hx hZ hown (host := "") (Or.inl (own_w44 hw)) Via.refl e0 (S.ext O0) (g := (mkF m 12 #[.val (.int (1 : Int32)), .val (.int (0 : Int32))] [])) rfl (hb hby own_d3_12)
  refine own_st st1 ?_
  show own_Go _ _ _ _ T1 (mkF m 15 #[.val (.int (1 : Int32)), .val (.int (0 : Int32))] [(.ref w)])
  exact own_retA X1 hx hret rfl hlk rfl (hb hby own_d3_15) ⟨rfl, N0, e1⟩ (by decide) (by decide)
def own_of1_Q (Z : State) (p1 p2 : Int32) (wv w0 w1 w2 w3 : Addr) (kv : ClassId) (h0 : Heap) (n0 : Nat) (v : Option Value) (h : Heap) (L : List Loc) : Prop := v = some (.ref w1) ∧ Fr n0 L ∧ Ext h0 h
set_option maxRecDepth 65536 in
set_option maxHeartbeats 40000000 in
theorem own_of1 (l : Launch) {Z : State} {a0 : Array Value} (hw : own_W Z a0) (ws : List Jvm.Cond) (p1 p2 : Int32) (wv w0 w1 w2 w3 : Addr) (kv : ClassId) (h0 : Heap) (n0 : Nat) (Z0 : n0 ≤ h0.size) (hp1 : p1 = (0 : Int32)) (hp2 : p2 = (0 : Int32)) (Sv : Sta Z h0 "com/example/siringa/siringa/Multiplicity" "$VALUES" "[Lcom/example/siringa/siringa/Multiplicity;" (.ref wv)) (Vv : Arv Z h0 wv kv (.object "com/example/siringa/siringa/Multiplicity") 4 [(.ref w0), (.ref w1), (.ref w2), (.ref w3)] .null) (Ev : Exa Z h0 wv "[Lcom/example/siringa/siringa/Multiplicity;") (Fr0 : Fld Z h0 w0 "com/example/siringa/siringa/Multiplicity" "required" "Z" (.int (1 : Int32))) (Fm0 : Fld Z h0 w0 "com/example/siringa/siringa/Multiplicity" "many" "Z" (.int (0 : Int32))) (Fr1 : Fld Z h0 w1 "com/example/siringa/siringa/Multiplicity" "required" "Z" (.int (0 : Int32))) (Fm1 : Fld Z h0 w1 "com/example/siringa/siringa/Multiplicity" "many" "Z" (.int (0 : Int32))) (Fr2 : Fld Z h0 w2 "com/example/siringa/siringa/Multiplicity" "required" "Z" (.int (1 : Int32))) (Fm2 : Fld Z h0 w2 "com/example/siringa/siringa/Multiplicity" "many" "Z" (.int (1 : Int32))) (Fr3 : Fld Z h0 w3 "com/example/siringa/siringa/Multiplicity" "required" "Z" (.int (0 : Int32))) (Fm3 : Fld Z h0 w3 "com/example/siringa/siringa/Multiplicity" "many" "Z" (.int (1 : Int32))) :
    MetFree l (⟨"com/example/siringa/siringa/Multiplicity", "of", "(ZZ)Lcom/example/siringa/siringa/Multiplicity;"⟩ : MethodName) (head1 (Jvm.Cond.code (⟨"com/example/siringa/siringa/Multiplicity", "of", "(ZZ)Lcom/example/siringa/siringa/Multiplicity;"⟩ : MethodName) prog_6_method_4_code 7 (some (.object "com/example/siringa/siringa/Multiplicity")) :: ws) ({ frames := 2, cells := 1, slots := 4, locals := 25 } : Room)) (fun a U => a = #[(.int p1), (.int p2)] ∧ Z.Warmed39 U.vm ∧ U.heap = h0) (fun _ _ _ _ _ => True) (fun _ U o U' => ∃ v L, o = .returned v ∧ own_of1_Q Z p1 p2 wv w0 w1 w2 w3 kv h0 n0 v U'.heap L ∧ FrameEnd U o U' L ({ frames := 2, cells := 1, slots := 4, locals := 25 } : Room).cells ({ frames := 2, cells := 1, slots := 4, locals := 25 } : Room).slots) := by
  refine own_enter (C := ({ frames := 2, cells := 1, slots := 4, locals := 25 } : Room).cells) (S := ({ frames := 2, cells := 1, slots := 4, locals := 25 } : Room).slots) (plainFor_of_name own_pn0) ?_
  intro p e s m below meth c T0 X0 I e0
  obtain ⟨hx, hby, hml, hown, hnm, hret, hlk, hZ⟩ := I
  have N0 := Fr.nil n0
  have O0 := own_extr h0
  refine own_cast (own_ef1 m p1 p2) ?_
  show own_Go _ _ _ _ T0 (mkF m 0 #[.val (.int p1), .val (.int p2), .unset, .unset, .unset, .unset, .unset] [])
  rw [hp1, hp2]
  show own_Go _ _ _ _ T0 (mkF m 0 #[.val (.int (0 : Int32)), .val (.int (0 : Int32)), .unset, .unset, .unset, .unset, .unset] [])
  refine own_st (fun _ k => XS.aconstNull X0.here hx rfl (hb hby own_d1_0) k) ?_
  show own_Go _ _ _ _ T0 (mkF m 1 #[.val (.int (0 : Int32)), .val (.int (0 : Int32)), .unset, .unset, .unset, .unset, .unset] [.null])
  refine own_st (fun _ k => XS.astoreN X0.here hx rfl (hb hby own_d1_1) rfl rfl (l' := #[.val (.int (0 : Int32)), .val (.int (0 : Int32)), .val .null, .unset, .unset, .unset, .unset]) rfl k) ?_
  show own_Go _ _ _ _ T0 (mkF m 2 #[.val (.int (0 : Int32)), .val (.int (0 : Int32)), .val .null, .unset, .unset, .unset, .unset] [])
  obtain ⟨v1, T1, L1, hQ1, X1, st1⟩ := own_callS X0 hx hZ (y := (⟨"com/example/siringa/siringa/Multiplicity", "values", "()[Lcom/example/siringa/siringa/Multiplicity;"⟩ : MethodName)) hown (own_w4 hw) (own_w5 hw) (own_w2 hw) (own_w6 hw) (by decide) (own_vals l hw [] wv w0 w1 w2 w3 kv h0 n0 (Nat.le_trans Z0 O0.1) (Sv.ext O0) (Vv.ext O0) (Ev.ext O0)) e0 (g := (mkF m 2 #[.val (.int (0 : Int32)), .val (.int (0 : Int32)), .val .null, .unset, .unset, .unset, .unset] [])) rfl (by rw [hml]; rfl) (argsL := []) (rest := []) (lenOf own_pd0 rfl) rfl rfl (W := 0) (Nat.le_of_eq rfl) (hb hby own_d1_2) (by decide) (by decide) (by decide) (by decide)
  obtain ⟨bv, kb, rfl, N1, Et1, gb, sb, Vb⟩ := hQ1
  have O1 := own_extt O0 Et1
  have N1' := Fr.app N0 N1
  refine own_st st1 ?_
  show own_Go _ _ _ _ T1 (mkF m 5 #[.val (.int (0 : Int32)), .val (.int (0 : Int32)), .val .null, .unset, .unset, .unset, .unset] [(.ref bv)])
  refine own_st (fun _ k => XS.astoreN X1.here hx rfl (hb hby own_d1_5) rfl rfl (l' := #[.val (.int (0 : Int32)), .val (.int (0 : Int32)), .val .null, .val (.ref bv), .unset, .unset, .unset]) rfl k) ?_
  show own_Go _ _ _ _ T1 (mkF m 6 #[.val (.int (0 : Int32)), .val (.int (0 : Int32)), .val .null, .val (.ref bv), .unset, .unset, .unset] [])
  refine own_st (fun _ k => XS.aloadN X1.here hx rfl (hb hby own_d1_6) rfl rfl k) ?_
  show own_Go _ _ _ _ T1 (mkF m 7 #[.val (.int (0 : Int32)), .val (.int (0 : Int32)), .val .null, .val (.ref bv), .unset, .unset, .unset] [(.ref bv)])
  refine own_st (own_len X1 hx hZ rfl Vb (g := (mkF m 7 #[.val (.int (0 : Int32)), .val (.int (0 : Int32)), .val .null, .val (.ref bv), .unset, .unset, .unset] [(.ref bv)])) rfl rfl (hb hby own_d1_7)) ?_
  show own_Go _ _ _ _ T1 (mkF m 8 #[.val (.int (0 : Int32)), .val (.int (0 : Int32)), .val .null, .val (.ref bv), .unset, .unset, .unset] [(.int (4 : Int32))])
  refine own_st (fun _ k => XS.istore X1.here hx rfl (hb hby own_d1_8) rfl (l' := #[.val (.int (0 : Int32)), .val (.int (0 : Int32)), .val .null, .val (.ref bv), .val (.int (4 : Int32)), .unset, .unset]) rfl k) ?_
  show own_Go _ _ _ _ T1 (mkF m 10 #[.val (.int (0 : Int32)), .val (.int (0 : Int32)), .val .null, .val (.ref bv), .val (.int (4 : Int32)), .unset, .unset] [])
  refine own_st (fun _ k => XS.iconst X1.here hx rfl (hb hby own_d1_10) k) ?_
  show own_Go _ _ _ _ T1 (mkF m 11 #[.val (.int (0 : Int32)), .val (.int (0 : Int32)), .val .null, .val (.ref bv), .val (.int (4 : Int32)), .unset, .unset] [(.int (0 : Int32))])
  refine own_st (fun _ k => XS.istore X1.here hx rfl (hb hby own_d1_11) rfl (l' := #[.val (.int (0 : Int32)), .val (.int (0 : Int32)), .val .null, .val (.ref bv), .val (.int (4 : Int32)), .val (.int (0 : Int32)), .unset]) rfl k) ?_
  show own_Go _ _ _ _ T1 (mkF m 13 #[.val (.int (0 : Int32)), .val (.int (0 : Int32)), .val .null, .val (.ref bv), .val (.int (4 : Int32)), .val (.int (0 : Int32)), .unset] [])
  refine own_st (fun _ k => XS.iload X1.here hx rfl (hb hby own_d1_13) rfl k) ?_
  show own_Go _ _ _ _ T1 (mkF m 15 #[.val (.int (0 : Int32)), .val (.int (0 : Int32)), .val .null, .val (.ref bv), .val (.int (4 : Int32)), .val (.int (0 : Int32)), .unset] [(.int (0 : Int32))])
  refine own_st (fun _ k => XS.iload X1.here hx rfl (hb hby own_d1_15) rfl k) ?_
  show own_Go _ _ _ _ T1 (mkF m 17 #[.val (.int (0 : Int32)), .val (.int (0 : Int32)), .val .null, .val (.ref bv), .val (.int (4 : Int32)), .val (.int (0 : Int32)), .unset] [(.int (4 : Int32)), (.int (0 : Int32))])
  refine own_st (fun _ k => XS.icmpNo X1.here hx rfl (hb hby own_d1_17) rfl (tlt (by decide : (0 : Int32) < (4 : Int32))).2.1 k) ?_
  show own_Go _ _ _ _ T1 (mkF m 20 #[.val (.int (0 : Int32)), .val (.int (0 : Int32)), .val .null, .val (.ref bv), .val (.int (4 : Int32)), .val (.int (0 : Int32)), .unset] [])
  refine own_st (fun _ k => XS.aloadN X1.here hx rfl (hb hby own_d1_20) rfl rfl k) ?_
  show own_Go _ _ _ _ T1 (mkF m 21 #[.val (.int (0 : Int32)), .val (.int (0 : Int32)), .val .null, .val (.ref bv), .val (.int (4 : Int32)), .val (.int (0 : Int32)), .unset] [(.ref bv)])
  refine own_st (fun _ k => XS.iload X1.here hx rfl (hb hby own_d1_21) rfl k) ?_
  show own_Go _ _ _ _ T1 (mkF m 23 #[.val (.int (0 : Int32)), .val (.int (0 : Int32)), .val .null, .val (.ref bv), .val (.int (4 : Int32)), .val (.int (0 : Int32)), .unset] [(.int (0 : Int32)), (.ref bv)])
  refine own_st (own_ldR X1 hx hZ rfl Vb rfl (j := (0 : Int32)) (by decide) (v := (.ref w0)) rfl (g := (mkF m 23 #[.val (.int (0 : Int32)), .val (.int (0 : Int32)), .val .null, .val (.ref bv), .val (.int (4 : Int32)), .val (.int (0 : Int32)), .unset] [(.int (0 : Int32)), (.ref bv)])) rfl rfl (hb hby own_d1_23)) ?_
  show own_Go _ _ _ _ T1 (mkF m 24 #[.val (.int (0 : Int32)), .val (.int (0 : Int32)), .val .null, .val (.ref bv), .val (.int (4 : Int32)), .val (.int (0 : Int32)), .unset] [(.ref w0)])
  refine own_st (fun _ k => XS.astore X1.here hx rfl (hb hby own_d1_24) rfl rfl (l' := #[.val (.int (0 : Int32)), .val (.int (0 : Int32)), .val .null, .val (.ref bv), .val (.int (4 : Int32)), .val (.int (0 : Int32)), .val (.ref w0)]) rfl k) ?_
  show own_Go _ _ _ _ T1 (mkF m 26 #[.val (.int (0 : Int32)), .val (.int (0 : Int32)), .val .null, .val (.ref bv), .val (.int (4 : Int32)), .val (.int (0 : Int32)), .val (.ref w0)] [])
  refine own_st (fun _ k => XS.aload X1.here hx rfl (hb hby own_d1_26) rfl rfl k) ?_
  show own_Go _ _ _ _ T1 (mkF m 28 #[.val (.int (0 : Int32)), .val (.int (0 : Int32)), .val .null, .val (.ref bv), .val (.int (4 : Int32)), .val (.int (0 : Int32)), .val (.ref w0)] [(.ref w0)])
  obtain ⟨T2, X2, e2, st2⟩ := getF X1 hx hZ hown (host := "") (Or.inl (own_w23 hw)) Via.refl rfl (Fr0.ext O1) (g := (mkF m 28 #[.val (.int (0 : Int32)), .val (.int (0 : Int32)), .val .null, .val (.ref bv), .val (.int (4 : Int32)), .val (.int (0 : Int32)), .val (.ref w0)] [(.ref w0)])) rfl rfl (hb hby own_d1_28)
  refine own_st st2 ?_
  show own_Go _ _ _ _ T2 (mkF m 31 #[.val (.int (0 : Int32)), .val (.int (0 : Int32)), .val .null, .val (.ref bv), .val (.int (4 : Int32)), .val (.int (0 : Int32)), .val (.ref w0)] [(.int (1 : Int32))])
  refine own_st (fun _ k => XS.iloadN X2.here hx rfl (hb hby own_d1_31) rfl k) ?_
  show own_Go _ _ _ _ T2 (mkF m 32 #[.val (.int (0 : Int32)), .val (.int (0 : Int32)), .val .null, .val (.ref bv), .val (.int (4 : Int32)), .val (.int (0 : Int32)), .val (.ref w0)] [(.int (0 : Int32)), (.int (1 : Int32))])
  refine own_st (fun _ k => XS.icmpYes X2.here hx rfl (pc0 := 32) (pc' := 47) rfl (hb hby own_d1_32) rfl (feq (by decide : ¬ ((1 : Int32) = (0 : Int32)))).2 (by decide) (by decide) k) ?_
  show own_Go _ _ _ _ T2 (mkF m 47 #[.val (.int (0 : Int32)), .val (.int (0 : Int32)), .val .null, .val (.ref bv), .val (.int (4 : Int32)), .val (.int (0 : Int32)), .val (.ref w0)] [])
  refine own_st (fun _ k => XS.iinc X2.here hx rfl (hb hby own_d1_47) rfl (l' := #[.val (.int (0 : Int32)), .val (.int (0 : Int32)), .val .null, .val (.ref bv), .val (.int (4 : Int32)), .val (.int ((0 : Int32) + (1 : Int32))), .val (.ref w0)]) rfl k) ?_
  show own_Go _ _ _ _ T2 (mkF m 50 #[.val (.int (0 : Int32)), .val (.int (0 : Int32)), .val .null, .val (.ref bv), .val (.int (4 : Int32)), .val (.int ((0 : Int32) + (1 : Int32))), .val (.ref w0)] [])
  rw [show ((0 : Int32) + (1 : Int32)) = (1 : Int32) from by decide]
  show own_Go _ _ _ _ T2 (mkF m 50 #[.val (.int (0 : Int32)), .val (.int (0 : Int32)), .val .null, .val (.ref bv), .val (.int (4 : Int32)), .val (.int (1 : Int32)), .val (.ref w0)] [])
  refine own_st (fun _ k => XS.goto X2.here hx rfl (pc0 := 50) (pc' := 13) rfl (hb hby own_d1_50) (by decide) (by decide) k) ?_
  show own_Go _ _ _ _ T2 (mkF m 13 #[.val (.int (0 : Int32)), .val (.int (0 : Int32)), .val .null, .val (.ref bv), .val (.int (4 : Int32)), .val (.int (1 : Int32)), .val (.ref w0)] [])
  refine own_st (fun _ k => XS.iload X2.here hx rfl (hb hby own_d1_13) rfl k) ?_
  show own_Go _ _ _ _ T2 (mkF m 15 #[.val (.int (0 : Int32)), .val (.int (0 : Int32)), .val .null, .val (.ref bv), .val (.int (4 : Int32)), .val (.int (1 : Int32)), .val (.ref w0)] [(.int (1 : Int32))])
  refine own_st (fun _ k => XS.iload X2.here hx rfl (hb hby own_d1_15) rfl k) ?_
  show own_Go _ _ _ _ T2 (mkF m 17 #[.val (.int (0 : Int32)), .val (.int (0 : Int32)), .val .null, .val (.ref bv), .val (.int (4 : Int32)), .val (.int (1 : Int32)), .val (.ref w0)] [(.int (4 : Int32)), (.int (1 : Int32))])
  refine own_st (fun _ k => XS.icmpNo X2.here hx rfl (hb hby own_d1_17) rfl (tlt (by decide : (1 : Int32) < (4 : Int32))).2.1 k) ?_
  show own_Go _ _ _ _ T2 (mkF m 20 #[.val (.int (0 : Int32)), .val (.int (0 : Int32)), .val .null, .val (.ref bv), .val (.int (4 : Int32)), .val (.int (1 : Int32)), .val (.ref w0)] [])
  refine own_st (fun _ k => XS.aloadN X2.here hx rfl (hb hby own_d1_20) rfl rfl k) ?_
  show own_Go _ _ _ _ T2 (mkF m 21 #[.val (.int (0 : Int32)), .val (.int (0 : Int32)), .val .null, .val (.ref bv), .val (.int (4 : Int32)), .val (.int (1 : Int32)), .val (.ref w0)] [(.ref bv)])
  refine own_st (fun _ k => XS.iload X2.here hx rfl (hb hby own_d1_21) rfl k) ?_
  show own_Go _ _ _ _ T2 (mkF m 23 #[.val (.int (0 : Int32)), .val (.int (0 : Int32)), .val .null, .val (.ref bv), .val (.int (4 : Int32)), .val (.int (1 : Int32)), .val (.ref w0)] [(.int (1 : Int32)), (.ref bv)])
  refine own_st (own_ldR X2 hx hZ e2 Vb rfl (j := (1 : Int32)) (by decide) (v := (.ref w1)) rfl (g := (mkF m 23 #[.val (.int (0 : Int32)), .val (.int (0 : Int32)), .val .null, .val (.ref bv), .val (.int (4 : Int32)), .val (.int (1 : Int32)), .val (.ref w0)] [(.int (1 : Int32)), (.ref bv)])) rfl rfl (hb hby own_d1_23)) ?_
  show own_Go _ _ _ _ T2 (mkF m 24 #[.val (.int (0 : Int32)), .val (.int (0 : Int32)), .val .null, .val (.ref bv), .val (.int (4 : Int32)), .val (.int (1 : Int32)), .val (.ref w0)] [(.ref w1)])
  refine own_st (fun _ k => XS.astore X2.here hx rfl (hb hby own_d1_24) rfl rfl (l' := #[.val (.int (0 : Int32)), .val (.int (0 : Int32)), .val .null, .val (.ref bv), .val (.int (4 : Int32)), .val (.int (1 : Int32)), .val (.ref w1)]) rfl k) ?_
  show own_Go _ _ _ _ T2 (mkF m 26 #[.val (.int (0 : Int32)), .val (.int (0 : Int32)), .val .null, .val (.ref bv), .val (.int (4 : Int32)), .val (.int (1 : Int32)), .val (.ref w1)] [])
  refine own_st (fun _ k => XS.aload X2.here hx rfl (hb hby own_d1_26) rfl rfl k) ?_
  show own_Go _ _ _ _ T2 (mkF m 28 #[.val (.int (0 : Int32)), .val (.int (0 : Int32)), .val .null, .val (.ref bv), .val (.int (4 : Int32)), .val (.int (1 : Int32)), .val (.ref w1)] [(.ref w1)])
  obtain ⟨T3, X3, e3, st3⟩ := getF X2 hx hZ hown (host := "") (Or.inl (own_w23 hw)) Via.refl e2 (Fr1.ext O1) (g := (mkF m 28 #[.val (.int (0 : Int32)), .val (.int (0 : Int32)), .val .null, .val (.ref bv), .val (.int (4 : Int32)), .val (.int (1 : Int32)), .val (.ref w1)] [(.ref w1)])) rfl rfl (hb hby own_d1_28)
  refine own_st st3 ?_
  show own_Go _ _ _ _ T3 (mkF m 31 #[.val (.int (0 : Int32)), .val (.int (0 : Int32)), .val .null, .val (.ref bv), .val (.int (4 : Int32)), .val (.int (1 : Int32)), .val (.ref w1)] [(.int (0 : Int32))])
  refine own_st (fun _ k => XS.iloadN X3.here hx rfl (hb hby own_d1_31) rfl k) ?_
  show own_Go _ _ _ _ T3 (mkF m 32 #[.val (.int (0 : Int32)), .val (.int (0 : Int32)), .val .null, .val (.ref bv), .val (.int (4 : Int32)), .val (.int (1 : Int32)), .val (.ref w1)] [(.int (0 : Int32)), (.int (0 : Int32))])
  refine own_st (fun _ k => XS.icmpNo X3.here hx rfl (hb hby own_d1_32) rfl (teq (by decide : (0 : Int32) = (0 : Int32))).2 k) ?_
  show own_Go _ _ _ _ T3 (mkF m 35 #[.val (.int (0 : Int32)), .val (.int (0 : Int32)), .val .null, .val (.ref bv), .val (.int (4 : Int32)), .val (.int (1 : Int32)), .val (.ref w1)] [])
  refine own_st (fun _ k => XS.aload X3.here hx rfl (hb hby own_d1_35) rfl rfl k) ?_
  show own_Go _ _ _ _ T3 (mkF m 37 #[.val (.int (0 : Int32)), .val (.int (0 : Int32)), .val .null, .val (.ref bv), .val (.int (4 : Int32)), .val (.int (1 : Int32)), .val (.ref w1)] [(.ref w1)])
  obtain ⟨T4, X4, e4, st4⟩ := getF X3 hx hZ hown (host := "") (Or.inl (own_w25 hw)) Via.refl e3 (Fm1.ext O1) (g := (mkF m 37 #[.val (.int (0 : Int32)), .val (.int (0 : Int32)), .val .null, .val (.ref bv), .val (.int (4 : Int32)), .val (.int (1 : Int32)), .val (.ref w1)] [(.ref w1)])) rfl rfl (hb hby own_d1_37)
  refine own_st st4 ?_
  show own_Go _ _ _ _ T4 (mkF m 40 #[.val (.int (0 : Int32)), .val (.int (0 : Int32)), .val .null, .val (.ref bv), .val (.int (4 : Int32)), .val (.int (1 : Int32)), .val (.ref w1)] [(.int (0 : Int32))])
  refine own_st (fun _ k => XS.iloadN X4.here hx rfl (hb hby own_d1_40) rfl k) ?_
  show own_Go _ _ _ _ T4 (mkF m 41 #[.val (.int (0 : Int32)), .val (.int (0 : Int32)), .val .null, .val (.ref bv), .val (.int (4 : Int32)), .val (.int (1 : Int32)), .val (.ref w1)] [(.int (0 : Int32)), (.int (0 : Int32))])
  refine own_st (fun _ k => XS.icmpNo X4.here hx rfl (hb hby own_d1_41) rfl (teq (by decide : (0 : Int32) = (0 : Int32))).2 k) ?_
  show own_Go _ _ _ _ T4 (mkF m 44 #[.val (.int (0 : Int32)), .val (.int (0 : Int32)), .val .null, .val (.ref bv), .val (.int (4 : Int32)), .val (.int (1 : Int32)), .val (.ref w1)] [])
  refine own_st (fun _ k => XS.aload X4.here hx rfl (hb hby own_d1_44) rfl rfl k) ?_
  show own_Go _ _ _ _ T4 (mkF m 46 #[.val (.int (0 : Int32)), .val (.int (0 : Int32)), .val .null, .val (.ref bv), .val (.int (4 : Int32)), .val (.int (1 : Int32)), .val (.ref w1)] [(.ref w1)])
  refine own_st (fun _ k => XS.astoreN X4.here hx rfl (hb hby own_d1_46) rfl rfl (l' := #[.val (.int (0 : Int32)), .val (.int (0 : Int32)), .val (.ref w1), .val (.ref bv), .val (.int (4 : Int32)), .val (.int (1 : Int32)), .val (.ref w1)]) rfl k) ?_
  show own_Go _ _ _ _ T4 (mkF m 47 #[.val (.int (0 : Int32)), .val (.int (0 : Int32)), .val (.ref w1), .val (.ref bv), .val (.int (4 : Int32)), .val (.int (1 : Int32)), .val (.ref w1)] [])
  refine own_st (fun _ k => XS.iinc X4.here hx rfl (hb hby own_d1_47) rfl (l' := #[.val (.int (0 : Int32)), .val (.int (0 : Int32)), .val (.ref w1), .val (.ref bv), .val (.int (4 : Int32)), .val (.int ((1 : Int32) + (1 : Int32))), .val (.ref w1)]) rfl k) ?_
  show own_Go _ _ _ _ T4 (mkF m 50 #[.val (.int (0 : Int32)), .val (.int (0 : Int32)), .val (.ref w1), .val (.ref bv), .val (.int (4 : Int32)), .val (.int ((1 : Int32) + (1 : Int32))), .val (.ref w1)] [])
  rw [show ((1 : Int32) + (1 : Int32)) = (2 : Int32) from by decide]
  show own_Go _ _ _ _ T4 (mkF m 50 #[.val (.int (0 : Int32)), .val (.int (0 : Int32)), .val (.ref w1), .val (.ref bv), .val (.int (4 : Int32)), .val (.int (2 : Int32)), .val (.ref w1)] [])
  refine own_st (fun _ k => XS.goto X4.here hx rfl (pc0 := 50) (pc' := 13) rfl (hb hby own_d1_50) (by decide) (by decide) k) ?_
  show own_Go _ _ _ _ T4 (mkF m 13 #[.val (.int (0 : Int32)), .val (.int (0 : Int32)), .val (.ref w1), .val (.ref bv), .val (.int (4 : Int32)), .val (.int (2 : Int32)), .val (.ref w1)] [])
  refine own_st (fun _ k => XS.iload X4.here hx rfl (hb hby own_d1_13) rfl k) ?_
  show own_Go _ _ _ _ T4 (mkF m 15 #[.val (.int (0 : Int32)), .val (.int (0 : Int32)), .val (.ref w1), .val (.ref bv), .val (.int (4 : Int32)), .val (.int (2 : Int32)), .val (.ref w1)] [(.int (2 : Int32))])
  refine own_st (fun _ k => XS.iload X4.here hx rfl (hb hby own_d1_15) rfl k) ?_
  show own_Go _ _ _ _ T4 (mkF m 17 #[.val (.int (0 : Int32)), .val (.int (0 : Int32)), .val (.ref w1), .val (.ref bv), .val (.int (4 : Int32)), .val (.int (2 : Int32)), .val (.ref w1)] [(.int (4 : Int32)), (.int (2 : Int32))])
  refine own_st (fun _ k => XS.icmpNo X4.here hx rfl (hb hby own_d1_17) rfl (tlt (by decide : (2 : Int32) < (4 : Int32))).2.1 k) ?_
  show own_Go _ _ _ _ T4 (mkF m 20 #[.val (.int (0 : Int32)), .val (.int (0 : Int32)), .val (.ref w1), .val (.ref bv), .val (.int (4 : Int32)), .val (.int (2 : Int32)), .val (.ref w1)] [])
  refine own_st (fun _ k => XS.aloadN X4.here hx rfl (hb hby own_d1_20) rfl rfl k) ?_
  show own_Go _ _ _ _ T4 (mkF m 21 #[.val (.int (0 : Int32)), .val (.int (0 : Int32)), .val (.ref w1), .val (.ref bv), .val (.int (4 : Int32)), .val (.int (2 : Int32)), .val (.ref w1)] [(.ref bv)])
  refine own_st (fun _ k => XS.iload X4.here hx rfl (hb hby own_d1_21) rfl k) ?_
  show own_Go _ _ _ _ T4 (mkF m 23 #[.val (.int (0 : Int32)), .val (.int (0 : Int32)), .val (.ref w1), .val (.ref bv), .val (.int (4 : Int32)), .val (.int (2 : Int32)), .val (.ref w1)] [(.int (2 : Int32)), (.ref bv)])
  refine own_st (own_ldR X4 hx hZ e4 Vb rfl (j := (2 : Int32)) (by decide) (v := (.ref w2)) rfl (g := (mkF m 23 #[.val (.int (0 : Int32)), .val (.int (0 : Int32)), .val (.ref w1), .val (.ref bv), .val (.int (4 : Int32)), .val (.int (2 : Int32)), .val (.ref w1)] [(.int (2 : Int32)), (.ref bv)])) rfl rfl (hb hby own_d1_23)) ?_
  show own_Go _ _ _ _ T4 (mkF m 24 #[.val (.int (0 : Int32)), .val (.int (0 : Int32)), .val (.ref w1), .val (.ref bv), .val (.int (4 : Int32)), .val (.int (2 : Int32)), .val (.ref w1)] [(.ref w2)])
  refine own_st (fun _ k => XS.astore X4.here hx rfl (hb hby own_d1_24) rfl rfl (l' := #[.val (.int (0 : Int32)), .val (.int (0 : Int32)), .val (.ref w1), .val (.ref bv), .val (.int (4 : Int32)), .val (.int (2 : Int32)), .val (.ref w2)]) rfl k) ?_
  show own_Go _ _ _ _ T4 (mkF m 26 #[.val (.int (0 : Int32)), .val (.int (0 : Int32)), .val (.ref w1), .val (.ref bv), .val (.int (4 : Int32)), .val (.int (2 : Int32)), .val (.ref w2)] [])
  refine own_st (fun _ k => XS.aload X4.here hx rfl (hb hby own_d1_26) rfl rfl k) ?_
  show own_Go _ _ _ _ T4 (mkF m 28 #[.val (.int (0 : Int32)), .val (.int (0 : Int32)), .val (.ref w1), .val (.ref bv), .val (.int (4 : Int32)), .val (.int (2 : Int32)), .val (.ref w2)] [(.ref w2)])
  obtain ⟨T5, X5, e5, st5⟩ := getF X4 hx hZ hown (host := "") (Or.inl (own_w23 hw)) Via.refl e4 (Fr2.ext O1) (g := (mkF m 28 #[.val (.int (0 : Int32)), .val (.int (0 : Int32)), .val (.ref w1), .val (.ref bv), .val (.int (4 : Int32)), .val (.int (2 : Int32)), .val (.ref w2)] [(.ref w2)])) rfl rfl (hb hby own_d1_28)
  refine own_st st5 ?_
  show own_Go _ _ _ _ T5 (mkF m 31 #[.val (.int (0 : Int32)), .val (.int (0 : Int32)), .val (.ref w1), .val (.ref bv), .val (.int (4 : Int32)), .val (.int (2 : Int32)), .val (.ref w2)] [(.int (1 : Int32))])
  refine own_st (fun _ k => XS.iloadN X5.here hx rfl (hb hby own_d1_31) rfl k) ?_
  show own_Go _ _ _ _ T5 (mkF m 32 #[.val (.int (0 : Int32)), .val (.int (0 : Int32)), .val (.ref w1), .val (.ref bv), .val (.int (4 : Int32)), .val (.int (2 : Int32)), .val (.ref w2)] [(.int (0 : Int32)), (.int (1 : Int32))])
  refine own_st (fun _ k => XS.icmpYes X5.here hx rfl (pc0 := 32) (pc' := 47) rfl (hb hby own_d1_32) rfl (feq (by decide : ¬ ((1 : Int32) = (0 : Int32)))).2 (by decide) (by decide) k) ?_
  show own_Go _ _ _ _ T5 (mkF m 47 #[.val (.int (0 : Int32)), .val (.int (0 : Int32)), .val (.ref w1), .val (.ref bv), .val (.int (4 : Int32)), .val (.int (2 : Int32)), .val (.ref w2)] [])
  refine own_st (fun _ k => XS.iinc X5.here hx rfl (hb hby own_d1_47) rfl (l' := #[.val (.int (0 : Int32)), .val (.int (0 : Int32)), .val (.ref w1), .val (.ref bv), .val (.int (4 : Int32)), .val (.int ((2 : Int32) + (1 : Int32))), .val (.ref w2)]) rfl k) ?_
  show own_Go _ _ _ _ T5 (mkF m 50 #[.val (.int (0 : Int32)), .val (.int (0 : Int32)), .val (.ref w1), .val (.ref bv), .val (.int (4 : Int32)), .val (.int ((2 : Int32) + (1 : Int32))), .val (.ref w2)] [])
  rw [show ((2 : Int32) + (1 : Int32)) = (3 : Int32) from by decide]
  show own_Go _ _ _ _ T5 (mkF m 50 #[.val (.int (0 : Int32)), .val (.int (0 : Int32)), .val (.ref w1), .val (.ref bv), .val (.int (4 : Int32)), .val (.int (3 : Int32)), .val (.ref w2)] [])
  refine own_st (fun _ k => XS.goto X5.here hx rfl (pc0 := 50) (pc' := 13) rfl (hb hby own_d1_50) (by decide) (by decide) k) ?_
  show own_Go _ _ _ _ T5 (mkF m 13 #[.val (.int (0 : Int32)), .val (.int (0 : Int32)), .val (.ref w1), .val (.ref bv), .val (.int (4 : Int32)), .val (.int (3 : Int32)), .val (.ref w2)] [])
  refine own_st (fun _ k => XS.iload X5.here hx rfl (hb hby own_d1_13) rfl k) ?_
  show own_Go _ _ _ _ T5 (mkF m 15 #[.val (.int (0 : Int32)), .val (.int (0 : Int32)), .val (.ref w1), .val (.ref bv), .val (.int (4 : Int32)), .val (.int (3 : Int32)), .val (.ref w2)] [(.int (3 : Int32))])
  refine own_st (fun _ k => XS.iload X5.here hx rfl (hb hby own_d1_15) rfl k) ?_
  show own_Go _ _ _ _ T5 (mkF m 17 #[.val (.int (0 : Int32)), .val (.int (0 : Int32)), .val (.ref w1), .val (.ref bv), .val (.int (4 : Int32)), .val (.int (3 : Int32)), .val (.ref w2)] [(.int (4 : Int32)), (.int (3 : Int32))])
  refine own_st (fun _ k => XS.icmpNo X5.here hx rfl (hb hby own_d1_17) rfl (tlt (by decide : (3 : Int32) < (4 : Int32))).2.1 k) ?_
  show own_Go _ _ _ _ T5 (mkF m 20 #[.val (.int (0 : Int32)), .val (.int (0 : Int32)), .val (.ref w1), .val (.ref bv), .val (.int (4 : Int32)), .val (.int (3 : Int32)), .val (.ref w2)] [])
  refine own_st (fun _ k => XS.aloadN X5.here hx rfl (hb hby own_d1_20) rfl rfl k) ?_
  show own_Go _ _ _ _ T5 (mkF m 21 #[.val (.int (0 : Int32)), .val (.int (0 : Int32)), .val (.ref w1), .val (.ref bv), .val (.int (4 : Int32)), .val (.int (3 : Int32)), .val (.ref w2)] [(.ref bv)])
  refine own_st (fun _ k => XS.iload X5.here hx rfl (hb hby own_d1_21) rfl k) ?_
  show own_Go _ _ _ _ T5 (mkF m 23 #[.val (.int (0 : Int32)), .val (.int (0 : Int32)), .val (.ref w1), .val (.ref bv), .val (.int (4 : Int32)), .val (.int (3 : Int32)), .val (.ref w2)] [(.int (3 : Int32)), (.ref bv)])
  refine own_st (own_ldR X5 hx hZ e5 Vb rfl (j := (3 : Int32)) (by decide) (v := (.ref w3)) rfl (g := (mkF m 23 #[.val (.int (0 : Int32)), .val (.int (0 : Int32)), .val (.ref w1), .val (.ref bv), .val (.int (4 : Int32)), .val (.int (3 : Int32)), .val (.ref w2)] [(.int (3 : Int32)), (.ref bv)])) rfl rfl (hb hby own_d1_23)) ?_
  show own_Go _ _ _ _ T5 (mkF m 24 #[.val (.int (0 : Int32)), .val (.int (0 : Int32)), .val (.ref w1), .val (.ref bv), .val (.int (4 : Int32)), .val (.int (3 : Int32)), .val (.ref w2)] [(.ref w3)])
  refine own_st (fun _ k => XS.astore X5.here hx rfl (hb hby own_d1_24) rfl rfl (l' := #[.val (.int (0 : Int32)), .val (.int (0 : Int32)), .val (.ref w1), .val (.ref bv), .val (.int (4 : Int32)), .val (.int (3 : Int32)), .val (.ref w3)]) rfl k) ?_
  show own_Go _ _ _ _ T5 (mkF m 26 #[.val (.int (0 : Int32)), .val (.int (0 : Int32)), .val (.ref w1), .val (.ref bv), .val (.int (4 : Int32)), .val (.int (3 : Int32)), .val (.ref w3)] [])
  refine own_st (fun _ k => XS.aload X5.here hx rfl (hb hby own_d1_26) rfl rfl k) ?_
  show own_Go _ _ _ _ T5 (mkF m 28 #[.val (.int (0 : Int32)), .val (.int (0 : Int32)), .val (.ref w1), .val (.ref bv), .val (.int (4 : Int32)), .val (.int (3 : Int32)), .val (.ref w3)] [(.ref w3)])
  obtain ⟨T6, X6, e6, st6⟩ := getF X5 hx hZ hown (host := "") (Or.inl (own_w23 hw)) Via.refl e5 (Fr3.ext O1) (g := (mkF m 28 #[.val (.int (0 : Int32)), .val (.int (0 : Int32)), .val (.ref w1), .val (.ref bv), .val (.int (4 : Int32)), .val (.int (3 : Int32)), .val (.ref w3)] [(.ref w3)])) rfl rfl (hb hby own_d1_28)
  refine own_st st6 ?_
  show own_Go _ _ _ _ T6 (mkF m 31 #[.val (.int (0 : Int32)), .val (.int (0 : Int32)), .val (.ref w1), .val (.ref bv), .val (.int (4 : Int32)), .val (.int (3 : Int32)), .val (.ref w3)] [(.int (0 : Int32))])
  refine own_st (fun _ k => XS.iloadN X6.here hx rfl (hb hby own_d1_31) rfl k) ?_
  show own_Go _ _ _ _ T6 (mkF m 32 #[.val (.int (0 : Int32)), .val (.int (0 : Int32)), .val (.ref w1), .val (.ref bv), .val (.int (4 : Int32)), .val (.int (3 : Int32)), .val (.ref w3)] [(.int (0 : Int32)), (.int (0 : Int32))])
  refine own_st (fun _ k => XS.icmpNo X6.here hx rfl (hb hby own_d1_32) rfl (teq (by decide : (0 : Int32) = (0 : Int32))).2 k) ?_
  show own_Go _ _ _ _ T6 (mkF m 35 #[.val (.int (0 : Int32)), .val (.int (0 : Int32)), .val (.ref w1), .val (.ref bv), .val (.int (4 : Int32)), .val (.int (3 : Int32)), .val (.ref w3)] [])
  refine own_st (fun _ k => XS.aload X6.here hx rfl (hb hby own_d1_35) rfl rfl k) ?_
  show own_Go _ _ _ _ T6 (mkF m 37 #[.val (.int (0 : Int32)), .val (.int (0 : Int32)), .val (.ref w1), .val (.ref bv), .val (.int (4 : Int32)), .val (.int (3 : Int32)), .val (.ref w3)] [(.ref w3)])
  obtain ⟨T7, X7, e7, st7⟩ := getF X6 hx hZ hown (host := "") (Or.inl (own_w25 hw)) Via.refl e6 (Fm3.ext O1) (g := (mkF m 37 #[.val (.int (0 : Int32)), .val (.int (0 : Int32)), .val (.ref w1), .val (.ref bv), .val (.int (4 : Int32)), .val (.int (3 : Int32)), .val (.ref w3)] [(.ref w3)])) rfl rfl (hb hby own_d1_37)
  refine own_st st7 ?_
  show own_Go _ _ _ _ T7 (mkF m 40 #[.val (.int (0 : Int32)), .val (.int (0 : Int32)), .val (.ref w1), .val (.ref bv), .val (.int (4 : Int32)), .val (.int (3 : Int32)), .val (.ref w3)] [(.int (1 : Int32))])
  refine own_st (fun _ k => XS.iloadN X7.here hx rfl (hb hby own_d1_40) rfl k) ?_
  show own_Go _ _ _ _ T7 (mkF m 41 #[.val (.int (0 : Int32)), .val (.int (0 : Int32)), .val (.ref w1), .val (.ref bv), .val (.int (4 : Int32)), .val (.int (3 : Int32)), .val (.ref w3)] [(.int (0 : Int32)), (.int (1 : Int32))])
  refine own_st (fun _ k => XS.icmpYes X7.here hx rfl (pc0 := 41) (pc' := 47) rfl (hb hby own_d1_41) rfl (feq (by decide : ¬ ((1 : Int32) = (0 : Int32)))).2 (by decide) (by decide) k) ?_
  show own_Go _ _ _ _ T7 (mkF m 47 #[.val (.int (0 : Int32)), .val (.int (0 : Int32)), .val (.ref w1), .val (.ref bv), .val (.int (4 : Int32)), .val (.int (3 : Int32)), .val (.ref w3)] [])
  refine own_st (fun _ k => XS.iinc X7.here hx rfl (hb hby own_d1_47) rfl (l' := #[.val (.int (0 : Int32)), .val (.int (0 : Int32)), .val (.ref w1), .val (.ref bv), .val (.int (4 : Int32)), .val (.int ((3 : Int32) + (1 : Int32))), .val (.ref w3)]) rfl k) ?_
  show own_Go _ _ _ _ T7 (mkF m 50 #[.val (.int (0 : Int32)), .val (.int (0 : Int32)), .val (.ref w1), .val (.ref bv), .val (.int (4 : Int32)), .val (.int ((3 : Int32) + (1 : Int32))), .val (.ref w3)] [])
  rw [show ((3 : Int32) + (1 : Int32)) = (4 : Int32) from by decide]
  show own_Go _ _ _ _ T7 (mkF m 50 #[.val (.int (0 : Int32)), .val (.int (0 : Int32)), .val (.ref w1), .val (.ref bv), .val (.int (4 : Int32)), .val (.int (4 : Int32)), .val (.ref w3)] [])
  refine own_st (fun _ k => XS.goto X7.here hx rfl (pc0 := 50) (pc' := 13) rfl (hb hby own_d1_50) (by decide) (by decide) k) ?_
  show own_Go _ _ _ _ T7 (mkF m 13 #[.val (.int (0 : Int32)), .val (.int (0 : Int32)), .val (.ref w1), .val (.ref bv), .val (.int (4 : Int32)), .val (.int (4 : Int32)), .val (.ref w3)] [])
  refine own_st (fun _ k => XS.iload X7.here hx rfl (hb hby own_d1_13) rfl k) ?_
  show own_Go _ _ _ _ T7 (mkF m 15 #[.val (.int (0 : Int32)), .val (.int (0 : Int32)), .val (.ref w1), .val (.ref bv), .val (.int (4 : Int32)), .val (.int (4 : Int32)), .val (.ref w3)] [(.int (4 : Int32))])
  refine own_st (fun _ k => XS.iload X7.here hx rfl (hb hby own_d1_15) rfl k) ?_
  show own_Go _ _ _ _ T7 (mkF m 17 #[.val (.int (0 : Int32)), .val (.int (0 : Int32)), .val (.ref w1), .val (.ref bv), .val (.int (4 : Int32)), .val (.int (4 : Int32)), .val (.ref w3)] [(.int (4 : Int32)), (.int (4 : Int32))])
  refine own_st (fun _ k => XS.icmpYes X7.here hx rfl (pc0 := 17) (pc' := 53) rfl (hb hby own_d1_17) rfl (flt (by decide : ¬ ((4 : Int32) < (4 : Int32)))).2.1 (by decide) (by decide) k) ?_
  show own_Go _ _ _ _ T7 (mkF m 53 #[.val (.int (0 : Int32)), .val (.int (0 : Int32)), .val (.ref w1), .val (.ref bv), .val (.int (4 : Int32)), .val (.int (4 : Int32)), .val (.ref w3)] [])
  refine own_st (fun _ k => XS.aloadN X7.here hx rfl (hb hby own_d1_53) rfl rfl k) ?_
  show own_Go _ _ _ _ T7 (mkF m 54 #[.val (.int (0 : Int32)), .val (.int (0 : Int32)), .val (.ref w1), .val (.ref bv), .val (.int (4 : Int32)), .val (.int (4 : Int32)), .val (.ref w3)] [(.ref w1)])
  exact own_retA X7 hx hret rfl hlk rfl (hb hby own_d1_54) ⟨rfl, N1', by rw [e7]; exact O1⟩ (by decide) (by decide)
def own_ex1_Q (Z : State) (p1 p2 : Int32) (w : Addr) (h0 : Heap) (n0 : Nat) (v : Option Value) (h : Heap) (L : List Loc) : Prop := v = some (.ref w) ∧ Fr n0 L ∧ h = h0
set_option maxRecDepth 65536 in
set_option maxHeartbeats 40000000 in
theorem own_ex1 (l : Launch) {Z : State} {a0 : Array Value} (hw : own_W Z a0) (ws : List Jvm.Cond) (p1 p2 : Int32) (w : Addr) (h0 : Heap) (n0 : Nat) (Z0 : n0 ≤ h0.size) (hp1 : p1 = (0 : Int32)) (hp2 : p2 = (0 : Int32)) (S : Sta Z h0 "com/example/siringa/siringa/Multiplicity" "ZERO_OR_ONE" "Lcom/example/siringa/siringa/Multiplicity;" (.ref w)) :
    MetFree l (⟨"com/example/siringa/siringa/MultiplicityOfPinLaw", "expected", "(ZZ)Lcom/example/siringa/siringa/Multiplicity;"⟩ : MethodName) (head1 (Jvm.Cond.code (⟨"com/example/siringa/siringa/MultiplicityOfPinLaw", "expected", "(ZZ)Lcom/example/siringa/siringa/Multiplicity;"⟩ : MethodName) method_2_code 2 (some (.object "com/example/siringa/siringa/Multiplicity")) :: ws) ({ frames := 0, cells := 0, slots := 0, locals := 0 } : Room)) (fun a U => a = #[(.int p1), (.int p2)] ∧ Z.Warmed39 U.vm ∧ U.heap = h0) (fun _ _ _ _ _ => True) (fun _ U o U' => ∃ v L, o = .returned v ∧ own_ex1_Q Z p1 p2 w h0 n0 v U'.heap L ∧ FrameEnd U o U' L ({ frames := 0, cells := 0, slots := 0, locals := 0 } : Room).cells ({ frames := 0, cells := 0, slots := 0, locals := 0 } : Room).slots) := by
  refine own_enter (C := ({ frames := 0, cells := 0, slots := 0, locals := 0 } : Room).cells) (S := ({ frames := 0, cells := 0, slots := 0, locals := 0 } : Room).slots) (plainFor_of_name own_pn1) ?_
  intro p e s m below meth c T0 X0 I e0
  obtain ⟨hx, hby, hml, hown, hnm, hret, hlk, hZ⟩ := I
  have N0 := Fr.nil n0
  have O0 := own_extr h0
  refine own_cast (own_ef3 m p1 p2) ?_
  show own_Go _ _ _ _ T0 (mkF m 0 #[.val (.int p1), .val (.int p2)] [])
  rw [hp1, hp2]
  show own_Go _ _ _ _ T0 (mkF m 0 #[.val (.int (0 : Int32)), .val (.int (0 : Int32))] [])
  refine own_st (fun _ k => XS.iloadN X0.here hx rfl (hb hby own_d3_0) rfl k) ?_
  show own_Go _ _ _ _ T0 (mkF m 1 #[.val (.int (0 : Int32)), .val (.int (0 : Int32))] [(.int (0 : Int32))])
  refine own_st (fun _ k => XS.ifYes X0.here hx rfl (pc0 := 1) (pc' := 16) rfl (hb hby own_d3_1) rfl ((if0 _ _).trans (teq (by decide : (0 : Int32) = (0 : Int32))).1) (by decide) (by decide) k) ?_
  show own_Go _ _ _ _ T0 (mkF m 16 #[.val (.int (0 : Int32)), .val (.int (0 : Int32))] [])
  refine own_st (fun _ k => XS.iloadN X0.here hx rfl (hb hby own_d3_16) rfl k) ?_
  show own_Go _ _ _ _ T0 (mkF m 17 #[.val (.int (0 : Int32)), .val (.int (0 : Int32))] [(.int (0 : Int32))])
  refine own_st (fun _ k => XS.ifYes X0.here hx rfl (pc0 := 17) (pc' := 24) rfl (hb hby own_d3_17) rfl ((if0 _ _).trans (teq (by decide : (0 : Int32) = (0 : Int32))).1) (by decide) (by decide) k) ?_
  show own_Go _ _ _ _ T0 (mkF m 24 #[.val (.int (0 : Int32)), .val (.int (0 : Int32))] [])
  obtain ⟨T1, X1, e1, st1⟩ := getS2 X0 hx hZ hown (host := "") (Or.inl (own_w42 hw)) Via.refl e0 (S.ext O0) (g := (mkF m 24 #[.val (.int (0 : Int32)), .val (.int (0 : Int32))] [])) rfl (hb hby own_d3_24)
  refine own_st st1 ?_
  show own_Go _ _ _ _ T1 (mkF m 27 #[.val (.int (0 : Int32)), .val (.int (0 : Int32))] [(.ref w)])
  exact own_retA X1 hx hret rfl hlk rfl (hb hby own_d3_27) ⟨rfl, N0, e1⟩ (by decide) (by decide)
def own_of2_Q (Z : State) (p1 p2 : Int32) (wv w0 w1 w2 w3 : Addr) (kv : ClassId) (h0 : Heap) (n0 : Nat) (v : Option Value) (h : Heap) (L : List Loc) : Prop := v = some (.ref w2) ∧ Fr n0 L ∧ Ext h0 h
set_option maxRecDepth 65536 in
set_option maxHeartbeats 40000000 in
theorem own_of2 (l : Launch) {Z : State} {a0 : Array Value} (hw : own_W Z a0) (ws : List Jvm.Cond) (p1 p2 : Int32) (wv w0 w1 w2 w3 : Addr) (kv : ClassId) (h0 : Heap) (n0 : Nat) (Z0 : n0 ≤ h0.size) (hp1 : p1 = (1 : Int32)) (hp2 : p2 = (1 : Int32)) (Sv : Sta Z h0 "com/example/siringa/siringa/Multiplicity" "$VALUES" "[Lcom/example/siringa/siringa/Multiplicity;" (.ref wv)) (Vv : Arv Z h0 wv kv (.object "com/example/siringa/siringa/Multiplicity") 4 [(.ref w0), (.ref w1), (.ref w2), (.ref w3)] .null) (Ev : Exa Z h0 wv "[Lcom/example/siringa/siringa/Multiplicity;") (Fr0 : Fld Z h0 w0 "com/example/siringa/siringa/Multiplicity" "required" "Z" (.int (1 : Int32))) (Fm0 : Fld Z h0 w0 "com/example/siringa/siringa/Multiplicity" "many" "Z" (.int (0 : Int32))) (Fr1 : Fld Z h0 w1 "com/example/siringa/siringa/Multiplicity" "required" "Z" (.int (0 : Int32))) (Fm1 : Fld Z h0 w1 "com/example/siringa/siringa/Multiplicity" "many" "Z" (.int (0 : Int32))) (Fr2 : Fld Z h0 w2 "com/example/siringa/siringa/Multiplicity" "required" "Z" (.int (1 : Int32))) (Fm2 : Fld Z h0 w2 "com/example/siringa/siringa/Multiplicity" "many" "Z" (.int (1 : Int32))) (Fr3 : Fld Z h0 w3 "com/example/siringa/siringa/Multiplicity" "required" "Z" (.int (0 : Int32))) (Fm3 : Fld Z h0 w3 "com/example/siringa/siringa/Multiplicity" "many" "Z" (.int (1 : Int32))) :
    MetFree l (⟨"com/example/siringa/siringa/Multiplicity", "of", "(ZZ)Lcom/example/siringa/siringa/Multiplicity;"⟩ : MethodName) (head1 (Jvm.Cond.code (⟨"com/example/siringa/siringa/Multiplicity", "of", "(ZZ)Lcom/example/siringa/siringa/Multiplicity;"⟩ : MethodName) prog_6_method_4_code 7 (some (.object "com/example/siringa/siringa/Multiplicity")) :: ws) ({ frames := 2, cells := 1, slots := 4, locals := 25 } : Room)) (fun a U => a = #[(.int p1), (.int p2)] ∧ Z.Warmed39 U.vm ∧ U.heap = h0) (fun _ _ _ _ _ => True) (fun _ U o U' => ∃ v L, o = .returned v ∧ own_of2_Q Z p1 p2 wv w0 w1 w2 w3 kv h0 n0 v U'.heap L ∧ FrameEnd U o U' L ({ frames := 2, cells := 1, slots := 4, locals := 25 } : Room).cells ({ frames := 2, cells := 1, slots := 4, locals := 25 } : Room).slots) := by
  refine own_enter (C := ({ frames := 2, cells := 1, slots := 4, locals := 25 } : Room).cells) (S := ({ frames := 2, cells := 1, slots := 4, locals := 25 } : Room).slots) (plainFor_of_name own_pn0) ?_
  intro p e s m below meth c T0 X0 I e0
  obtain ⟨hx, hby, hml, hown, hnm, hret, hlk, hZ⟩ := I
  have N0 := Fr.nil n0
  have O0 := own_extr h0
  refine own_cast (own_ef1 m p1 p2) ?_
  show own_Go _ _ _ _ T0 (mkF m 0 #[.val (.int p1), .val (.int p2), .unset, .unset, .unset, .unset, .unset] [])
  rw [hp1, hp2]
  show own_Go _ _ _ _ T0 (mkF m 0 #[.val (.int (1 : Int32)), .val (.int (1 : Int32)), .unset, .unset, .unset, .unset, .unset] [])
  refine own_st (fun _ k => XS.aconstNull X0.here hx rfl (hb hby own_d1_0) k) ?_
  show own_Go _ _ _ _ T0 (mkF m 1 #[.val (.int (1 : Int32)), .val (.int (1 : Int32)), .unset, .unset, .unset, .unset, .unset] [.null])
  refine own_st (fun _ k => XS.astoreN X0.here hx rfl (hb hby own_d1_1) rfl rfl (l' := #[.val (.int (1 : Int32)), .val (.int (1 : Int32)), .val .null, .unset, .unset, .unset, .unset]) rfl k) ?_
  show own_Go _ _ _ _ T0 (mkF m 2 #[.val (.int (1 : Int32)), .val (.int (1 : Int32)), .val .null, .unset, .unset, .unset, .unset] [])
  obtain ⟨v1, T1, L1, hQ1, X1, st1⟩ := own_callS X0 hx hZ (y := (⟨"com/example/siringa/siringa/Multiplicity", "values", "()[Lcom/example/siringa/siringa/Multiplicity;"⟩ : MethodName)) hown (own_w4 hw) (own_w5 hw) (own_w2 hw) (own_w6 hw) (by decide) (own_vals l hw [] wv w0 w1 w2 w3 kv h0 n0 (Nat.le_trans Z0 O0.1) (Sv.ext O0) (Vv.ext O0) (Ev.ext O0)) e0 (g := (mkF m 2 #[.val (.int (1 : Int32)), .val (.int (1 : Int32)), .val .null, .unset, .unset, .unset, .unset] [])) rfl (by rw [hml]; rfl) (argsL := []) (rest := []) (lenOf own_pd0 rfl) rfl rfl (W := 0) (Nat.le_of_eq rfl) (hb hby own_d1_2) (by decide) (by decide) (by decide) (by decide)
  obtain ⟨bv, kb, rfl, N1, Et1, gb, sb, Vb⟩ := hQ1
  have O1 := own_extt O0 Et1
  have N1' := Fr.app N0 N1
  refine own_st st1 ?_
  show own_Go _ _ _ _ T1 (mkF m 5 #[.val (.int (1 : Int32)), .val (.int (1 : Int32)), .val .null, .unset, .unset, .unset, .unset] [(.ref bv)])
  refine own_st (fun _ k => XS.astoreN X1.here hx rfl (hb hby own_d1_5) rfl rfl (l' := #[.val (.int (1 : Int32)), .val (.int (1 : Int32)), .val .null, .val (.ref bv), .unset, .unset, .unset]) rfl k) ?_
  show own_Go _ _ _ _ T1 (mkF m 6 #[.val (.int (1 : Int32)), .val (.int (1 : Int32)), .val .null, .val (.ref bv), .unset, .unset, .unset] [])
  refine own_st (fun _ k => XS.aloadN X1.here hx rfl (hb hby own_d1_6) rfl rfl k) ?_
  show own_Go _ _ _ _ T1 (mkF m 7 #[.val (.int (1 : Int32)), .val (.int (1 : Int32)), .val .null, .val (.ref bv), .unset, .unset, .unset] [(.ref bv)])
  refine own_st (own_len X1 hx hZ rfl Vb (g := (mkF m 7 #[.val (.int (1 : Int32)), .val (.int (1 : Int32)), .val .null, .val (.ref bv), .unset, .unset, .unset] [(.ref bv)])) rfl rfl (hb hby own_d1_7)) ?_
  show own_Go _ _ _ _ T1 (mkF m 8 #[.val (.int (1 : Int32)), .val (.int (1 : Int32)), .val .null, .val (.ref bv), .unset, .unset, .unset] [(.int (4 : Int32))])
  refine own_st (fun _ k => XS.istore X1.here hx rfl (hb hby own_d1_8) rfl (l' := #[.val (.int (1 : Int32)), .val (.int (1 : Int32)), .val .null, .val (.ref bv), .val (.int (4 : Int32)), .unset, .unset]) rfl k) ?_
  show own_Go _ _ _ _ T1 (mkF m 10 #[.val (.int (1 : Int32)), .val (.int (1 : Int32)), .val .null, .val (.ref bv), .val (.int (4 : Int32)), .unset, .unset] [])
  refine own_st (fun _ k => XS.iconst X1.here hx rfl (hb hby own_d1_10) k) ?_
  show own_Go _ _ _ _ T1 (mkF m 11 #[.val (.int (1 : Int32)), .val (.int (1 : Int32)), .val .null, .val (.ref bv), .val (.int (4 : Int32)), .unset, .unset] [(.int (0 : Int32))])
  refine own_st (fun _ k => XS.istore X1.here hx rfl (hb hby own_d1_11) rfl (l' := #[.val (.int (1 : Int32)), .val (.int (1 : Int32)), .val .null, .val (.ref bv), .val (.int (4 : Int32)), .val (.int (0 : Int32)), .unset]) rfl k) ?_
  show own_Go _ _ _ _ T1 (mkF m 13 #[.val (.int (1 : Int32)), .val (.int (1 : Int32)), .val .null, .val (.ref bv), .val (.int (4 : Int32)), .val (.int (0 : Int32)), .unset] [])
  refine own_st (fun _ k => XS.iload X1.here hx rfl (hb hby own_d1_13) rfl k) ?_
  show own_Go _ _ _ _ T1 (mkF m 15 #[.val (.int (1 : Int32)), .val (.int (1 : Int32)), .val .null, .val (.ref bv), .val (.int (4 : Int32)), .val (.int (0 : Int32)), .unset] [(.int (0 : Int32))])
  refine own_st (fun _ k => XS.iload X1.here hx rfl (hb hby own_d1_15) rfl k) ?_
  show own_Go _ _ _ _ T1 (mkF m 17 #[.val (.int (1 : Int32)), .val (.int (1 : Int32)), .val .null, .val (.ref bv), .val (.int (4 : Int32)), .val (.int (0 : Int32)), .unset] [(.int (4 : Int32)), (.int (0 : Int32))])
  refine own_st (fun _ k => XS.icmpNo X1.here hx rfl (hb hby own_d1_17) rfl (tlt (by decide : (0 : Int32) < (4 : Int32))).2.1 k) ?_
  show own_Go _ _ _ _ T1 (mkF m 20 #[.val (.int (1 : Int32)), .val (.int (1 : Int32)), .val .null, .val (.ref bv), .val (.int (4 : Int32)), .val (.int (0 : Int32)), .unset] [])
  refine own_st (fun _ k => XS.aloadN X1.here hx rfl (hb hby own_d1_20) rfl rfl k) ?_
  show own_Go _ _ _ _ T1 (mkF m 21 #[.val (.int (1 : Int32)), .val (.int (1 : Int32)), .val .null, .val (.ref bv), .val (.int (4 : Int32)), .val (.int (0 : Int32)), .unset] [(.ref bv)])
  refine own_st (fun _ k => XS.iload X1.here hx rfl (hb hby own_d1_21) rfl k) ?_
  show own_Go _ _ _ _ T1 (mkF m 23 #[.val (.int (1 : Int32)), .val (.int (1 : Int32)), .val .null, .val (.ref bv), .val (.int (4 : Int32)), .val (.int (0 : Int32)), .unset] [(.int (0 : Int32)), (.ref bv)])
  refine own_st (own_ldR X1 hx hZ rfl Vb rfl (j := (0 : Int32)) (by decide) (v := (.ref w0)) rfl (g := (mkF m 23 #[.val (.int (1 : Int32)), .val (.int (1 : Int32)), .val .null, .val (.ref bv), .val (.int (4 : Int32)), .val (.int (0 : Int32)), .unset] [(.int (0 : Int32)), (.ref bv)])) rfl rfl (hb hby own_d1_23)) ?_
  show own_Go _ _ _ _ T1 (mkF m 24 #[.val (.int (1 : Int32)), .val (.int (1 : Int32)), .val .null, .val (.ref bv), .val (.int (4 : Int32)), .val (.int (0 : Int32)), .unset] [(.ref w0)])
  refine own_st (fun _ k => XS.astore X1.here hx rfl (hb hby own_d1_24) rfl rfl (l' := #[.val (.int (1 : Int32)), .val (.int (1 : Int32)), .val .null, .val (.ref bv), .val (.int (4 : Int32)), .val (.int (0 : Int32)), .val (.ref w0)]) rfl k) ?_
  show own_Go _ _ _ _ T1 (mkF m 26 #[.val (.int (1 : Int32)), .val (.int (1 : Int32)), .val .null, .val (.ref bv), .val (.int (4 : Int32)), .val (.int (0 : Int32)), .val (.ref w0)] [])
  refine own_st (fun _ k => XS.aload X1.here hx rfl (hb hby own_d1_26) rfl rfl k) ?_
  show own_Go _ _ _ _ T1 (mkF m 28 #[.val (.int (1 : Int32)), .val (.int (1 : Int32)), .val .null, .val (.ref bv), .val (.int (4 : Int32)), .val (.int (0 : Int32)), .val (.ref w0)] [(.ref w0)])
  obtain ⟨T2, X2, e2, st2⟩ := getF X1 hx hZ hown (host := "") (Or.inl (own_w23 hw)) Via.refl rfl (Fr0.ext O1) (g := (mkF m 28 #[.val (.int (1 : Int32)), .val (.int (1 : Int32)), .val .null, .val (.ref bv), .val (.int (4 : Int32)), .val (.int (0 : Int32)), .val (.ref w0)] [(.ref w0)])) rfl rfl (hb hby own_d1_28)
  refine own_st st2 ?_
  show own_Go _ _ _ _ T2 (mkF m 31 #[.val (.int (1 : Int32)), .val (.int (1 : Int32)), .val .null, .val (.ref bv), .val (.int (4 : Int32)), .val (.int (0 : Int32)), .val (.ref w0)] [(.int (1 : Int32))])
  refine own_st (fun _ k => XS.iloadN X2.here hx rfl (hb hby own_d1_31) rfl k) ?_
  show own_Go _ _ _ _ T2 (mkF m 32 #[.val (.int (1 : Int32)), .val (.int (1 : Int32)), .val .null, .val (.ref bv), .val (.int (4 : Int32)), .val (.int (0 : Int32)), .val (.ref w0)] [(.int (1 : Int32)), (.int (1 : Int32))])
  refine own_st (fun _ k => XS.icmpNo X2.here hx rfl (hb hby own_d1_32) rfl (teq (by decide : (1 : Int32) = (1 : Int32))).2 k) ?_
  show own_Go _ _ _ _ T2 (mkF m 35 #[.val (.int (1 : Int32)), .val (.int (1 : Int32)), .val .null, .val (.ref bv), .val (.int (4 : Int32)), .val (.int (0 : Int32)), .val (.ref w0)] [])
  refine own_st (fun _ k => XS.aload X2.here hx rfl (hb hby own_d1_35) rfl rfl k) ?_
  show own_Go _ _ _ _ T2 (mkF m 37 #[.val (.int (1 : Int32)), .val (.int (1 : Int32)), .val .null, .val (.ref bv), .val (.int (4 : Int32)), .val (.int (0 : Int32)), .val (.ref w0)] [(.ref w0)])
  obtain ⟨T3, X3, e3, st3⟩ := getF X2 hx hZ hown (host := "") (Or.inl (own_w25 hw)) Via.refl e2 (Fm0.ext O1) (g := (mkF m 37 #[.val (.int (1 : Int32)), .val (.int (1 : Int32)), .val .null, .val (.ref bv), .val (.int (4 : Int32)), .val (.int (0 : Int32)), .val (.ref w0)] [(.ref w0)])) rfl rfl (hb hby own_d1_37)
  refine own_st st3 ?_
  show own_Go _ _ _ _ T3 (mkF m 40 #[.val (.int (1 : Int32)), .val (.int (1 : Int32)), .val .null, .val (.ref bv), .val (.int (4 : Int32)), .val (.int (0 : Int32)), .val (.ref w0)] [(.int (0 : Int32))])
  refine own_st (fun _ k => XS.iloadN X3.here hx rfl (hb hby own_d1_40) rfl k) ?_
  show own_Go _ _ _ _ T3 (mkF m 41 #[.val (.int (1 : Int32)), .val (.int (1 : Int32)), .val .null, .val (.ref bv), .val (.int (4 : Int32)), .val (.int (0 : Int32)), .val (.ref w0)] [(.int (1 : Int32)), (.int (0 : Int32))])
  refine own_st (fun _ k => XS.icmpYes X3.here hx rfl (pc0 := 41) (pc' := 47) rfl (hb hby own_d1_41) rfl (feq (by decide : ¬ ((0 : Int32) = (1 : Int32)))).2 (by decide) (by decide) k) ?_
  show own_Go _ _ _ _ T3 (mkF m 47 #[.val (.int (1 : Int32)), .val (.int (1 : Int32)), .val .null, .val (.ref bv), .val (.int (4 : Int32)), .val (.int (0 : Int32)), .val (.ref w0)] [])
  refine own_st (fun _ k => XS.iinc X3.here hx rfl (hb hby own_d1_47) rfl (l' := #[.val (.int (1 : Int32)), .val (.int (1 : Int32)), .val .null, .val (.ref bv), .val (.int (4 : Int32)), .val (.int ((0 : Int32) + (1 : Int32))), .val (.ref w0)]) rfl k) ?_
  show own_Go _ _ _ _ T3 (mkF m 50 #[.val (.int (1 : Int32)), .val (.int (1 : Int32)), .val .null, .val (.ref bv), .val (.int (4 : Int32)), .val (.int ((0 : Int32) + (1 : Int32))), .val (.ref w0)] [])
  rw [show ((0 : Int32) + (1 : Int32)) = (1 : Int32) from by decide]
  show own_Go _ _ _ _ T3 (mkF m 50 #[.val (.int (1 : Int32)), .val (.int (1 : Int32)), .val .null, .val (.ref bv), .val (.int (4 : Int32)), .val (.int (1 : Int32)), .val (.ref w0)] [])
  refine own_st (fun _ k => XS.goto X3.here hx rfl (pc0 := 50) (pc' := 13) rfl (hb hby own_d1_50) (by decide) (by decide) k) ?_
  show own_Go _ _ _ _ T3 (mkF m 13 #[.val (.int (1 : Int32)), .val (.int (1 : Int32)), .val .null, .val (.ref bv), .val (.int (4 : Int32)), .val (.int (1 : Int32)), .val (.ref w0)] [])
  refine own_st (fun _ k => XS.iload X3.here hx rfl (hb hby own_d1_13) rfl k) ?_
  show own_Go _ _ _ _ T3 (mkF m 15 #[.val (.int (1 : Int32)), .val (.int (1 : Int32)), .val .null, .val (.ref bv), .val (.int (4 : Int32)), .val (.int (1 : Int32)), .val (.ref w0)] [(.int (1 : Int32))])
  refine own_st (fun _ k => XS.iload X3.here hx rfl (hb hby own_d1_15) rfl k) ?_
  show own_Go _ _ _ _ T3 (mkF m 17 #[.val (.int (1 : Int32)), .val (.int (1 : Int32)), .val .null, .val (.ref bv), .val (.int (4 : Int32)), .val (.int (1 : Int32)), .val (.ref w0)] [(.int (4 : Int32)), (.int (1 : Int32))])
  refine own_st (fun _ k => XS.icmpNo X3.here hx rfl (hb hby own_d1_17) rfl (tlt (by decide : (1 : Int32) < (4 : Int32))).2.1 k) ?_
  show own_Go _ _ _ _ T3 (mkF m 20 #[.val (.int (1 : Int32)), .val (.int (1 : Int32)), .val .null, .val (.ref bv), .val (.int (4 : Int32)), .val (.int (1 : Int32)), .val (.ref w0)] [])
  refine own_st (fun _ k => XS.aloadN X3.here hx rfl (hb hby own_d1_20) rfl rfl k) ?_
  show own_Go _ _ _ _ T3 (mkF m 21 #[.val (.int (1 : Int32)), .val (.int (1 : Int32)), .val .null, .val (.ref bv), .val (.int (4 : Int32)), .val (.int (1 : Int32)), .val (.ref w0)] [(.ref bv)])
  refine own_st (fun _ k => XS.iload X3.here hx rfl (hb hby own_d1_21) rfl k) ?_
  show own_Go _ _ _ _ T3 (mkF m 23 #[.val (.int (1 : Int32)), .val (.int (1 : Int32)), .val .null, .val (.ref bv), .val (.int (4 : Int32)), .val (.int (1 : Int32)), .val (.ref w0)] [(.int (1 : Int32)), (.ref bv)])
  refine own_st (own_ldR X3 hx hZ e3 Vb rfl (j := (1 : Int32)) (by decide) (v := (.ref w1)) rfl (g := (mkF m 23 #[.val (.int (1 : Int32)), .val (.int (1 : Int32)), .val .null, .val (.ref bv), .val (.int (4 : Int32)), .val (.int (1 : Int32)), .val (.ref w0)] [(.int (1 : Int32)), (.ref bv)])) rfl rfl (hb hby own_d1_23)) ?_
  show own_Go _ _ _ _ T3 (mkF m 24 #[.val (.int (1 : Int32)), .val (.int (1 : Int32)), .val .null, .val (.ref bv), .val (.int (4 : Int32)), .val (.int (1 : Int32)), .val (.ref w0)] [(.ref w1)])
  refine own_st (fun _ k => XS.astore X3.here hx rfl (hb hby own_d1_24) rfl rfl (l' := #[.val (.int (1 : Int32)), .val (.int (1 : Int32)), .val .null, .val (.ref bv), .val (.int (4 : Int32)), .val (.int (1 : Int32)), .val (.ref w1)]) rfl k) ?_
  show own_Go _ _ _ _ T3 (mkF m 26 #[.val (.int (1 : Int32)), .val (.int (1 : Int32)), .val .null, .val (.ref bv), .val (.int (4 : Int32)), .val (.int (1 : Int32)), .val (.ref w1)] [])
  refine own_st (fun _ k => XS.aload X3.here hx rfl (hb hby own_d1_26) rfl rfl k) ?_
  show own_Go _ _ _ _ T3 (mkF m 28 #[.val (.int (1 : Int32)), .val (.int (1 : Int32)), .val .null, .val (.ref bv), .val (.int (4 : Int32)), .val (.int (1 : Int32)), .val (.ref w1)] [(.ref w1)])
  obtain ⟨T4, X4, e4, st4⟩ := getF X3 hx hZ hown (host := "") (Or.inl (own_w23 hw)) Via.refl e3 (Fr1.ext O1) (g := (mkF m 28 #[.val (.int (1 : Int32)), .val (.int (1 : Int32)), .val .null, .val (.ref bv), .val (.int (4 : Int32)), .val (.int (1 : Int32)), .val (.ref w1)] [(.ref w1)])) rfl rfl (hb hby own_d1_28)
  refine own_st st4 ?_
  show own_Go _ _ _ _ T4 (mkF m 31 #[.val (.int (1 : Int32)), .val (.int (1 : Int32)), .val .null, .val (.ref bv), .val (.int (4 : Int32)), .val (.int (1 : Int32)), .val (.ref w1)] [(.int (0 : Int32))])
  refine own_st (fun _ k => XS.iloadN X4.here hx rfl (hb hby own_d1_31) rfl k) ?_
  show own_Go _ _ _ _ T4 (mkF m 32 #[.val (.int (1 : Int32)), .val (.int (1 : Int32)), .val .null, .val (.ref bv), .val (.int (4 : Int32)), .val (.int (1 : Int32)), .val (.ref w1)] [(.int (1 : Int32)), (.int (0 : Int32))])
  refine own_st (fun _ k => XS.icmpYes X4.here hx rfl (pc0 := 32) (pc' := 47) rfl (hb hby own_d1_32) rfl (feq (by decide : ¬ ((0 : Int32) = (1 : Int32)))).2 (by decide) (by decide) k) ?_
  show own_Go _ _ _ _ T4 (mkF m 47 #[.val (.int (1 : Int32)), .val (.int (1 : Int32)), .val .null, .val (.ref bv), .val (.int (4 : Int32)), .val (.int (1 : Int32)), .val (.ref w1)] [])
  refine own_st (fun _ k => XS.iinc X4.here hx rfl (hb hby own_d1_47) rfl (l' := #[.val (.int (1 : Int32)), .val (.int (1 : Int32)), .val .null, .val (.ref bv), .val (.int (4 : Int32)), .val (.int ((1 : Int32) + (1 : Int32))), .val (.ref w1)]) rfl k) ?_
  show own_Go _ _ _ _ T4 (mkF m 50 #[.val (.int (1 : Int32)), .val (.int (1 : Int32)), .val .null, .val (.ref bv), .val (.int (4 : Int32)), .val (.int ((1 : Int32) + (1 : Int32))), .val (.ref w1)] [])
  rw [show ((1 : Int32) + (1 : Int32)) = (2 : Int32) from by decide]
  show own_Go _ _ _ _ T4 (mkF m 50 #[.val (.int (1 : Int32)), .val (.int (1 : Int32)), .val .null, .val (.ref bv), .val (.int (4 : Int32)), .val (.int (2 : Int32)), .val (.ref w1)] [])
  refine own_st (fun _ k => XS.goto X4.here hx rfl (pc0 := 50) (pc' := 13) rfl (hb hby own_d1_50) (by decide) (by decide) k) ?_
  show own_Go _ _ _ _ T4 (mkF m 13 #[.val (.int (1 : Int32)), .val (.int (1 : Int32)), .val .null, .val (.ref bv), .val (.int (4 : Int32)), .val (.int (2 : Int32)), .val (.ref w1)] [])
  refine own_st (fun _ k => XS.iload X4.here hx rfl (hb hby own_d1_13) rfl k) ?_
  show own_Go _ _ _ _ T4 (mkF m 15 #[.val (.int (1 : Int32)), .val (.int (1 : Int32)), .val .null, .val (.ref bv), .val (.int (4 : Int32)), .val (.int (2 : Int32)), .val (.ref w1)] [(.int (2 : Int32))])
  refine own_st (fun _ k => XS.iload X4.here hx rfl (hb hby own_d1_15) rfl k) ?_
  show own_Go _ _ _ _ T4 (mkF m 17 #[.val (.int (1 : Int32)), .val (.int (1 : Int32)), .val .null, .val (.ref bv), .val (.int (4 : Int32)), .val (.int (2 : Int32)), .val (.ref w1)] [(.int (4 : Int32)), (.int (2 : Int32))])
  refine own_st (fun _ k => XS.icmpNo X4.here hx rfl (hb hby own_d1_17) rfl (tlt (by decide : (2 : Int32) < (4 : Int32))).2.1 k) ?_
  show own_Go _ _ _ _ T4 (mkF m 20 #[.val (.int (1 : Int32)), .val (.int (1 : Int32)), .val .null, .val (.ref bv), .val (.int (4 : Int32)), .val (.int (2 : Int32)), .val (.ref w1)] [])
  refine own_st (fun _ k => XS.aloadN X4.here hx rfl (hb hby own_d1_20) rfl rfl k) ?_
  show own_Go _ _ _ _ T4 (mkF m 21 #[.val (.int (1 : Int32)), .val (.int (1 : Int32)), .val .null, .val (.ref bv), .val (.int (4 : Int32)), .val (.int (2 : Int32)), .val (.ref w1)] [(.ref bv)])
  refine own_st (fun _ k => XS.iload X4.here hx rfl (hb hby own_d1_21) rfl k) ?_
  show own_Go _ _ _ _ T4 (mkF m 23 #[.val (.int (1 : Int32)), .val (.int (1 : Int32)), .val .null, .val (.ref bv), .val (.int (4 : Int32)), .val (.int (2 : Int32)), .val (.ref w1)] [(.int (2 : Int32)), (.ref bv)])
  refine own_st (own_ldR X4 hx hZ e4 Vb rfl (j := (2 : Int32)) (by decide) (v := (.ref w2)) rfl (g := (mkF m 23 #[.val (.int (1 : Int32)), .val (.int (1 : Int32)), .val .null, .val (.ref bv), .val (.int (4 : Int32)), .val (.int (2 : Int32)), .val (.ref w1)] [(.int (2 : Int32)), (.ref bv)])) rfl rfl (hb hby own_d1_23)) ?_
  show own_Go _ _ _ _ T4 (mkF m 24 #[.val (.int (1 : Int32)), .val (.int (1 : Int32)), .val .null, .val (.ref bv), .val (.int (4 : Int32)), .val (.int (2 : Int32)), .val (.ref w1)] [(.ref w2)])
  refine own_st (fun _ k => XS.astore X4.here hx rfl (hb hby own_d1_24) rfl rfl (l' := #[.val (.int (1 : Int32)), .val (.int (1 : Int32)), .val .null, .val (.ref bv), .val (.int (4 : Int32)), .val (.int (2 : Int32)), .val (.ref w2)]) rfl k) ?_
  show own_Go _ _ _ _ T4 (mkF m 26 #[.val (.int (1 : Int32)), .val (.int (1 : Int32)), .val .null, .val (.ref bv), .val (.int (4 : Int32)), .val (.int (2 : Int32)), .val (.ref w2)] [])
  refine own_st (fun _ k => XS.aload X4.here hx rfl (hb hby own_d1_26) rfl rfl k) ?_
  show own_Go _ _ _ _ T4 (mkF m 28 #[.val (.int (1 : Int32)), .val (.int (1 : Int32)), .val .null, .val (.ref bv), .val (.int (4 : Int32)), .val (.int (2 : Int32)), .val (.ref w2)] [(.ref w2)])
  obtain ⟨T5, X5, e5, st5⟩ := getF X4 hx hZ hown (host := "") (Or.inl (own_w23 hw)) Via.refl e4 (Fr2.ext O1) (g := (mkF m 28 #[.val (.int (1 : Int32)), .val (.int (1 : Int32)), .val .null, .val (.ref bv), .val (.int (4 : Int32)), .val (.int (2 : Int32)), .val (.ref w2)] [(.ref w2)])) rfl rfl (hb hby own_d1_28)
  refine own_st st5 ?_
  show own_Go _ _ _ _ T5 (mkF m 31 #[.val (.int (1 : Int32)), .val (.int (1 : Int32)), .val .null, .val (.ref bv), .val (.int (4 : Int32)), .val (.int (2 : Int32)), .val (.ref w2)] [(.int (1 : Int32))])
  refine own_st (fun _ k => XS.iloadN X5.here hx rfl (hb hby own_d1_31) rfl k) ?_
  show own_Go _ _ _ _ T5 (mkF m 32 #[.val (.int (1 : Int32)), .val (.int (1 : Int32)), .val .null, .val (.ref bv), .val (.int (4 : Int32)), .val (.int (2 : Int32)), .val (.ref w2)] [(.int (1 : Int32)), (.int (1 : Int32))])
  refine own_st (fun _ k => XS.icmpNo X5.here hx rfl (hb hby own_d1_32) rfl (teq (by decide : (1 : Int32) = (1 : Int32))).2 k) ?_
  show own_Go _ _ _ _ T5 (mkF m 35 #[.val (.int (1 : Int32)), .val (.int (1 : Int32)), .val .null, .val (.ref bv), .val (.int (4 : Int32)), .val (.int (2 : Int32)), .val (.ref w2)] [])
  refine own_st (fun _ k => XS.aload X5.here hx rfl (hb hby own_d1_35) rfl rfl k) ?_
  show own_Go _ _ _ _ T5 (mkF m 37 #[.val (.int (1 : Int32)), .val (.int (1 : Int32)), .val .null, .val (.ref bv), .val (.int (4 : Int32)), .val (.int (2 : Int32)), .val (.ref w2)] [(.ref w2)])
  obtain ⟨T6, X6, e6, st6⟩ := getF X5 hx hZ hown (host := "") (Or.inl (own_w25 hw)) Via.refl e5 (Fm2.ext O1) (g := (mkF m 37 #[.val (.int (1 : Int32)), .val (.int (1 : Int32)), .val .null, .val (.ref bv), .val (.int (4 : Int32)), .val (.int (2 : Int32)), .val (.ref w2)] [(.ref w2)])) rfl rfl (hb hby own_d1_37)
  refine own_st st6 ?_
  show own_Go _ _ _ _ T6 (mkF m 40 #[.val (.int (1 : Int32)), .val (.int (1 : Int32)), .val .null, .val (.ref bv), .val (.int (4 : Int32)), .val (.int (2 : Int32)), .val (.ref w2)] [(.int (1 : Int32))])
  refine own_st (fun _ k => XS.iloadN X6.here hx rfl (hb hby own_d1_40) rfl k) ?_
  show own_Go _ _ _ _ T6 (mkF m 41 #[.val (.int (1 : Int32)), .val (.int (1 : Int32)), .val .null, .val (.ref bv), .val (.int (4 : Int32)), .val (.int (2 : Int32)), .val (.ref w2)] [(.int (1 : Int32)), (.int (1 : Int32))])
  refine own_st (fun _ k => XS.icmpNo X6.here hx rfl (hb hby own_d1_41) rfl (teq (by decide : (1 : Int32) = (1 : Int32))).2 k) ?_
  show own_Go _ _ _ _ T6 (mkF m 44 #[.val (.int (1 : Int32)), .val (.int (1 : Int32)), .val .null, .val (.ref bv), .val (.int (4 : Int32)), .val (.int (2 : Int32)), .val (.ref w2)] [])
  refine own_st (fun _ k => XS.aload X6.here hx rfl (hb hby own_d1_44) rfl rfl k) ?_
  show own_Go _ _ _ _ T6 (mkF m 46 #[.val (.int (1 : Int32)), .val (.int (1 : Int32)), .val .null, .val (.ref bv), .val (.int (4 : Int32)), .val (.int (2 : Int32)), .val (.ref w2)] [(.ref w2)])
  refine own_st (fun _ k => XS.astoreN X6.here hx rfl (hb hby own_d1_46) rfl rfl (l' := #[.val (.int (1 : Int32)), .val (.int (1 : Int32)), .val (.ref w2), .val (.ref bv), .val (.int (4 : Int32)), .val (.int (2 : Int32)), .val (.ref w2)]) rfl k) ?_
  show own_Go _ _ _ _ T6 (mkF m 47 #[.val (.int (1 : Int32)), .val (.int (1 : Int32)), .val (.ref w2), .val (.ref bv), .val (.int (4 : Int32)), .val (.int (2 : Int32)), .val (.ref w2)] [])
  refine own_st (fun _ k => XS.iinc X6.here hx rfl (hb hby own_d1_47) rfl (l' := #[.val (.int (1 : Int32)), .val (.int (1 : Int32)), .val (.ref w2), .val (.ref bv), .val (.int (4 : Int32)), .val (.int ((2 : Int32) + (1 : Int32))), .val (.ref w2)]) rfl k) ?_
  show own_Go _ _ _ _ T6 (mkF m 50 #[.val (.int (1 : Int32)), .val (.int (1 : Int32)), .val (.ref w2), .val (.ref bv), .val (.int (4 : Int32)), .val (.int ((2 : Int32) + (1 : Int32))), .val (.ref w2)] [])
  rw [show ((2 : Int32) + (1 : Int32)) = (3 : Int32) from by decide]
  show own_Go _ _ _ _ T6 (mkF m 50 #[.val (.int (1 : Int32)), .val (.int (1 : Int32)), .val (.ref w2), .val (.ref bv), .val (.int (4 : Int32)), .val (.int (3 : Int32)), .val (.ref w2)] [])
  refine own_st (fun _ k => XS.goto X6.here hx rfl (pc0 := 50) (pc' := 13) rfl (hb hby own_d1_50) (by decide) (by decide) k) ?_
  show own_Go _ _ _ _ T6 (mkF m 13 #[.val (.int (1 : Int32)), .val (.int (1 : Int32)), .val (.ref w2), .val (.ref bv), .val (.int (4 : Int32)), .val (.int (3 : Int32)), .val (.ref w2)] [])
  refine own_st (fun _ k => XS.iload X6.here hx rfl (hb hby own_d1_13) rfl k) ?_
  show own_Go _ _ _ _ T6 (mkF m 15 #[.val (.int (1 : Int32)), .val (.int (1 : Int32)), .val (.ref w2), .val (.ref bv), .val (.int (4 : Int32)), .val (.int (3 : Int32)), .val (.ref w2)] [(.int (3 : Int32))])
  refine own_st (fun _ k => XS.iload X6.here hx rfl (hb hby own_d1_15) rfl k) ?_
  show own_Go _ _ _ _ T6 (mkF m 17 #[.val (.int (1 : Int32)), .val (.int (1 : Int32)), .val (.ref w2), .val (.ref bv), .val (.int (4 : Int32)), .val (.int (3 : Int32)), .val (.ref w2)] [(.int (4 : Int32)), (.int (3 : Int32))])
  refine own_st (fun _ k => XS.icmpNo X6.here hx rfl (hb hby own_d1_17) rfl (tlt (by decide : (3 : Int32) < (4 : Int32))).2.1 k) ?_
  show own_Go _ _ _ _ T6 (mkF m 20 #[.val (.int (1 : Int32)), .val (.int (1 : Int32)), .val (.ref w2), .val (.ref bv), .val (.int (4 : Int32)), .val (.int (3 : Int32)), .val (.ref w2)] [])
  refine own_st (fun _ k => XS.aloadN X6.here hx rfl (hb hby own_d1_20) rfl rfl k) ?_
  show own_Go _ _ _ _ T6 (mkF m 21 #[.val (.int (1 : Int32)), .val (.int (1 : Int32)), .val (.ref w2), .val (.ref bv), .val (.int (4 : Int32)), .val (.int (3 : Int32)), .val (.ref w2)] [(.ref bv)])
  refine own_st (fun _ k => XS.iload X6.here hx rfl (hb hby own_d1_21) rfl k) ?_
  show own_Go _ _ _ _ T6 (mkF m 23 #[.val (.int (1 : Int32)), .val (.int (1 : Int32)), .val (.ref w2), .val (.ref bv), .val (.int (4 : Int32)), .val (.int (3 : Int32)), .val (.ref w2)] [(.int (3 : Int32)), (.ref bv)])
  refine own_st (own_ldR X6 hx hZ e6 Vb rfl (j := (3 : Int32)) (by decide) (v := (.ref w3)) rfl (g := (mkF m 23 #[.val (.int (1 : Int32)), .val (.int (1 : Int32)), .val (.ref w2), .val (.ref bv), .val (.int (4 : Int32)), .val (.int (3 : Int32)), .val (.ref w2)] [(.int (3 : Int32)), (.ref bv)])) rfl rfl (hb hby own_d1_23)) ?_
  show own_Go _ _ _ _ T6 (mkF m 24 #[.val (.int (1 : Int32)), .val (.int (1 : Int32)), .val (.ref w2), .val (.ref bv), .val (.int (4 : Int32)), .val (.int (3 : Int32)), .val (.ref w2)] [(.ref w3)])
  refine own_st (fun _ k => XS.astore X6.here hx rfl (hb hby own_d1_24) rfl rfl (l' := #[.val (.int (1 : Int32)), .val (.int (1 : Int32)), .val (.ref w2), .val (.ref bv), .val (.int (4 : Int32)), .val (.int (3 : Int32)), .val (.ref w3)]) rfl k) ?_
  show own_Go _ _ _ _ T6 (mkF m 26 #[.val (.int (1 : Int32)), .val (.int (1 : Int32)), .val (.ref w2), .val (.ref bv), .val (.int (4 : Int32)), .val (.int (3 : Int32)), .val (.ref w3)] [])
  refine own_st (fun _ k => XS.aload X6.here hx rfl (hb hby own_d1_26) rfl rfl k) ?_
  show own_Go _ _ _ _ T6 (mkF m 28 #[.val (.int (1 : Int32)), .val (.int (1 : Int32)), .val (.ref w2), .val (.ref bv), .val (.int (4 : Int32)), .val (.int (3 : Int32)), .val (.ref w3)] [(.ref w3)])
  obtain ⟨T7, X7, e7, st7⟩ := getF X6 hx hZ hown (host := "") (Or.inl (own_w23 hw)) Via.refl e6 (Fr3.ext O1) (g := (mkF m 28 #[.val (.int (1 : Int32)), .val (.int (1 : Int32)), .val (.ref w2), .val (.ref bv), .val (.int (4 : Int32)), .val (.int (3 : Int32)), .val (.ref w3)] [(.ref w3)])) rfl rfl (hb hby own_d1_28)
  refine own_st st7 ?_
  show own_Go _ _ _ _ T7 (mkF m 31 #[.val (.int (1 : Int32)), .val (.int (1 : Int32)), .val (.ref w2), .val (.ref bv), .val (.int (4 : Int32)), .val (.int (3 : Int32)), .val (.ref w3)] [(.int (0 : Int32))])
  refine own_st (fun _ k => XS.iloadN X7.here hx rfl (hb hby own_d1_31) rfl k) ?_
  show own_Go _ _ _ _ T7 (mkF m 32 #[.val (.int (1 : Int32)), .val (.int (1 : Int32)), .val (.ref w2), .val (.ref bv), .val (.int (4 : Int32)), .val (.int (3 : Int32)), .val (.ref w3)] [(.int (1 : Int32)), (.int (0 : Int32))])
  refine own_st (fun _ k => XS.icmpYes X7.here hx rfl (pc0 := 32) (pc' := 47) rfl (hb hby own_d1_32) rfl (feq (by decide : ¬ ((0 : Int32) = (1 : Int32)))).2 (by decide) (by decide) k) ?_
  show own_Go _ _ _ _ T7 (mkF m 47 #[.val (.int (1 : Int32)), .val (.int (1 : Int32)), .val (.ref w2), .val (.ref bv), .val (.int (4 : Int32)), .val (.int (3 : Int32)), .val (.ref w3)] [])
  refine own_st (fun _ k => XS.iinc X7.here hx rfl (hb hby own_d1_47) rfl (l' := #[.val (.int (1 : Int32)), .val (.int (1 : Int32)), .val (.ref w2), .val (.ref bv), .val (.int (4 : Int32)), .val (.int ((3 : Int32) + (1 : Int32))), .val (.ref w3)]) rfl k) ?_
  show own_Go _ _ _ _ T7 (mkF m 50 #[.val (.int (1 : Int32)), .val (.int (1 : Int32)), .val (.ref w2), .val (.ref bv), .val (.int (4 : Int32)), .val (.int ((3 : Int32) + (1 : Int32))), .val (.ref w3)] [])
  rw [show ((3 : Int32) + (1 : Int32)) = (4 : Int32) from by decide]
  show own_Go _ _ _ _ T7 (mkF m 50 #[.val (.int (1 : Int32)), .val (.int (1 : Int32)), .val (.ref w2), .val (.ref bv), .val (.int (4 : Int32)), .val (.int (4 : Int32)), .val (.ref w3)] [])
  refine own_st (fun _ k => XS.goto X7.here hx rfl (pc0 := 50) (pc' := 13) rfl (hb hby own_d1_50) (by decide) (by decide) k) ?_
  show own_Go _ _ _ _ T7 (mkF m 13 #[.val (.int (1 : Int32)), .val (.int (1 : Int32)), .val (.ref w2), .val (.ref bv), .val (.int (4 : Int32)), .val (.int (4 : Int32)), .val (.ref w3)] [])
  refine own_st (fun _ k => XS.iload X7.here hx rfl (hb hby own_d1_13) rfl k) ?_
  show own_Go _ _ _ _ T7 (mkF m 15 #[.val (.int (1 : Int32)), .val (.int (1 : Int32)), .val (.ref w2), .val (.ref bv), .val (.int (4 : Int32)), .val (.int (4 : Int32)), .val (.ref w3)] [(.int (4 : Int32))])
  refine own_st (fun _ k => XS.iload X7.here hx rfl (hb hby own_d1_15) rfl k) ?_
  show own_Go _ _ _ _ T7 (mkF m 17 #[.val (.int (1 : Int32)), .val (.int (1 : Int32)), .val (.ref w2), .val (.ref bv), .val (.int (4 : Int32)), .val (.int (4 : Int32)), .val (.ref w3)] [(.int (4 : Int32)), (.int (4 : Int32))])
  refine own_st (fun _ k => XS.icmpYes X7.here hx rfl (pc0 := 17) (pc' := 53) rfl (hb hby own_d1_17) rfl (flt (by decide : ¬ ((4 : Int32) < (4 : Int32)))).2.1 (by decide) (by decide) k) ?_
  show own_Go _ _ _ _ T7 (mkF m 53 #[.val (.int (1 : Int32)), .val (.int (1 : Int32)), .val (.ref w2), .val (.ref bv), .val (.int (4 : Int32)), .val (.int (4 : Int32)), .val (.ref w3)] [])
  refine own_st (fun _ k => XS.aloadN X7.here hx rfl (hb hby own_d1_53) rfl rfl k) ?_
  show own_Go _ _ _ _ T7 (mkF m 54 #[.val (.int (1 : Int32)), .val (.int (1 : Int32)), .val (.ref w2), .val (.ref bv), .val (.int (4 : Int32)), .val (.int (4 : Int32)), .val (.ref w3)] [(.ref w2)])
  exact own_retA X7 hx hret rfl hlk rfl (hb hby own_d1_54) ⟨rfl, N1', by rw [e7]; exact O1⟩ (by decide) (by decide)
def own_ex2_Q (Z : State) (p1 p2 : Int32) (w : Addr) (h0 : Heap) (n0 : Nat) (v : Option Value) (h : Heap) (L : List Loc) : Prop := v = some (.ref w) ∧ Fr n0 L ∧ h = h0
set_option maxRecDepth 65536 in
set_option maxHeartbeats 40000000 in
theorem own_ex2 (l : Launch) {Z : State} {a0 : Array Value} (hw : own_W Z a0) (ws : List Jvm.Cond) (p1 p2 : Int32) (w : Addr) (h0 : Heap) (n0 : Nat) (Z0 : n0 ≤ h0.size) (hp1 : p1 = (1 : Int32)) (hp2 : p2 = (1 : Int32)) (S : Sta Z h0 "com/example/siringa/siringa/Multiplicity" "ONE_OR_MORE" "Lcom/example/siringa/siringa/Multiplicity;" (.ref w)) :
    MetFree l (⟨"com/example/siringa/siringa/MultiplicityOfPinLaw", "expected", "(ZZ)Lcom/example/siringa/siringa/Multiplicity;"⟩ : MethodName) (head1 (Jvm.Cond.code (⟨"com/example/siringa/siringa/MultiplicityOfPinLaw", "expected", "(ZZ)Lcom/example/siringa/siringa/Multiplicity;"⟩ : MethodName) method_2_code 2 (some (.object "com/example/siringa/siringa/Multiplicity")) :: ws) ({ frames := 0, cells := 0, slots := 0, locals := 0 } : Room)) (fun a U => a = #[(.int p1), (.int p2)] ∧ Z.Warmed39 U.vm ∧ U.heap = h0) (fun _ _ _ _ _ => True) (fun _ U o U' => ∃ v L, o = .returned v ∧ own_ex2_Q Z p1 p2 w h0 n0 v U'.heap L ∧ FrameEnd U o U' L ({ frames := 0, cells := 0, slots := 0, locals := 0 } : Room).cells ({ frames := 0, cells := 0, slots := 0, locals := 0 } : Room).slots) := by
  refine own_enter (C := ({ frames := 0, cells := 0, slots := 0, locals := 0 } : Room).cells) (S := ({ frames := 0, cells := 0, slots := 0, locals := 0 } : Room).slots) (plainFor_of_name own_pn1) ?_
  intro p e s m below meth c T0 X0 I e0
  obtain ⟨hx, hby, hml, hown, hnm, hret, hlk, hZ⟩ := I
  have N0 := Fr.nil n0
  have O0 := own_extr h0
  refine own_cast (own_ef3 m p1 p2) ?_
  show own_Go _ _ _ _ T0 (mkF m 0 #[.val (.int p1), .val (.int p2)] [])
  rw [hp1, hp2]
  show own_Go _ _ _ _ T0 (mkF m 0 #[.val (.int (1 : Int32)), .val (.int (1 : Int32))] [])
  refine own_st (fun _ k => XS.iloadN X0.here hx rfl (hb hby own_d3_0) rfl k) ?_
  show own_Go _ _ _ _ T0 (mkF m 1 #[.val (.int (1 : Int32)), .val (.int (1 : Int32))] [(.int (1 : Int32))])
  refine own_st (fun _ k => XS.ifNo X0.here hx rfl (hb hby own_d3_1) rfl ((if0 _ _).trans (feq (by decide : ¬ ((1 : Int32) = (0 : Int32)))).1) k) ?_
  show own_Go _ _ _ _ T0 (mkF m 4 #[.val (.int (1 : Int32)), .val (.int (1 : Int32))] [])
  refine own_st (fun _ k => XS.iloadN X0.here hx rfl (hb hby own_d3_4) rfl k) ?_
  show own_Go _ _ _ _ T0 (mkF m 5 #[.val (.int (1 : Int32)), .val (.int (1 : Int32))] [(.int (1 : Int32))])
  refine own_st (fun _ k => XS.ifNo X0.here hx rfl (hb hby own_d3_5) rfl ((if0 _ _).trans (feq (by decide : ¬ ((1 : Int32) = (0 : Int32)))).1) k) ?_
  show own_Go _ _ _ _ T0 (mkF m 8 #[.val (.int (1 : Int32)), .val (.int (1 : Int32))] [])
  obtain ⟨T1, X1, e1, st1⟩ := getS2 X0 hx hZ hown (host := "") (Or.inl (own_w43 hw)) Via.refl e0 (S.ext O0) (g := (mkF m 8 #[.val (.int (1 : Int32)), .val (.int (1 : Int32))] [])) rfl (hb hby own_d3_8)
  refine own_st st1 ?_
  show own_Go _ _ _ _ T1 (mkF m 11 #[.val (.int (1 : Int32)), .val (.int (1 : Int32))] [(.ref w)])
  exact own_retA X1 hx hret rfl hlk rfl (hb hby own_d3_11) ⟨rfl, N0, e1⟩ (by decide) (by decide)
def own_of3_Q (Z : State) (p1 p2 : Int32) (wv w0 w1 w2 w3 : Addr) (kv : ClassId) (h0 : Heap) (n0 : Nat) (v : Option Value) (h : Heap) (L : List Loc) : Prop := v = some (.ref w3) ∧ Fr n0 L ∧ Ext h0 h
set_option maxRecDepth 65536 in
set_option maxHeartbeats 40000000 in
theorem own_of3 (l : Launch) {Z : State} {a0 : Array Value} (hw : own_W Z a0) (ws : List Jvm.Cond) (p1 p2 : Int32) (wv w0 w1 w2 w3 : Addr) (kv : ClassId) (h0 : Heap) (n0 : Nat) (Z0 : n0 ≤ h0.size) (hp1 : p1 = (0 : Int32)) (hp2 : p2 = (1 : Int32)) (Sv : Sta Z h0 "com/example/siringa/siringa/Multiplicity" "$VALUES" "[Lcom/example/siringa/siringa/Multiplicity;" (.ref wv)) (Vv : Arv Z h0 wv kv (.object "com/example/siringa/siringa/Multiplicity") 4 [(.ref w0), (.ref w1), (.ref w2), (.ref w3)] .null) (Ev : Exa Z h0 wv "[Lcom/example/siringa/siringa/Multiplicity;") (Fr0 : Fld Z h0 w0 "com/example/siringa/siringa/Multiplicity" "required" "Z" (.int (1 : Int32))) (Fm0 : Fld Z h0 w0 "com/example/siringa/siringa/Multiplicity" "many" "Z" (.int (0 : Int32))) (Fr1 : Fld Z h0 w1 "com/example/siringa/siringa/Multiplicity" "required" "Z" (.int (0 : Int32))) (Fm1 : Fld Z h0 w1 "com/example/siringa/siringa/Multiplicity" "many" "Z" (.int (0 : Int32))) (Fr2 : Fld Z h0 w2 "com/example/siringa/siringa/Multiplicity" "required" "Z" (.int (1 : Int32))) (Fm2 : Fld Z h0 w2 "com/example/siringa/siringa/Multiplicity" "many" "Z" (.int (1 : Int32))) (Fr3 : Fld Z h0 w3 "com/example/siringa/siringa/Multiplicity" "required" "Z" (.int (0 : Int32))) (Fm3 : Fld Z h0 w3 "com/example/siringa/siringa/Multiplicity" "many" "Z" (.int (1 : Int32))) :
    MetFree l (⟨"com/example/siringa/siringa/Multiplicity", "of", "(ZZ)Lcom/example/siringa/siringa/Multiplicity;"⟩ : MethodName) (head1 (Jvm.Cond.code (⟨"com/example/siringa/siringa/Multiplicity", "of", "(ZZ)Lcom/example/siringa/siringa/Multiplicity;"⟩ : MethodName) prog_6_method_4_code 7 (some (.object "com/example/siringa/siringa/Multiplicity")) :: ws) ({ frames := 2, cells := 1, slots := 4, locals := 25 } : Room)) (fun a U => a = #[(.int p1), (.int p2)] ∧ Z.Warmed39 U.vm ∧ U.heap = h0) (fun _ _ _ _ _ => True) (fun _ U o U' => ∃ v L, o = .returned v ∧ own_of3_Q Z p1 p2 wv w0 w1 w2 w3 kv h0 n0 v U'.heap L ∧ FrameEnd U o U' L ({ frames := 2, cells := 1, slots := 4, locals := 25 } : Room).cells ({ frames := 2, cells := 1, slots := 4, locals := 25 } : Room).slots) := by
  refine own_enter (C := ({ frames := 2, cells := 1, slots := 4, locals := 25 } : Room).cells) (S := ({ frames := 2, cells := 1, slots := 4, locals := 25 } : Room).slots) (plainFor_of_name own_pn0) ?_
  intro p e s m below meth c T0 X0 I e0
  obtain ⟨hx, hby, hml, hown, hnm, hret, hlk, hZ⟩ := I
  have N0 := Fr.nil n0
  have O0 := own_extr h0
  refine own_cast (own_ef1 m p1 p2) ?_
  show own_Go _ _ _ _ T0 (mkF m 0 #[.val (.int p1), .val (.int p2), .unset, .unset, .unset, .unset, .unset] [])
  rw [hp1, hp2]
  show own_Go _ _ _ _ T0 (mkF m 0 #[.val (.int (0 : Int32)), .val (.int (1 : Int32)), .unset, .unset, .unset, .unset, .unset] [])
  refine own_st (fun _ k => XS.aconstNull X0.here hx rfl (hb hby own_d1_0) k) ?_
  show own_Go _ _ _ _ T0 (mkF m 1 #[.val (.int (0 : Int32)), .val (.int (1 : Int32)), .unset, .unset, .unset, .unset, .unset] [.null])
  refine own_st (fun _ k => XS.astoreN X0.here hx rfl (hb hby own_d1_1) rfl rfl (l' := #[.val (.int (0 : Int32)), .val (.int (1 : Int32)), .val .null, .unset, .unset, .unset, .unset]) rfl k) ?_
  show own_Go _ _ _ _ T0 (mkF m 2 #[.val (.int (0 : Int32)), .val (.int (1 : Int32)), .val .null, .unset, .unset, .unset, .unset] [])
  obtain ⟨v1, T1, L1, hQ1, X1, st1⟩ := own_callS X0 hx hZ (y := (⟨"com/example/siringa/siringa/Multiplicity", "values", "()[Lcom/example/siringa/siringa/Multiplicity;"⟩ : MethodName)) hown (own_w4 hw) (own_w5 hw) (own_w2 hw) (own_w6 hw) (by decide) (own_vals l hw [] wv w0 w1 w2 w3 kv h0 n0 (Nat.le_trans Z0 O0.1) (Sv.ext O0) (Vv.ext O0) (Ev.ext O0)) e0 (g := (mkF m 2 #[.val (.int (0 : Int32)), .val (.int (1 : Int32)), .val .null, .unset, .unset, .unset, .unset] [])) rfl (by rw [hml]; rfl) (argsL := []) (rest := []) (lenOf own_pd0 rfl) rfl rfl (W := 0) (Nat.le_of_eq rfl) (hb hby own_d1_2) (by decide) (by decide) (by decide) (by decide)
  obtain ⟨bv, kb, rfl, N1, Et1, gb, sb, Vb⟩ := hQ1
  have O1 := own_extt O0 Et1
  have N1' := Fr.app N0 N1
  refine own_st st1 ?_
  show own_Go _ _ _ _ T1 (mkF m 5 #[.val (.int (0 : Int32)), .val (.int (1 : Int32)), .val .null, .unset, .unset, .unset, .unset] [(.ref bv)])
  refine own_st (fun _ k => XS.astoreN X1.here hx rfl (hb hby own_d1_5) rfl rfl (l' := #[.val (.int (0 : Int32)), .val (.int (1 : Int32)), .val .null, .val (.ref bv), .unset, .unset, .unset]) rfl k) ?_
  show own_Go _ _ _ _ T1 (mkF m 6 #[.val (.int (0 : Int32)), .val (.int (1 : Int32)), .val .null, .val (.ref bv), .unset, .unset, .unset] [])
  refine own_st (fun _ k => XS.aloadN X1.here hx rfl (hb hby own_d1_6) rfl rfl k) ?_
  show own_Go _ _ _ _ T1 (mkF m 7 #[.val (.int (0 : Int32)), .val (.int (1 : Int32)), .val .null, .val (.ref bv), .unset, .unset, .unset] [(.ref bv)])
  refine own_st (own_len X1 hx hZ rfl Vb (g := (mkF m 7 #[.val (.int (0 : Int32)), .val (.int (1 : Int32)), .val .null, .val (.ref bv), .unset, .unset, .unset] [(.ref bv)])) rfl rfl (hb hby own_d1_7)) ?_
  show own_Go _ _ _ _ T1 (mkF m 8 #[.val (.int (0 : Int32)), .val (.int (1 : Int32)), .val .null, .val (.ref bv), .unset, .unset, .unset] [(.int (4 : Int32))])
  refine own_st (fun _ k => XS.istore X1.here hx rfl (hb hby own_d1_8) rfl (l' := #[.val (.int (0 : Int32)), .val (.int (1 : Int32)), .val .null, .val (.ref bv), .val (.int (4 : Int32)), .unset, .unset]) rfl k) ?_
  show own_Go _ _ _ _ T1 (mkF m 10 #[.val (.int (0 : Int32)), .val (.int (1 : Int32)), .val .null, .val (.ref bv), .val (.int (4 : Int32)), .unset, .unset] [])
  refine own_st (fun _ k => XS.iconst X1.here hx rfl (hb hby own_d1_10) k) ?_
  show own_Go _ _ _ _ T1 (mkF m 11 #[.val (.int (0 : Int32)), .val (.int (1 : Int32)), .val .null, .val (.ref bv), .val (.int (4 : Int32)), .unset, .unset] [(.int (0 : Int32))])
  refine own_st (fun _ k => XS.istore X1.here hx rfl (hb hby own_d1_11) rfl (l' := #[.val (.int (0 : Int32)), .val (.int (1 : Int32)), .val .null, .val (.ref bv), .val (.int (4 : Int32)), .val (.int (0 : Int32)), .unset]) rfl k) ?_
  show own_Go _ _ _ _ T1 (mkF m 13 #[.val (.int (0 : Int32)), .val (.int (1 : Int32)), .val .null, .val (.ref bv), .val (.int (4 : Int32)), .val (.int (0 : Int32)), .unset] [])
  refine own_st (fun _ k => XS.iload X1.here hx rfl (hb hby own_d1_13) rfl k) ?_
  show own_Go _ _ _ _ T1 (mkF m 15 #[.val (.int (0 : Int32)), .val (.int (1 : Int32)), .val .null, .val (.ref bv), .val (.int (4 : Int32)), .val (.int (0 : Int32)), .unset] [(.int (0 : Int32))])
  refine own_st (fun _ k => XS.iload X1.here hx rfl (hb hby own_d1_15) rfl k) ?_
  show own_Go _ _ _ _ T1 (mkF m 17 #[.val (.int (0 : Int32)), .val (.int (1 : Int32)), .val .null, .val (.ref bv), .val (.int (4 : Int32)), .val (.int (0 : Int32)), .unset] [(.int (4 : Int32)), (.int (0 : Int32))])
  refine own_st (fun _ k => XS.icmpNo X1.here hx rfl (hb hby own_d1_17) rfl (tlt (by decide : (0 : Int32) < (4 : Int32))).2.1 k) ?_
  show own_Go _ _ _ _ T1 (mkF m 20 #[.val (.int (0 : Int32)), .val (.int (1 : Int32)), .val .null, .val (.ref bv), .val (.int (4 : Int32)), .val (.int (0 : Int32)), .unset] [])
  refine own_st (fun _ k => XS.aloadN X1.here hx rfl (hb hby own_d1_20) rfl rfl k) ?_
  show own_Go _ _ _ _ T1 (mkF m 21 #[.val (.int (0 : Int32)), .val (.int (1 : Int32)), .val .null, .val (.ref bv), .val (.int (4 : Int32)), .val (.int (0 : Int32)), .unset] [(.ref bv)])
  refine own_st (fun _ k => XS.iload X1.here hx rfl (hb hby own_d1_21) rfl k) ?_
  show own_Go _ _ _ _ T1 (mkF m 23 #[.val (.int (0 : Int32)), .val (.int (1 : Int32)), .val .null, .val (.ref bv), .val (.int (4 : Int32)), .val (.int (0 : Int32)), .unset] [(.int (0 : Int32)), (.ref bv)])
  refine own_st (own_ldR X1 hx hZ rfl Vb rfl (j := (0 : Int32)) (by decide) (v := (.ref w0)) rfl (g := (mkF m 23 #[.val (.int (0 : Int32)), .val (.int (1 : Int32)), .val .null, .val (.ref bv), .val (.int (4 : Int32)), .val (.int (0 : Int32)), .unset] [(.int (0 : Int32)), (.ref bv)])) rfl rfl (hb hby own_d1_23)) ?_
  show own_Go _ _ _ _ T1 (mkF m 24 #[.val (.int (0 : Int32)), .val (.int (1 : Int32)), .val .null, .val (.ref bv), .val (.int (4 : Int32)), .val (.int (0 : Int32)), .unset] [(.ref w0)])
  refine own_st (fun _ k => XS.astore X1.here hx rfl (hb hby own_d1_24) rfl rfl (l' := #[.val (.int (0 : Int32)), .val (.int (1 : Int32)), .val .null, .val (.ref bv), .val (.int (4 : Int32)), .val (.int (0 : Int32)), .val (.ref w0)]) rfl k) ?_
  show own_Go _ _ _ _ T1 (mkF m 26 #[.val (.int (0 : Int32)), .val (.int (1 : Int32)), .val .null, .val (.ref bv), .val (.int (4 : Int32)), .val (.int (0 : Int32)), .val (.ref w0)] [])
  refine own_st (fun _ k => XS.aload X1.here hx rfl (hb hby own_d1_26) rfl rfl k) ?_
  show own_Go _ _ _ _ T1 (mkF m 28 #[.val (.int (0 : Int32)), .val (.int (1 : Int32)), .val .null, .val (.ref bv), .val (.int (4 : Int32)), .val (.int (0 : Int32)), .val (.ref w0)] [(.ref w0)])
  obtain ⟨T2, X2, e2, st2⟩ := getF X1 hx hZ hown (host := "") (Or.inl (own_w23 hw)) Via.refl rfl (Fr0.ext O1) (g := (mkF m 28 #[.val (.int (0 : Int32)), .val (.int (1 : Int32)), .val .null, .val (.ref bv), .val (.int (4 : Int32)), .val (.int (0 : Int32)), .val (.ref w0)] [(.ref w0)])) rfl rfl (hb hby own_d1_28)
  refine own_st st2 ?_
  show own_Go _ _ _ _ T2 (mkF m 31 #[.val (.int (0 : Int32)), .val (.int (1 : Int32)), .val .null, .val (.ref bv), .val (.int (4 : Int32)), .val (.int (0 : Int32)), .val (.ref w0)] [(.int (1 : Int32))])
  refine own_st (fun _ k => XS.iloadN X2.here hx rfl (hb hby own_d1_31) rfl k) ?_
  show own_Go _ _ _ _ T2 (mkF m 32 #[.val (.int (0 : Int32)), .val (.int (1 : Int32)), .val .null, .val (.ref bv), .val (.int (4 : Int32)), .val (.int (0 : Int32)), .val (.ref w0)] [(.int (0 : Int32)), (.int (1 : Int32))])
  refine own_st (fun _ k => XS.icmpYes X2.here hx rfl (pc0 := 32) (pc' := 47) rfl (hb hby own_d1_32) rfl (feq (by decide : ¬ ((1 : Int32) = (0 : Int32)))).2 (by decide) (by decide) k) ?_
  show own_Go _ _ _ _ T2 (mkF m 47 #[.val (.int (0 : Int32)), .val (.int (1 : Int32)), .val .null, .val (.ref bv), .val (.int (4 : Int32)), .val (.int (0 : Int32)), .val (.ref w0)] [])
  refine own_st (fun _ k => XS.iinc X2.here hx rfl (hb hby own_d1_47) rfl (l' := #[.val (.int (0 : Int32)), .val (.int (1 : Int32)), .val .null, .val (.ref bv), .val (.int (4 : Int32)), .val (.int ((0 : Int32) + (1 : Int32))), .val (.ref w0)]) rfl k) ?_
  show own_Go _ _ _ _ T2 (mkF m 50 #[.val (.int (0 : Int32)), .val (.int (1 : Int32)), .val .null, .val (.ref bv), .val (.int (4 : Int32)), .val (.int ((0 : Int32) + (1 : Int32))), .val (.ref w0)] [])
  rw [show ((0 : Int32) + (1 : Int32)) = (1 : Int32) from by decide]
  show own_Go _ _ _ _ T2 (mkF m 50 #[.val (.int (0 : Int32)), .val (.int (1 : Int32)), .val .null, .val (.ref bv), .val (.int (4 : Int32)), .val (.int (1 : Int32)), .val (.ref w0)] [])
  refine own_st (fun _ k => XS.goto X2.here hx rfl (pc0 := 50) (pc' := 13) rfl (hb hby own_d1_50) (by decide) (by decide) k) ?_
  show own_Go _ _ _ _ T2 (mkF m 13 #[.val (.int (0 : Int32)), .val (.int (1 : Int32)), .val .null, .val (.ref bv), .val (.int (4 : Int32)), .val (.int (1 : Int32)), .val (.ref w0)] [])
  refine own_st (fun _ k => XS.iload X2.here hx rfl (hb hby own_d1_13) rfl k) ?_
  show own_Go _ _ _ _ T2 (mkF m 15 #[.val (.int (0 : Int32)), .val (.int (1 : Int32)), .val .null, .val (.ref bv), .val (.int (4 : Int32)), .val (.int (1 : Int32)), .val (.ref w0)] [(.int (1 : Int32))])
  refine own_st (fun _ k => XS.iload X2.here hx rfl (hb hby own_d1_15) rfl k) ?_
  show own_Go _ _ _ _ T2 (mkF m 17 #[.val (.int (0 : Int32)), .val (.int (1 : Int32)), .val .null, .val (.ref bv), .val (.int (4 : Int32)), .val (.int (1 : Int32)), .val (.ref w0)] [(.int (4 : Int32)), (.int (1 : Int32))])
  refine own_st (fun _ k => XS.icmpNo X2.here hx rfl (hb hby own_d1_17) rfl (tlt (by decide : (1 : Int32) < (4 : Int32))).2.1 k) ?_
  show own_Go _ _ _ _ T2 (mkF m 20 #[.val (.int (0 : Int32)), .val (.int (1 : Int32)), .val .null, .val (.ref bv), .val (.int (4 : Int32)), .val (.int (1 : Int32)), .val (.ref w0)] [])
  refine own_st (fun _ k => XS.aloadN X2.here hx rfl (hb hby own_d1_20) rfl rfl k) ?_
  show own_Go _ _ _ _ T2 (mkF m 21 #[.val (.int (0 : Int32)), .val (.int (1 : Int32)), .val .null, .val (.ref bv), .val (.int (4 : Int32)), .val (.int (1 : Int32)), .val (.ref w0)] [(.ref bv)])
  refine own_st (fun _ k => XS.iload X2.here hx rfl (hb hby own_d1_21) rfl k) ?_
  show own_Go _ _ _ _ T2 (mkF m 23 #[.val (.int (0 : Int32)), .val (.int (1 : Int32)), .val .null, .val (.ref bv), .val (.int (4 : Int32)), .val (.int (1 : Int32)), .val (.ref w0)] [(.int (1 : Int32)), (.ref bv)])
  refine own_st (own_ldR X2 hx hZ e2 Vb rfl (j := (1 : Int32)) (by decide) (v := (.ref w1)) rfl (g := (mkF m 23 #[.val (.int (0 : Int32)), .val (.int (1 : Int32)), .val .null, .val (.ref bv), .val (.int (4 : Int32)), .val (.int (1 : Int32)), .val (.ref w0)] [(.int (1 : Int32)), (.ref bv)])) rfl rfl (hb hby own_d1_23)) ?_
  show own_Go _ _ _ _ T2 (mkF m 24 #[.val (.int (0 : Int32)), .val (.int (1 : Int32)), .val .null, .val (.ref bv), .val (.int (4 : Int32)), .val (.int (1 : Int32)), .val (.ref w0)] [(.ref w1)])
  refine own_st (fun _ k => XS.astore X2.here hx rfl (hb hby own_d1_24) rfl rfl (l' := #[.val (.int (0 : Int32)), .val (.int (1 : Int32)), .val .null, .val (.ref bv), .val (.int (4 : Int32)), .val (.int (1 : Int32)), .val (.ref w1)]) rfl k) ?_
  show own_Go _ _ _ _ T2 (mkF m 26 #[.val (.int (0 : Int32)), .val (.int (1 : Int32)), .val .null, .val (.ref bv), .val (.int (4 : Int32)), .val (.int (1 : Int32)), .val (.ref w1)] [])
  refine own_st (fun _ k => XS.aload X2.here hx rfl (hb hby own_d1_26) rfl rfl k) ?_
  show own_Go _ _ _ _ T2 (mkF m 28 #[.val (.int (0 : Int32)), .val (.int (1 : Int32)), .val .null, .val (.ref bv), .val (.int (4 : Int32)), .val (.int (1 : Int32)), .val (.ref w1)] [(.ref w1)])
  obtain ⟨T3, X3, e3, st3⟩ := getF X2 hx hZ hown (host := "") (Or.inl (own_w23 hw)) Via.refl e2 (Fr1.ext O1) (g := (mkF m 28 #[.val (.int (0 : Int32)), .val (.int (1 : Int32)), .val .null, .val (.ref bv), .val (.int (4 : Int32)), .val (.int (1 : Int32)), .val (.ref w1)] [(.ref w1)])) rfl rfl (hb hby own_d1_28)
  refine own_st st3 ?_
  show own_Go _ _ _ _ T3 (mkF m 31 #[.val (.int (0 : Int32)), .val (.int (1 : Int32)), .val .null, .val (.ref bv), .val (.int (4 : Int32)), .val (.int (1 : Int32)), .val (.ref w1)] [(.int (0 : Int32))])
  refine own_st (fun _ k => XS.iloadN X3.here hx rfl (hb hby own_d1_31) rfl k) ?_
  show own_Go _ _ _ _ T3 (mkF m 32 #[.val (.int (0 : Int32)), .val (.int (1 : Int32)), .val .null, .val (.ref bv), .val (.int (4 : Int32)), .val (.int (1 : Int32)), .val (.ref w1)] [(.int (0 : Int32)), (.int (0 : Int32))])
  refine own_st (fun _ k => XS.icmpNo X3.here hx rfl (hb hby own_d1_32) rfl (teq (by decide : (0 : Int32) = (0 : Int32))).2 k) ?_
  show own_Go _ _ _ _ T3 (mkF m 35 #[.val (.int (0 : Int32)), .val (.int (1 : Int32)), .val .null, .val (.ref bv), .val (.int (4 : Int32)), .val (.int (1 : Int32)), .val (.ref w1)] [])
  refine own_st (fun _ k => XS.aload X3.here hx rfl (hb hby own_d1_35) rfl rfl k) ?_
  show own_Go _ _ _ _ T3 (mkF m 37 #[.val (.int (0 : Int32)), .val (.int (1 : Int32)), .val .null, .val (.ref bv), .val (.int (4 : Int32)), .val (.int (1 : Int32)), .val (.ref w1)] [(.ref w1)])
  obtain ⟨T4, X4, e4, st4⟩ := getF X3 hx hZ hown (host := "") (Or.inl (own_w25 hw)) Via.refl e3 (Fm1.ext O1) (g := (mkF m 37 #[.val (.int (0 : Int32)), .val (.int (1 : Int32)), .val .null, .val (.ref bv), .val (.int (4 : Int32)), .val (.int (1 : Int32)), .val (.ref w1)] [(.ref w1)])) rfl rfl (hb hby own_d1_37)
  refine own_st st4 ?_
  show own_Go _ _ _ _ T4 (mkF m 40 #[.val (.int (0 : Int32)), .val (.int (1 : Int32)), .val .null, .val (.ref bv), .val (.int (4 : Int32)), .val (.int (1 : Int32)), .val (.ref w1)] [(.int (0 : Int32))])
  refine own_st (fun _ k => XS.iloadN X4.here hx rfl (hb hby own_d1_40) rfl k) ?_
  show own_Go _ _ _ _ T4 (mkF m 41 #[.val (.int (0 : Int32)), .val (.int (1 : Int32)), .val .null, .val (.ref bv), .val (.int (4 : Int32)), .val (.int (1 : Int32)), .val (.ref w1)] [(.int (1 : Int32)), (.int (0 : Int32))])
  refine own_st (fun _ k => XS.icmpYes X4.here hx rfl (pc0 := 41) (pc' := 47) rfl (hb hby own_d1_41) rfl (feq (by decide : ¬ ((0 : Int32) = (1 : Int32)))).2 (by decide) (by decide) k) ?_
  show own_Go _ _ _ _ T4 (mkF m 47 #[.val (.int (0 : Int32)), .val (.int (1 : Int32)), .val .null, .val (.ref bv), .val (.int (4 : Int32)), .val (.int (1 : Int32)), .val (.ref w1)] [])
  refine own_st (fun _ k => XS.iinc X4.here hx rfl (hb hby own_d1_47) rfl (l' := #[.val (.int (0 : Int32)), .val (.int (1 : Int32)), .val .null, .val (.ref bv), .val (.int (4 : Int32)), .val (.int ((1 : Int32) + (1 : Int32))), .val (.ref w1)]) rfl k) ?_
  show own_Go _ _ _ _ T4 (mkF m 50 #[.val (.int (0 : Int32)), .val (.int (1 : Int32)), .val .null, .val (.ref bv), .val (.int (4 : Int32)), .val (.int ((1 : Int32) + (1 : Int32))), .val (.ref w1)] [])
  rw [show ((1 : Int32) + (1 : Int32)) = (2 : Int32) from by decide]
  show own_Go _ _ _ _ T4 (mkF m 50 #[.val (.int (0 : Int32)), .val (.int (1 : Int32)), .val .null, .val (.ref bv), .val (.int (4 : Int32)), .val (.int (2 : Int32)), .val (.ref w1)] [])
  refine own_st (fun _ k => XS.goto X4.here hx rfl (pc0 := 50) (pc' := 13) rfl (hb hby own_d1_50) (by decide) (by decide) k) ?_
  show own_Go _ _ _ _ T4 (mkF m 13 #[.val (.int (0 : Int32)), .val (.int (1 : Int32)), .val .null, .val (.ref bv), .val (.int (4 : Int32)), .val (.int (2 : Int32)), .val (.ref w1)] [])
  refine own_st (fun _ k => XS.iload X4.here hx rfl (hb hby own_d1_13) rfl k) ?_
  show own_Go _ _ _ _ T4 (mkF m 15 #[.val (.int (0 : Int32)), .val (.int (1 : Int32)), .val .null, .val (.ref bv), .val (.int (4 : Int32)), .val (.int (2 : Int32)), .val (.ref w1)] [(.int (2 : Int32))])
  refine own_st (fun _ k => XS.iload X4.here hx rfl (hb hby own_d1_15) rfl k) ?_
  show own_Go _ _ _ _ T4 (mkF m 17 #[.val (.int (0 : Int32)), .val (.int (1 : Int32)), .val .null, .val (.ref bv), .val (.int (4 : Int32)), .val (.int (2 : Int32)), .val (.ref w1)] [(.int (4 : Int32)), (.int (2 : Int32))])
  refine own_st (fun _ k => XS.icmpNo X4.here hx rfl (hb hby own_d1_17) rfl (tlt (by decide : (2 : Int32) < (4 : Int32))).2.1 k) ?_
  show own_Go _ _ _ _ T4 (mkF m 20 #[.val (.int (0 : Int32)), .val (.int (1 : Int32)), .val .null, .val (.ref bv), .val (.int (4 : Int32)), .val (.int (2 : Int32)), .val (.ref w1)] [])
  refine own_st (fun _ k => XS.aloadN X4.here hx rfl (hb hby own_d1_20) rfl rfl k) ?_
  show own_Go _ _ _ _ T4 (mkF m 21 #[.val (.int (0 : Int32)), .val (.int (1 : Int32)), .val .null, .val (.ref bv), .val (.int (4 : Int32)), .val (.int (2 : Int32)), .val (.ref w1)] [(.ref bv)])
  refine own_st (fun _ k => XS.iload X4.here hx rfl (hb hby own_d1_21) rfl k) ?_
  show own_Go _ _ _ _ T4 (mkF m 23 #[.val (.int (0 : Int32)), .val (.int (1 : Int32)), .val .null, .val (.ref bv), .val (.int (4 : Int32)), .val (.int (2 : Int32)), .val (.ref w1)] [(.int (2 : Int32)), (.ref bv)])
  refine own_st (own_ldR X4 hx hZ e4 Vb rfl (j := (2 : Int32)) (by decide) (v := (.ref w2)) rfl (g := (mkF m 23 #[.val (.int (0 : Int32)), .val (.int (1 : Int32)), .val .null, .val (.ref bv), .val (.int (4 : Int32)), .val (.int (2 : Int32)), .val (.ref w1)] [(.int (2 : Int32)), (.ref bv)])) rfl rfl (hb hby own_d1_23)) ?_
  show own_Go _ _ _ _ T4 (mkF m 24 #[.val (.int (0 : Int32)), .val (.int (1 : Int32)), .val .null, .val (.ref bv), .val (.int (4 : Int32)), .val (.int (2 : Int32)), .val (.ref w1)] [(.ref w2)])
  refine own_st (fun _ k => XS.astore X4.here hx rfl (hb hby own_d1_24) rfl rfl (l' := #[.val (.int (0 : Int32)), .val (.int (1 : Int32)), .val .null, .val (.ref bv), .val (.int (4 : Int32)), .val (.int (2 : Int32)), .val (.ref w2)]) rfl k) ?_
  show own_Go _ _ _ _ T4 (mkF m 26 #[.val (.int (0 : Int32)), .val (.int (1 : Int32)), .val .null, .val (.ref bv), .val (.int (4 : Int32)), .val (.int (2 : Int32)), .val (.ref w2)] [])
  refine own_st (fun _ k => XS.aload X4.here hx rfl (hb hby own_d1_26) rfl rfl k) ?_
  show own_Go _ _ _ _ T4 (mkF m 28 #[.val (.int (0 : Int32)), .val (.int (1 : Int32)), .val .null, .val (.ref bv), .val (.int (4 : Int32)), .val (.int (2 : Int32)), .val (.ref w2)] [(.ref w2)])
  obtain ⟨T5, X5, e5, st5⟩ := getF X4 hx hZ hown (host := "") (Or.inl (own_w23 hw)) Via.refl e4 (Fr2.ext O1) (g := (mkF m 28 #[.val (.int (0 : Int32)), .val (.int (1 : Int32)), .val .null, .val (.ref bv), .val (.int (4 : Int32)), .val (.int (2 : Int32)), .val (.ref w2)] [(.ref w2)])) rfl rfl (hb hby own_d1_28)
  refine own_st st5 ?_
  show own_Go _ _ _ _ T5 (mkF m 31 #[.val (.int (0 : Int32)), .val (.int (1 : Int32)), .val .null, .val (.ref bv), .val (.int (4 : Int32)), .val (.int (2 : Int32)), .val (.ref w2)] [(.int (1 : Int32))])
  refine own_st (fun _ k => XS.iloadN X5.here hx rfl (hb hby own_d1_31) rfl k) ?_
  show own_Go _ _ _ _ T5 (mkF m 32 #[.val (.int (0 : Int32)), .val (.int (1 : Int32)), .val .null, .val (.ref bv), .val (.int (4 : Int32)), .val (.int (2 : Int32)), .val (.ref w2)] [(.int (0 : Int32)), (.int (1 : Int32))])
  refine own_st (fun _ k => XS.icmpYes X5.here hx rfl (pc0 := 32) (pc' := 47) rfl (hb hby own_d1_32) rfl (feq (by decide : ¬ ((1 : Int32) = (0 : Int32)))).2 (by decide) (by decide) k) ?_
  show own_Go _ _ _ _ T5 (mkF m 47 #[.val (.int (0 : Int32)), .val (.int (1 : Int32)), .val .null, .val (.ref bv), .val (.int (4 : Int32)), .val (.int (2 : Int32)), .val (.ref w2)] [])
  refine own_st (fun _ k => XS.iinc X5.here hx rfl (hb hby own_d1_47) rfl (l' := #[.val (.int (0 : Int32)), .val (.int (1 : Int32)), .val .null, .val (.ref bv), .val (.int (4 : Int32)), .val (.int ((2 : Int32) + (1 : Int32))), .val (.ref w2)]) rfl k) ?_
  show own_Go _ _ _ _ T5 (mkF m 50 #[.val (.int (0 : Int32)), .val (.int (1 : Int32)), .val .null, .val (.ref bv), .val (.int (4 : Int32)), .val (.int ((2 : Int32) + (1 : Int32))), .val (.ref w2)] [])
  rw [show ((2 : Int32) + (1 : Int32)) = (3 : Int32) from by decide]
  show own_Go _ _ _ _ T5 (mkF m 50 #[.val (.int (0 : Int32)), .val (.int (1 : Int32)), .val .null, .val (.ref bv), .val (.int (4 : Int32)), .val (.int (3 : Int32)), .val (.ref w2)] [])
  refine own_st (fun _ k => XS.goto X5.here hx rfl (pc0 := 50) (pc' := 13) rfl (hb hby own_d1_50) (by decide) (by decide) k) ?_
  show own_Go _ _ _ _ T5 (mkF m 13 #[.val (.int (0 : Int32)), .val (.int (1 : Int32)), .val .null, .val (.ref bv), .val (.int (4 : Int32)), .val (.int (3 : Int32)), .val (.ref w2)] [])
  refine own_st (fun _ k => XS.iload X5.here hx rfl (hb hby own_d1_13) rfl k) ?_
  show own_Go _ _ _ _ T5 (mkF m 15 #[.val (.int (0 : Int32)), .val (.int (1 : Int32)), .val .null, .val (.ref bv), .val (.int (4 : Int32)), .val (.int (3 : Int32)), .val (.ref w2)] [(.int (3 : Int32))])
  refine own_st (fun _ k => XS.iload X5.here hx rfl (hb hby own_d1_15) rfl k) ?_
  show own_Go _ _ _ _ T5 (mkF m 17 #[.val (.int (0 : Int32)), .val (.int (1 : Int32)), .val .null, .val (.ref bv), .val (.int (4 : Int32)), .val (.int (3 : Int32)), .val (.ref w2)] [(.int (4 : Int32)), (.int (3 : Int32))])
  refine own_st (fun _ k => XS.icmpNo X5.here hx rfl (hb hby own_d1_17) rfl (tlt (by decide : (3 : Int32) < (4 : Int32))).2.1 k) ?_
  show own_Go _ _ _ _ T5 (mkF m 20 #[.val (.int (0 : Int32)), .val (.int (1 : Int32)), .val .null, .val (.ref bv), .val (.int (4 : Int32)), .val (.int (3 : Int32)), .val (.ref w2)] [])
  refine own_st (fun _ k => XS.aloadN X5.here hx rfl (hb hby own_d1_20) rfl rfl k) ?_
  show own_Go _ _ _ _ T5 (mkF m 21 #[.val (.int (0 : Int32)), .val (.int (1 : Int32)), .val .null, .val (.ref bv), .val (.int (4 : Int32)), .val (.int (3 : Int32)), .val (.ref w2)] [(.ref bv)])
  refine own_st (fun _ k => XS.iload X5.here hx rfl (hb hby own_d1_21) rfl k) ?_
  show own_Go _ _ _ _ T5 (mkF m 23 #[.val (.int (0 : Int32)), .val (.int (1 : Int32)), .val .null, .val (.ref bv), .val (.int (4 : Int32)), .val (.int (3 : Int32)), .val (.ref w2)] [(.int (3 : Int32)), (.ref bv)])
  refine own_st (own_ldR X5 hx hZ e5 Vb rfl (j := (3 : Int32)) (by decide) (v := (.ref w3)) rfl (g := (mkF m 23 #[.val (.int (0 : Int32)), .val (.int (1 : Int32)), .val .null, .val (.ref bv), .val (.int (4 : Int32)), .val (.int (3 : Int32)), .val (.ref w2)] [(.int (3 : Int32)), (.ref bv)])) rfl rfl (hb hby own_d1_23)) ?_
  show own_Go _ _ _ _ T5 (mkF m 24 #[.val (.int (0 : Int32)), .val (.int (1 : Int32)), .val .null, .val (.ref bv), .val (.int (4 : Int32)), .val (.int (3 : Int32)), .val (.ref w2)] [(.ref w3)])
  refine own_st (fun _ k => XS.astore X5.here hx rfl (hb hby own_d1_24) rfl rfl (l' := #[.val (.int (0 : Int32)), .val (.int (1 : Int32)), .val .null, .val (.ref bv), .val (.int (4 : Int32)), .val (.int (3 : Int32)), .val (.ref w3)]) rfl k) ?_
  show own_Go _ _ _ _ T5 (mkF m 26 #[.val (.int (0 : Int32)), .val (.int (1 : Int32)), .val .null, .val (.ref bv), .val (.int (4 : Int32)), .val (.int (3 : Int32)), .val (.ref w3)] [])
  refine own_st (fun _ k => XS.aload X5.here hx rfl (hb hby own_d1_26) rfl rfl k) ?_
  show own_Go _ _ _ _ T5 (mkF m 28 #[.val (.int (0 : Int32)), .val (.int (1 : Int32)), .val .null, .val (.ref bv), .val (.int (4 : Int32)), .val (.int (3 : Int32)), .val (.ref w3)] [(.ref w3)])
  obtain ⟨T6, X6, e6, st6⟩ := getF X5 hx hZ hown (host := "") (Or.inl (own_w23 hw)) Via.refl e5 (Fr3.ext O1) (g := (mkF m 28 #[.val (.int (0 : Int32)), .val (.int (1 : Int32)), .val .null, .val (.ref bv), .val (.int (4 : Int32)), .val (.int (3 : Int32)), .val (.ref w3)] [(.ref w3)])) rfl rfl (hb hby own_d1_28)
  refine own_st st6 ?_
  show own_Go _ _ _ _ T6 (mkF m 31 #[.val (.int (0 : Int32)), .val (.int (1 : Int32)), .val .null, .val (.ref bv), .val (.int (4 : Int32)), .val (.int (3 : Int32)), .val (.ref w3)] [(.int (0 : Int32))])
  refine own_st (fun _ k => XS.iloadN X6.here hx rfl (hb hby own_d1_31) rfl k) ?_
  show own_Go _ _ _ _ T6 (mkF m 32 #[.val (.int (0 : Int32)), .val (.int (1 : Int32)), .val .null, .val (.ref bv), .val (.int (4 : Int32)), .val (.int (3 : Int32)), .val (.ref w3)] [(.int (0 : Int32)), (.int (0 : Int32))])
  refine own_st (fun _ k => XS.icmpNo X6.here hx rfl (hb hby own_d1_32) rfl (teq (by decide : (0 : Int32) = (0 : Int32))).2 k) ?_
  show own_Go _ _ _ _ T6 (mkF m 35 #[.val (.int (0 : Int32)), .val (.int (1 : Int32)), .val .null, .val (.ref bv), .val (.int (4 : Int32)), .val (.int (3 : Int32)), .val (.ref w3)] [])
  refine own_st (fun _ k => XS.aload X6.here hx rfl (hb hby own_d1_35) rfl rfl k) ?_
  show own_Go _ _ _ _ T6 (mkF m 37 #[.val (.int (0 : Int32)), .val (.int (1 : Int32)), .val .null, .val (.ref bv), .val (.int (4 : Int32)), .val (.int (3 : Int32)), .val (.ref w3)] [(.ref w3)])
  obtain ⟨T7, X7, e7, st7⟩ := getF X6 hx hZ hown (host := "") (Or.inl (own_w25 hw)) Via.refl e6 (Fm3.ext O1) (g := (mkF m 37 #[.val (.int (0 : Int32)), .val (.int (1 : Int32)), .val .null, .val (.ref bv), .val (.int (4 : Int32)), .val (.int (3 : Int32)), .val (.ref w3)] [(.ref w3)])) rfl rfl (hb hby own_d1_37)
  refine own_st st7 ?_
  show own_Go _ _ _ _ T7 (mkF m 40 #[.val (.int (0 : Int32)), .val (.int (1 : Int32)), .val .null, .val (.ref bv), .val (.int (4 : Int32)), .val (.int (3 : Int32)), .val (.ref w3)] [(.int (1 : Int32))])
  refine own_st (fun _ k => XS.iloadN X7.here hx rfl (hb hby own_d1_40) rfl k) ?_
  show own_Go _ _ _ _ T7 (mkF m 41 #[.val (.int (0 : Int32)), .val (.int (1 : Int32)), .val .null, .val (.ref bv), .val (.int (4 : Int32)), .val (.int (3 : Int32)), .val (.ref w3)] [(.int (1 : Int32)), (.int (1 : Int32))])
  refine own_st (fun _ k => XS.icmpNo X7.here hx rfl (hb hby own_d1_41) rfl (teq (by decide : (1 : Int32) = (1 : Int32))).2 k) ?_
  show own_Go _ _ _ _ T7 (mkF m 44 #[.val (.int (0 : Int32)), .val (.int (1 : Int32)), .val .null, .val (.ref bv), .val (.int (4 : Int32)), .val (.int (3 : Int32)), .val (.ref w3)] [])
  refine own_st (fun _ k => XS.aload X7.here hx rfl (hb hby own_d1_44) rfl rfl k) ?_
  show own_Go _ _ _ _ T7 (mkF m 46 #[.val (.int (0 : Int32)), .val (.int (1 : Int32)), .val .null, .val (.ref bv), .val (.int (4 : Int32)), .val (.int (3 : Int32)), .val (.ref w3)] [(.ref w3)])
  refine own_st (fun _ k => XS.astoreN X7.here hx rfl (hb hby own_d1_46) rfl rfl (l' := #[.val (.int (0 : Int32)), .val (.int (1 : Int32)), .val (.ref w3), .val (.ref bv), .val (.int (4 : Int32)), .val (.int (3 : Int32)), .val (.ref w3)]) rfl k) ?_
  show own_Go _ _ _ _ T7 (mkF m 47 #[.val (.int (0 : Int32)), .val (.int (1 : Int32)), .val (.ref w3), .val (.ref bv), .val (.int (4 : Int32)), .val (.int (3 : Int32)), .val (.ref w3)] [])
  refine own_st (fun _ k => XS.iinc X7.here hx rfl (hb hby own_d1_47) rfl (l' := #[.val (.int (0 : Int32)), .val (.int (1 : Int32)), .val (.ref w3), .val (.ref bv), .val (.int (4 : Int32)), .val (.int ((3 : Int32) + (1 : Int32))), .val (.ref w3)]) rfl k) ?_
  show own_Go _ _ _ _ T7 (mkF m 50 #[.val (.int (0 : Int32)), .val (.int (1 : Int32)), .val (.ref w3), .val (.ref bv), .val (.int (4 : Int32)), .val (.int ((3 : Int32) + (1 : Int32))), .val (.ref w3)] [])
  rw [show ((3 : Int32) + (1 : Int32)) = (4 : Int32) from by decide]
  show own_Go _ _ _ _ T7 (mkF m 50 #[.val (.int (0 : Int32)), .val (.int (1 : Int32)), .val (.ref w3), .val (.ref bv), .val (.int (4 : Int32)), .val (.int (4 : Int32)), .val (.ref w3)] [])
  refine own_st (fun _ k => XS.goto X7.here hx rfl (pc0 := 50) (pc' := 13) rfl (hb hby own_d1_50) (by decide) (by decide) k) ?_
  show own_Go _ _ _ _ T7 (mkF m 13 #[.val (.int (0 : Int32)), .val (.int (1 : Int32)), .val (.ref w3), .val (.ref bv), .val (.int (4 : Int32)), .val (.int (4 : Int32)), .val (.ref w3)] [])
  refine own_st (fun _ k => XS.iload X7.here hx rfl (hb hby own_d1_13) rfl k) ?_
  show own_Go _ _ _ _ T7 (mkF m 15 #[.val (.int (0 : Int32)), .val (.int (1 : Int32)), .val (.ref w3), .val (.ref bv), .val (.int (4 : Int32)), .val (.int (4 : Int32)), .val (.ref w3)] [(.int (4 : Int32))])
  refine own_st (fun _ k => XS.iload X7.here hx rfl (hb hby own_d1_15) rfl k) ?_
  show own_Go _ _ _ _ T7 (mkF m 17 #[.val (.int (0 : Int32)), .val (.int (1 : Int32)), .val (.ref w3), .val (.ref bv), .val (.int (4 : Int32)), .val (.int (4 : Int32)), .val (.ref w3)] [(.int (4 : Int32)), (.int (4 : Int32))])
  refine own_st (fun _ k => XS.icmpYes X7.here hx rfl (pc0 := 17) (pc' := 53) rfl (hb hby own_d1_17) rfl (flt (by decide : ¬ ((4 : Int32) < (4 : Int32)))).2.1 (by decide) (by decide) k) ?_
  show own_Go _ _ _ _ T7 (mkF m 53 #[.val (.int (0 : Int32)), .val (.int (1 : Int32)), .val (.ref w3), .val (.ref bv), .val (.int (4 : Int32)), .val (.int (4 : Int32)), .val (.ref w3)] [])
  refine own_st (fun _ k => XS.aloadN X7.here hx rfl (hb hby own_d1_53) rfl rfl k) ?_
  show own_Go _ _ _ _ T7 (mkF m 54 #[.val (.int (0 : Int32)), .val (.int (1 : Int32)), .val (.ref w3), .val (.ref bv), .val (.int (4 : Int32)), .val (.int (4 : Int32)), .val (.ref w3)] [(.ref w3)])
  exact own_retA X7 hx hret rfl hlk rfl (hb hby own_d1_54) ⟨rfl, N1', by rw [e7]; exact O1⟩ (by decide) (by decide)
def own_ex3_Q (Z : State) (p1 p2 : Int32) (w : Addr) (h0 : Heap) (n0 : Nat) (v : Option Value) (h : Heap) (L : List Loc) : Prop := v = some (.ref w) ∧ Fr n0 L ∧ h = h0
set_option maxRecDepth 65536 in
set_option maxHeartbeats 40000000 in
theorem own_ex3 (l : Launch) {Z : State} {a0 : Array Value} (hw : own_W Z a0) (ws : List Jvm.Cond) (p1 p2 : Int32) (w : Addr) (h0 : Heap) (n0 : Nat) (Z0 : n0 ≤ h0.size) (hp1 : p1 = (0 : Int32)) (hp2 : p2 = (1 : Int32)) (S : Sta Z h0 "com/example/siringa/siringa/Multiplicity" "ZERO_OR_MORE" "Lcom/example/siringa/siringa/Multiplicity;" (.ref w)) :
    MetFree l (⟨"com/example/siringa/siringa/MultiplicityOfPinLaw", "expected", "(ZZ)Lcom/example/siringa/siringa/Multiplicity;"⟩ : MethodName) (head1 (Jvm.Cond.code (⟨"com/example/siringa/siringa/MultiplicityOfPinLaw", "expected", "(ZZ)Lcom/example/siringa/siringa/Multiplicity;"⟩ : MethodName) method_2_code 2 (some (.object "com/example/siringa/siringa/Multiplicity")) :: ws) ({ frames := 0, cells := 0, slots := 0, locals := 0 } : Room)) (fun a U => a = #[(.int p1), (.int p2)] ∧ Z.Warmed39 U.vm ∧ U.heap = h0) (fun _ _ _ _ _ => True) (fun _ U o U' => ∃ v L, o = .returned v ∧ own_ex3_Q Z p1 p2 w h0 n0 v U'.heap L ∧ FrameEnd U o U' L ({ frames := 0, cells := 0, slots := 0, locals := 0 } : Room).cells ({ frames := 0, cells := 0, slots := 0, locals := 0 } : Room).slots) := by
  refine own_enter (C := ({ frames := 0, cells := 0, slots := 0, locals := 0 } : Room).cells) (S := ({ frames := 0, cells := 0, slots := 0, locals := 0 } : Room).slots) (plainFor_of_name own_pn1) ?_
  intro p e s m below meth c T0 X0 I e0
  obtain ⟨hx, hby, hml, hown, hnm, hret, hlk, hZ⟩ := I
  have N0 := Fr.nil n0
  have O0 := own_extr h0
  refine own_cast (own_ef3 m p1 p2) ?_
  show own_Go _ _ _ _ T0 (mkF m 0 #[.val (.int p1), .val (.int p2)] [])
  rw [hp1, hp2]
  show own_Go _ _ _ _ T0 (mkF m 0 #[.val (.int (0 : Int32)), .val (.int (1 : Int32))] [])
  refine own_st (fun _ k => XS.iloadN X0.here hx rfl (hb hby own_d3_0) rfl k) ?_
  show own_Go _ _ _ _ T0 (mkF m 1 #[.val (.int (0 : Int32)), .val (.int (1 : Int32))] [(.int (0 : Int32))])
  refine own_st (fun _ k => XS.ifYes X0.here hx rfl (pc0 := 1) (pc' := 16) rfl (hb hby own_d3_1) rfl ((if0 _ _).trans (teq (by decide : (0 : Int32) = (0 : Int32))).1) (by decide) (by decide) k) ?_
  show own_Go _ _ _ _ T0 (mkF m 16 #[.val (.int (0 : Int32)), .val (.int (1 : Int32))] [])
  refine own_st (fun _ k => XS.iloadN X0.here hx rfl (hb hby own_d3_16) rfl k) ?_
  show own_Go _ _ _ _ T0 (mkF m 17 #[.val (.int (0 : Int32)), .val (.int (1 : Int32))] [(.int (1 : Int32))])
  refine own_st (fun _ k => XS.ifNo X0.here hx rfl (hb hby own_d3_17) rfl ((if0 _ _).trans (feq (by decide : ¬ ((1 : Int32) = (0 : Int32)))).1) k) ?_
  show own_Go _ _ _ _ T0 (mkF m 20 #[.val (.int (0 : Int32)), .val (.int (1 : Int32))] [])
  obtain ⟨T1, X1, e1, st1⟩ := getS2 X0 hx hZ hown (host := "") (Or.inl (own_w31 hw)) Via.refl e0 (S.ext O0) (g := (mkF m 20 #[.val (.int (0 : Int32)), .val (.int (1 : Int32))] [])) rfl (hb hby own_d3_20)
  refine own_st st1 ?_
  show own_Go _ _ _ _ T1 (mkF m 23 #[.val (.int (0 : Int32)), .val (.int (1 : Int32))] [(.ref w)])
  exact own_retA X1 hx hret rfl hlk rfl (hb hby own_d3_23) ⟨rfl, N0, e1⟩ (by decide) (by decide)
def own_isr_Q (Z : State) (a1 : Addr) (z : Int32) (h0 : Heap) (n0 : Nat) (v : Option Value) (h : Heap) (L : List Loc) : Prop := v = some (.int z) ∧ Fr n0 L ∧ h = h0
set_option maxRecDepth 65536 in
set_option maxHeartbeats 40000000 in
theorem own_isr (l : Launch) {Z : State} {a0 : Array Value} (hw : own_W Z a0) (ws : List Jvm.Cond) (a1 : Addr) (z : Int32) (h0 : Heap) (n0 : Nat) (Z0 : n0 ≤ h0.size) (hz : nar .boolean z = z) (Fz : Fld Z h0 a1 "com/example/siringa/siringa/Multiplicity" "required" "Z" (.int z)) :
    MetFree l (⟨"com/example/siringa/siringa/Multiplicity", "isRequired", "()Z"⟩ : MethodName) (head1 (Jvm.Cond.code (⟨"com/example/siringa/siringa/Multiplicity", "isRequired", "()Z"⟩ : MethodName) prog_6_method_5_code 1 (some .boolean) :: ws) ({ frames := 0, cells := 0, slots := 0, locals := 0 } : Room)) (fun a U => a = #[(.ref a1)] ∧ Z.Warmed39 U.vm ∧ U.heap = h0) (fun _ _ _ _ _ => True) (fun _ U o U' => ∃ v L, o = .returned v ∧ own_isr_Q Z a1 z h0 n0 v U'.heap L ∧ FrameEnd U o U' L ({ frames := 0, cells := 0, slots := 0, locals := 0 } : Room).cells ({ frames := 0, cells := 0, slots := 0, locals := 0 } : Room).slots) := by
  refine own_enter (C := ({ frames := 0, cells := 0, slots := 0, locals := 0 } : Room).cells) (S := ({ frames := 0, cells := 0, slots := 0, locals := 0 } : Room).slots) (plainFor_of_name own_pn0) ?_
  intro p e s m below meth c T0 X0 I e0
  obtain ⟨hx, hby, hml, hown, hnm, hret, hlk, hZ⟩ := I
  have N0 := Fr.nil n0
  have O0 := own_extr h0
  refine own_cast (own_ef4 m a1) ?_
  show own_Go _ _ _ _ T0 (mkF m 0 #[.val (.ref a1)] [])
  refine own_st (fun _ k => XS.aloadN X0.here hx rfl (hb hby own_d4_0) rfl rfl k) ?_
  show own_Go _ _ _ _ T0 (mkF m 1 #[.val (.ref a1)] [(.ref a1)])
  obtain ⟨T1, X1, e1, st1⟩ := getF X0 hx hZ hown (host := "") (Or.inl (own_w23 hw)) Via.refl e0 (Fz.ext O0) (g := (mkF m 1 #[.val (.ref a1)] [(.ref a1)])) rfl rfl (hb hby own_d4_1)
  refine own_st st1 ?_
  show own_Go _ _ _ _ T1 (mkF m 4 #[.val (.ref a1)] [(.int z)])
  exact own_retN X1 hx hret (by simp) hlk (hb hby own_d4_4) ⟨by rw [hz], N0, e1⟩ (by decide) (by decide)
def own_ism_Q (Z : State) (a1 : Addr) (z : Int32) (h0 : Heap) (n0 : Nat) (v : Option Value) (h : Heap) (L : List Loc) : Prop := v = some (.int z) ∧ Fr n0 L ∧ h = h0
set_option maxRecDepth 65536 in
set_option maxHeartbeats 40000000 in
theorem own_ism (l : Launch) {Z : State} {a0 : Array Value} (hw : own_W Z a0) (ws : List Jvm.Cond) (a1 : Addr) (z : Int32) (h0 : Heap) (n0 : Nat) (Z0 : n0 ≤ h0.size) (hz : nar .boolean z = z) (Fz : Fld Z h0 a1 "com/example/siringa/siringa/Multiplicity" "many" "Z" (.int z)) :
    MetFree l (⟨"com/example/siringa/siringa/Multiplicity", "isMany", "()Z"⟩ : MethodName) (head1 (Jvm.Cond.code (⟨"com/example/siringa/siringa/Multiplicity", "isMany", "()Z"⟩ : MethodName) prog_6_method_6_code 1 (some .boolean) :: ws) ({ frames := 0, cells := 0, slots := 0, locals := 0 } : Room)) (fun a U => a = #[(.ref a1)] ∧ Z.Warmed39 U.vm ∧ U.heap = h0) (fun _ _ _ _ _ => True) (fun _ U o U' => ∃ v L, o = .returned v ∧ own_ism_Q Z a1 z h0 n0 v U'.heap L ∧ FrameEnd U o U' L ({ frames := 0, cells := 0, slots := 0, locals := 0 } : Room).cells ({ frames := 0, cells := 0, slots := 0, locals := 0 } : Room).slots) := by
  refine own_enter (C := ({ frames := 0, cells := 0, slots := 0, locals := 0 } : Room).cells) (S := ({ frames := 0, cells := 0, slots := 0, locals := 0 } : Room).slots) (plainFor_of_name own_pn0) ?_
  intro p e s m below meth c T0 X0 I e0
  obtain ⟨hx, hby, hml, hown, hnm, hret, hlk, hZ⟩ := I
  have N0 := Fr.nil n0
  have O0 := own_extr h0
  refine own_cast (own_ef5 m a1) ?_
  show own_Go _ _ _ _ T0 (mkF m 0 #[.val (.ref a1)] [])
  refine own_st (fun _ k => XS.aloadN X0.here hx rfl (hb hby own_d5_0) rfl rfl k) ?_
  show own_Go _ _ _ _ T0 (mkF m 1 #[.val (.ref a1)] [(.ref a1)])
  obtain ⟨T1, X1, e1, st1⟩ := getF X0 hx hZ hown (host := "") (Or.inl (own_w25 hw)) Via.refl e0 (Fz.ext O0) (g := (mkF m 1 #[.val (.ref a1)] [(.ref a1)])) rfl rfl (hb hby own_d5_1)
  refine own_st st1 ?_
  show own_Go _ _ _ _ T1 (mkF m 4 #[.val (.ref a1)] [(.int z)])
  exact own_retN X1 hx hret (by simp) hlk (hb hby own_d5_4) ⟨by rw [hz], N0, e1⟩ (by decide) (by decide)
def own_law_Q (Z : State) (p1 p2 : Int32) (wv w0 w1 w2 w3 : Addr) (kv : ClassId) (h0 : Heap) (n0 : Nat) (v : Option Value) (h : Heap) (L : List Loc) : Prop := v = some (.int 1) ∧ Fr n0 L
set_option maxRecDepth 65536 in
set_option maxHeartbeats 40000000 in
theorem own_law (l : Launch) {Z : State} {a0 : Array Value} (hw : own_W Z a0) (ws : List Jvm.Cond) (p1 p2 : Int32) (wv w0 w1 w2 w3 : Addr) (kv : ClassId) (h0 : Heap) (n0 : Nat) (Z0 : n0 ≤ h0.size) (Sv : Sta Z h0 "com/example/siringa/siringa/Multiplicity" "$VALUES" "[Lcom/example/siringa/siringa/Multiplicity;" (.ref wv)) (Vv : Arv Z h0 wv kv (.object "com/example/siringa/siringa/Multiplicity") 4 [(.ref w0), (.ref w1), (.ref w2), (.ref w3)] .null) (Ev : Exa Z h0 wv "[Lcom/example/siringa/siringa/Multiplicity;") (Fr0 : Fld Z h0 w0 "com/example/siringa/siringa/Multiplicity" "required" "Z" (.int (1 : Int32))) (Fm0 : Fld Z h0 w0 "com/example/siringa/siringa/Multiplicity" "many" "Z" (.int (0 : Int32))) (Fr1 : Fld Z h0 w1 "com/example/siringa/siringa/Multiplicity" "required" "Z" (.int (0 : Int32))) (Fm1 : Fld Z h0 w1 "com/example/siringa/siringa/Multiplicity" "many" "Z" (.int (0 : Int32))) (Fr2 : Fld Z h0 w2 "com/example/siringa/siringa/Multiplicity" "required" "Z" (.int (1 : Int32))) (Fm2 : Fld Z h0 w2 "com/example/siringa/siringa/Multiplicity" "many" "Z" (.int (1 : Int32))) (Fr3 : Fld Z h0 w3 "com/example/siringa/siringa/Multiplicity" "required" "Z" (.int (0 : Int32))) (Fm3 : Fld Z h0 w3 "com/example/siringa/siringa/Multiplicity" "many" "Z" (.int (1 : Int32))) (S0 : Sta Z h0 "com/example/siringa/siringa/Multiplicity" "ONE" "Lcom/example/siringa/siringa/Multiplicity;" (.ref w0)) (S1 : Sta Z h0 "com/example/siringa/siringa/Multiplicity" "ZERO_OR_ONE" "Lcom/example/siringa/siringa/Multiplicity;" (.ref w1)) (S2 : Sta Z h0 "com/example/siringa/siringa/Multiplicity" "ONE_OR_MORE" "Lcom/example/siringa/siringa/Multiplicity;" (.ref w2)) (S3 : Sta Z h0 "com/example/siringa/siringa/Multiplicity" "ZERO_OR_MORE" "Lcom/example/siringa/siringa/Multiplicity;" (.ref w3)) (E0 : Exa Z h0 w0 "com/example/siringa/siringa/Multiplicity") (E1 : Exa Z h0 w1 "com/example/siringa/siringa/Multiplicity") (E2 : Exa Z h0 w2 "com/example/siringa/siringa/Multiplicity") (E3 : Exa Z h0 w3 "com/example/siringa/siringa/Multiplicity") :
    MetFree l x (head1 (Jvm.Cond.code x code maxLocals ret :: ws) room_1) (fun a U => a = #[(.int p1), (.int p2)] ∧ Z.Warmed39 U.vm ∧ U.heap = h0) (fun _ _ _ _ _ => True) (fun _ U o U' => ∃ v L, o = .returned v ∧ own_law_Q Z p1 p2 wv w0 w1 w2 w3 kv h0 n0 v U'.heap L ∧ FrameEnd U o U' L 16 128) := by
  refine own_enter (C := 16) (S := 128) (plainFor_of_name own_pn1) ?_
  intro p e s m below meth c T0 X0 I e0
  obtain ⟨hx, hby, hml, hown, hnm, hret, hlk, hZ⟩ := I
  have N0 := Fr.nil n0
  have O0 := own_extr h0
  refine own_cast (own_ef0 m p1 p2) ?_
  show own_Go _ _ _ _ T0 (mkF m 0 #[.val (.int p1), .val (.int p2), .unset, .unset, .unset] [])
  refine own_st (fun _ k => XS.iloadN X0.here hx rfl (hb hby at_0) rfl k) ?_
  show own_Go _ _ _ _ T0 (mkF m 1 #[.val (.int p1), .val (.int p2), .unset, .unset, .unset] [(.int p1)])
  refine own_st (fun _ k => XS.iconst X0.here hx rfl (hb hby at_1) k) ?_
  show own_Go _ _ _ _ T0 (mkF m 2 #[.val (.int p1), .val (.int p2), .unset, .unset, .unset] [(.int (1 : Int32)), (.int p1)])
  refine own_st (fun _ k => XS.iand X0.here hx rfl (hb hby at_2) rfl k) ?_
  show own_Go _ _ _ _ T0 (mkF m 3 #[.val (.int p1), .val (.int p2), .unset, .unset, .unset] [(.int (p1 &&& (1 : Int32)))])
  by_cases hr : (p1 &&& (1 : Int32)) = (0 : Int32)
  · refine own_st (fun _ k => XS.ifYes X0.here hx rfl (pc0 := 3) (pc' := 10) rfl (hb hby at_3) rfl ((if0 _ _).trans (teq (hr : (p1 &&& (1 : Int32)) = (0 : Int32))).1) (by decide) (by decide) k) ?_
    show own_Go _ _ _ _ T0 (mkF m 10 #[.val (.int p1), .val (.int p2), .unset, .unset, .unset] [])
    refine own_st (fun _ k => XS.iconst X0.here hx rfl (hb hby at_10) k) ?_
    show own_Go _ _ _ _ T0 (mkF m 11 #[.val (.int p1), .val (.int p2), .unset, .unset, .unset] [(.int (0 : Int32))])
    refine own_st (fun _ k => XS.istoreN X0.here hx rfl (hb hby at_11) rfl (l' := #[.val (.int p1), .val (.int p2), .val (.int (0 : Int32)), .unset, .unset]) rfl k) ?_
    show own_Go _ _ _ _ T0 (mkF m 12 #[.val (.int p1), .val (.int p2), .val (.int (0 : Int32)), .unset, .unset] [])
    refine own_st (fun _ k => XS.iloadN X0.here hx rfl (hb hby at_12) rfl k) ?_
    show own_Go _ _ _ _ T0 (mkF m 13 #[.val (.int p1), .val (.int p2), .val (.int (0 : Int32)), .unset, .unset] [(.int p2)])
    refine own_st (fun _ k => XS.iconst X0.here hx rfl (hb hby at_13) k) ?_
    show own_Go _ _ _ _ T0 (mkF m 14 #[.val (.int p1), .val (.int p2), .val (.int (0 : Int32)), .unset, .unset] [(.int (1 : Int32)), (.int p2)])
    refine own_st (fun _ k => XS.iand X0.here hx rfl (hb hby at_14) rfl k) ?_
    show own_Go _ _ _ _ T0 (mkF m 15 #[.val (.int p1), .val (.int p2), .val (.int (0 : Int32)), .unset, .unset] [(.int (p2 &&& (1 : Int32)))])
    by_cases hm : (p2 &&& (1 : Int32)) = (0 : Int32)
    · refine own_st (fun _ k => XS.ifYes X0.here hx rfl (pc0 := 15) (pc' := 22) rfl (hb hby at_15) rfl ((if0 _ _).trans (teq (hm : (p2 &&& (1 : Int32)) = (0 : Int32))).1) (by decide) (by decide) k) ?_
      show own_Go _ _ _ _ T0 (mkF m 22 #[.val (.int p1), .val (.int p2), .val (.int (0 : Int32)), .unset, .unset] [])
      refine own_st (fun _ k => XS.iconst X0.here hx rfl (hb hby at_22) k) ?_
      show own_Go _ _ _ _ T0 (mkF m 23 #[.val (.int p1), .val (.int p2), .val (.int (0 : Int32)), .unset, .unset] [(.int (0 : Int32))])
      refine own_st (fun _ k => XS.istoreN X0.here hx rfl (hb hby at_23) rfl (l' := #[.val (.int p1), .val (.int p2), .val (.int (0 : Int32)), .val (.int (0 : Int32)), .unset]) rfl k) ?_
      show own_Go _ _ _ _ T0 (mkF m 24 #[.val (.int p1), .val (.int p2), .val (.int (0 : Int32)), .val (.int (0 : Int32)), .unset] [])
      refine own_st (fun _ k => XS.iloadN X0.here hx rfl (hb hby at_24) rfl k) ?_
      show own_Go _ _ _ _ T0 (mkF m 25 #[.val (.int p1), .val (.int p2), .val (.int (0 : Int32)), .val (.int (0 : Int32)), .unset] [(.int (0 : Int32))])
      refine own_st (fun _ k => XS.iloadN X0.here hx rfl (hb hby at_25) rfl k) ?_
      show own_Go _ _ _ _ T0 (mkF m 26 #[.val (.int p1), .val (.int p2), .val (.int (0 : Int32)), .val (.int (0 : Int32)), .unset] [(.int (0 : Int32)), (.int (0 : Int32))])
      obtain ⟨v1, T1, L1, hQ1, X1, st1⟩ := own_callS X0 hx hZ (y := (⟨"com/example/siringa/siringa/Multiplicity", "of", "(ZZ)Lcom/example/siringa/siringa/Multiplicity;"⟩ : MethodName)) hown (own_w0 hw) (own_w1 hw) (own_w2 hw) (own_w3 hw) (by decide) (own_of1 l hw [] (0 : Int32) (0 : Int32) wv w0 w1 w2 w3 kv h0 n0 (Nat.le_trans Z0 O0.1) rfl rfl (Sv.ext O0) (Vv.ext O0) (Ev.ext O0) (Fr0.ext O0) (Fm0.ext O0) (Fr1.ext O0) (Fm1.ext O0) (Fr2.ext O0) (Fm2.ext O0) (Fr3.ext O0) (Fm3.ext O0)) e0 (g := (mkF m 26 #[.val (.int p1), .val (.int p2), .val (.int (0 : Int32)), .val (.int (0 : Int32)), .unset] [(.int (0 : Int32)), (.int (0 : Int32))])) rfl (by rw [hml]; rfl) (argsL := [(.int (0 : Int32)), (.int (0 : Int32))]) (rest := []) (lenOf own_pd1 rfl) rfl rfl (W := 0) (Nat.le_of_eq rfl) (hb hby at_26) (by decide) (by decide) (by decide) (by decide)
      obtain ⟨rfl, N1, Et1⟩ := hQ1
      have O1 := own_extt O0 Et1
      have N1' := Fr.app N0 N1
      refine own_st st1 ?_
      show own_Go _ _ _ _ T1 (mkF m 29 #[.val (.int p1), .val (.int p2), .val (.int (0 : Int32)), .val (.int (0 : Int32)), .unset] [(.ref w1)])
      refine own_st (fun _ k => XS.astore X1.here hx rfl (hb hby at_29) rfl rfl (l' := #[.val (.int p1), .val (.int p2), .val (.int (0 : Int32)), .val (.int (0 : Int32)), .val (.ref w1)]) rfl k) ?_
      show own_Go _ _ _ _ T1 (mkF m 31 #[.val (.int p1), .val (.int p2), .val (.int (0 : Int32)), .val (.int (0 : Int32)), .val (.ref w1)] [])
      refine own_st (fun _ k => XS.aload X1.here hx rfl (hb hby at_31) rfl rfl k) ?_
      show own_Go _ _ _ _ T1 (mkF m 33 #[.val (.int p1), .val (.int p2), .val (.int (0 : Int32)), .val (.int (0 : Int32)), .val (.ref w1)] [(.ref w1)])
      refine own_st (fun _ k => XS.ifnonnullYes X1.here hx rfl (pc0 := 33) (pc' := 38) rfl (hb hby at_33) rfl (by decide) (by decide) k) ?_
      show own_Go _ _ _ _ T1 (mkF m 38 #[.val (.int p1), .val (.int p2), .val (.int (0 : Int32)), .val (.int (0 : Int32)), .val (.ref w1)] [])
      refine own_st (fun _ k => XS.aload X1.here hx rfl (hb hby at_38) rfl rfl k) ?_
      show own_Go _ _ _ _ T1 (mkF m 40 #[.val (.int p1), .val (.int p2), .val (.int (0 : Int32)), .val (.int (0 : Int32)), .val (.ref w1)] [(.ref w1)])
      refine own_st (fun _ k => XS.iloadN X1.here hx rfl (hb hby at_40) rfl k) ?_
      show own_Go _ _ _ _ T1 (mkF m 41 #[.val (.int p1), .val (.int p2), .val (.int (0 : Int32)), .val (.int (0 : Int32)), .val (.ref w1)] [(.int (0 : Int32)), (.ref w1)])
      refine own_st (fun _ k => XS.iloadN X1.here hx rfl (hb hby at_41) rfl k) ?_
      show own_Go _ _ _ _ T1 (mkF m 42 #[.val (.int p1), .val (.int p2), .val (.int (0 : Int32)), .val (.int (0 : Int32)), .val (.ref w1)] [(.int (0 : Int32)), (.int (0 : Int32)), (.ref w1)])
      obtain ⟨v2, T2, L2, hQ2, X2, st2⟩ := own_callS X1 hx hZ (y := (⟨"com/example/siringa/siringa/MultiplicityOfPinLaw", "expected", "(ZZ)Lcom/example/siringa/siringa/Multiplicity;"⟩ : MethodName)) hown (own_w27 hw) (own_w28 hw) (own_w29 hw) (own_w30 hw) (by decide) (own_ex1 l hw [] (0 : Int32) (0 : Int32) w1 T1.heap n0 (Nat.le_trans Z0 O1.1) rfl rfl (S1.ext O1)) rfl (g := (mkF m 42 #[.val (.int p1), .val (.int p2), .val (.int (0 : Int32)), .val (.int (0 : Int32)), .val (.ref w1)] [(.int (0 : Int32)), (.int (0 : Int32)), (.ref w1)])) rfl (by rw [hml]; rfl) (argsL := [(.int (0 : Int32)), (.int (0 : Int32))]) (rest := [(.ref w1)]) (lenOf own_pd1 rfl) rfl rfl (W := 1) (Nat.le_of_eq rfl) (hb hby at_42) (by decide) (by decide) (by decide) (by decide)
      obtain ⟨rfl, N2, e2⟩ := hQ2
      have N2' := Fr.app N1' N2
      refine own_st st2 ?_
      show own_Go _ _ _ _ T2 (mkF m 45 #[.val (.int p1), .val (.int p2), .val (.int (0 : Int32)), .val (.int (0 : Int32)), .val (.ref w1)] [(.ref w1), (.ref w1)])
      refine own_st (fun _ k => Jvm.RoadKit.acmp (g := (mkF m 45 #[.val (.int p1), .val (.int p2), .val (.int (0 : Int32)), .val (.int (0 : Int32)), .val (.ref w1)] [(.ref w1), (.ref w1)])) X2 hx rfl rfl rfl (pc0 := 45) (pc' := 50) (same := true) rfl (hb hby at_45) rfl (decide_eq_true rfl) (by decide) (by decide) k) ?_
      show own_Go _ _ _ _ T2 (mkF m 50 #[.val (.int p1), .val (.int p2), .val (.int (0 : Int32)), .val (.int (0 : Int32)), .val (.ref w1)] [])
      refine own_st (fun _ k => XS.aload X2.here hx rfl (hb hby at_50) rfl rfl k) ?_
      show own_Go _ _ _ _ T2 (mkF m 52 #[.val (.int p1), .val (.int p2), .val (.int (0 : Int32)), .val (.int (0 : Int32)), .val (.ref w1)] [(.ref w1)])
      obtain ⟨v3, T3, L3, hQ3, X3, st3⟩ := own_callV X2 hx hZ (y := (⟨"com/example/siringa/siringa/Multiplicity", "isRequired", "()Z"⟩ : MethodName)) hown (own_w32 hw) (own_w33 hw) (own_w35 hw) (own_w34 hw) (own_w2 hw) (own_w36 hw) (by decide) (own_isr l hw [] w1 (0 : Int32) T1.heap n0 (Nat.le_trans Z0 O1.1) (by decide) (Fr1.ext O1)) e2 (E1.ext O1) (g := (mkF m 52 #[.val (.int p1), .val (.int p2), .val (.int (0 : Int32)), .val (.int (0 : Int32)), .val (.ref w1)] [(.ref w1)])) rfl (by rw [hml]; rfl) (argsL := []) (rest := []) (lenOf own_pd2 rfl) rfl rfl (W := 0) (Nat.le_of_eq rfl) (hb hby at_52) (by decide) (by decide) (by decide) (by decide)
      obtain ⟨rfl, N3, e3⟩ := hQ3
      have N3' := Fr.app N2' N3
      refine own_st st3 ?_
      show own_Go _ _ _ _ T3 (mkF m 55 #[.val (.int p1), .val (.int p2), .val (.int (0 : Int32)), .val (.int (0 : Int32)), .val (.ref w1)] [(.int (0 : Int32))])
      refine own_st (fun _ k => XS.iloadN X3.here hx rfl (hb hby at_55) rfl k) ?_
      show own_Go _ _ _ _ T3 (mkF m 56 #[.val (.int p1), .val (.int p2), .val (.int (0 : Int32)), .val (.int (0 : Int32)), .val (.ref w1)] [(.int (0 : Int32)), (.int (0 : Int32))])
      refine own_st (fun _ k => XS.icmpNo X3.here hx rfl (hb hby at_56) rfl (teq (by decide : (0 : Int32) = (0 : Int32))).2 k) ?_
      show own_Go _ _ _ _ T3 (mkF m 59 #[.val (.int p1), .val (.int p2), .val (.int (0 : Int32)), .val (.int (0 : Int32)), .val (.ref w1)] [])
      refine own_st (fun _ k => XS.aload X3.here hx rfl (hb hby at_59) rfl rfl k) ?_
      show own_Go _ _ _ _ T3 (mkF m 61 #[.val (.int p1), .val (.int p2), .val (.int (0 : Int32)), .val (.int (0 : Int32)), .val (.ref w1)] [(.ref w1)])
      obtain ⟨v4, T4, L4, hQ4, X4, st4⟩ := own_callV X3 hx hZ (y := (⟨"com/example/siringa/siringa/Multiplicity", "isMany", "()Z"⟩ : MethodName)) hown (own_w37 hw) (own_w38 hw) (own_w40 hw) (own_w39 hw) (own_w2 hw) (own_w41 hw) (by decide) (own_ism l hw [] w1 (0 : Int32) T1.heap n0 (Nat.le_trans Z0 O1.1) (by decide) (Fm1.ext O1)) e3 (E1.ext O1) (g := (mkF m 61 #[.val (.int p1), .val (.int p2), .val (.int (0 : Int32)), .val (.int (0 : Int32)), .val (.ref w1)] [(.ref w1)])) rfl (by rw [hml]; rfl) (argsL := []) (rest := []) (lenOf own_pd2 rfl) rfl rfl (W := 0) (Nat.le_of_eq rfl) (hb hby at_61) (by decide) (by decide) (by decide) (by decide)
      obtain ⟨rfl, N4, e4⟩ := hQ4
      have N4' := Fr.app N3' N4
      refine own_st st4 ?_
      show own_Go _ _ _ _ T4 (mkF m 64 #[.val (.int p1), .val (.int p2), .val (.int (0 : Int32)), .val (.int (0 : Int32)), .val (.ref w1)] [(.int (0 : Int32))])
      refine own_st (fun _ k => XS.iloadN X4.here hx rfl (hb hby at_64) rfl k) ?_
      show own_Go _ _ _ _ T4 (mkF m 65 #[.val (.int p1), .val (.int p2), .val (.int (0 : Int32)), .val (.int (0 : Int32)), .val (.ref w1)] [(.int (0 : Int32)), (.int (0 : Int32))])
      refine own_st (fun _ k => XS.icmpNo X4.here hx rfl (hb hby at_65) rfl (teq (by decide : (0 : Int32) = (0 : Int32))).2 k) ?_
      show own_Go _ _ _ _ T4 (mkF m 68 #[.val (.int p1), .val (.int p2), .val (.int (0 : Int32)), .val (.int (0 : Int32)), .val (.ref w1)] [])
      refine own_st (fun _ k => XS.iconst X4.here hx rfl (hb hby at_68) k) ?_
      show own_Go _ _ _ _ T4 (mkF m 69 #[.val (.int p1), .val (.int p2), .val (.int (0 : Int32)), .val (.int (0 : Int32)), .val (.ref w1)] [(.int (1 : Int32))])
      refine own_st (fun _ k => XS.goto X4.here hx rfl (pc0 := 69) (pc' := 73) rfl (hb hby at_69) (by decide) (by decide) k) ?_
      show own_Go _ _ _ _ T4 (mkF m 73 #[.val (.int p1), .val (.int p2), .val (.int (0 : Int32)), .val (.int (0 : Int32)), .val (.ref w1)] [(.int (1 : Int32))])
      exact own_retN X4 hx hret (by simp) hlk (hb hby at_73) ⟨rfl, N4'⟩ (by decide) (by decide)
    · refine own_st (fun _ k => XS.ifNo X0.here hx rfl (hb hby at_15) rfl ((if0 _ _).trans (feq (hm : ¬ ((p2 &&& (1 : Int32)) = (0 : Int32)))).1) k) ?_
      show own_Go _ _ _ _ T0 (mkF m 18 #[.val (.int p1), .val (.int p2), .val (.int (0 : Int32)), .unset, .unset] [])
      refine own_st (fun _ k => XS.iconst X0.here hx rfl (hb hby at_18) k) ?_
      show own_Go _ _ _ _ T0 (mkF m 19 #[.val (.int p1), .val (.int p2), .val (.int (0 : Int32)), .unset, .unset] [(.int (1 : Int32))])
      refine own_st (fun _ k => XS.goto X0.here hx rfl (pc0 := 19) (pc' := 23) rfl (hb hby at_19) (by decide) (by decide) k) ?_
      show own_Go _ _ _ _ T0 (mkF m 23 #[.val (.int p1), .val (.int p2), .val (.int (0 : Int32)), .unset, .unset] [(.int (1 : Int32))])
      refine own_st (fun _ k => XS.istoreN X0.here hx rfl (hb hby at_23) rfl (l' := #[.val (.int p1), .val (.int p2), .val (.int (0 : Int32)), .val (.int (1 : Int32)), .unset]) rfl k) ?_
      show own_Go _ _ _ _ T0 (mkF m 24 #[.val (.int p1), .val (.int p2), .val (.int (0 : Int32)), .val (.int (1 : Int32)), .unset] [])
      refine own_st (fun _ k => XS.iloadN X0.here hx rfl (hb hby at_24) rfl k) ?_
      show own_Go _ _ _ _ T0 (mkF m 25 #[.val (.int p1), .val (.int p2), .val (.int (0 : Int32)), .val (.int (1 : Int32)), .unset] [(.int (0 : Int32))])
      refine own_st (fun _ k => XS.iloadN X0.here hx rfl (hb hby at_25) rfl k) ?_
      show own_Go _ _ _ _ T0 (mkF m 26 #[.val (.int p1), .val (.int p2), .val (.int (0 : Int32)), .val (.int (1 : Int32)), .unset] [(.int (1 : Int32)), (.int (0 : Int32))])
      obtain ⟨v5, T5, L5, hQ5, X5, st5⟩ := own_callS X0 hx hZ (y := (⟨"com/example/siringa/siringa/Multiplicity", "of", "(ZZ)Lcom/example/siringa/siringa/Multiplicity;"⟩ : MethodName)) hown (own_w0 hw) (own_w1 hw) (own_w2 hw) (own_w3 hw) (by decide) (own_of3 l hw [] (0 : Int32) (1 : Int32) wv w0 w1 w2 w3 kv h0 n0 (Nat.le_trans Z0 O0.1) rfl rfl (Sv.ext O0) (Vv.ext O0) (Ev.ext O0) (Fr0.ext O0) (Fm0.ext O0) (Fr1.ext O0) (Fm1.ext O0) (Fr2.ext O0) (Fm2.ext O0) (Fr3.ext O0) (Fm3.ext O0)) e0 (g := (mkF m 26 #[.val (.int p1), .val (.int p2), .val (.int (0 : Int32)), .val (.int (1 : Int32)), .unset] [(.int (1 : Int32)), (.int (0 : Int32))])) rfl (by rw [hml]; rfl) (argsL := [(.int (0 : Int32)), (.int (1 : Int32))]) (rest := []) (lenOf own_pd1 rfl) rfl rfl (W := 0) (Nat.le_of_eq rfl) (hb hby at_26) (by decide) (by decide) (by decide) (by decide)
      obtain ⟨rfl, N5, Et5⟩ := hQ5
      have O5 := own_extt O0 Et5
      have N5' := Fr.app N0 N5
      refine own_st st5 ?_
      show own_Go _ _ _ _ T5 (mkF m 29 #[.val (.int p1), .val (.int p2), .val (.int (0 : Int32)), .val (.int (1 : Int32)), .unset] [(.ref w3)])
      refine own_st (fun _ k => XS.astore X5.here hx rfl (hb hby at_29) rfl rfl (l' := #[.val (.int p1), .val (.int p2), .val (.int (0 : Int32)), .val (.int (1 : Int32)), .val (.ref w3)]) rfl k) ?_
      show own_Go _ _ _ _ T5 (mkF m 31 #[.val (.int p1), .val (.int p2), .val (.int (0 : Int32)), .val (.int (1 : Int32)), .val (.ref w3)] [])
      refine own_st (fun _ k => XS.aload X5.here hx rfl (hb hby at_31) rfl rfl k) ?_
      show own_Go _ _ _ _ T5 (mkF m 33 #[.val (.int p1), .val (.int p2), .val (.int (0 : Int32)), .val (.int (1 : Int32)), .val (.ref w3)] [(.ref w3)])
      refine own_st (fun _ k => XS.ifnonnullYes X5.here hx rfl (pc0 := 33) (pc' := 38) rfl (hb hby at_33) rfl (by decide) (by decide) k) ?_
      show own_Go _ _ _ _ T5 (mkF m 38 #[.val (.int p1), .val (.int p2), .val (.int (0 : Int32)), .val (.int (1 : Int32)), .val (.ref w3)] [])
      refine own_st (fun _ k => XS.aload X5.here hx rfl (hb hby at_38) rfl rfl k) ?_
      show own_Go _ _ _ _ T5 (mkF m 40 #[.val (.int p1), .val (.int p2), .val (.int (0 : Int32)), .val (.int (1 : Int32)), .val (.ref w3)] [(.ref w3)])
      refine own_st (fun _ k => XS.iloadN X5.here hx rfl (hb hby at_40) rfl k) ?_
      show own_Go _ _ _ _ T5 (mkF m 41 #[.val (.int p1), .val (.int p2), .val (.int (0 : Int32)), .val (.int (1 : Int32)), .val (.ref w3)] [(.int (0 : Int32)), (.ref w3)])
      refine own_st (fun _ k => XS.iloadN X5.here hx rfl (hb hby at_41) rfl k) ?_
      show own_Go _ _ _ _ T5 (mkF m 42 #[.val (.int p1), .val (.int p2), .val (.int (0 : Int32)), .val (.int (1 : Int32)), .val (.ref w3)] [(.int (1 : Int32)), (.int (0 : Int32)), (.ref w3)])
      obtain ⟨v6, T6, L6, hQ6, X6, st6⟩ := own_callS X5 hx hZ (y := (⟨"com/example/siringa/siringa/MultiplicityOfPinLaw", "expected", "(ZZ)Lcom/example/siringa/siringa/Multiplicity;"⟩ : MethodName)) hown (own_w27 hw) (own_w28 hw) (own_w29 hw) (own_w30 hw) (by decide) (own_ex3 l hw [] (0 : Int32) (1 : Int32) w3 T5.heap n0 (Nat.le_trans Z0 O5.1) rfl rfl (S3.ext O5)) rfl (g := (mkF m 42 #[.val (.int p1), .val (.int p2), .val (.int (0 : Int32)), .val (.int (1 : Int32)), .val (.ref w3)] [(.int (1 : Int32)), (.int (0 : Int32)), (.ref w3)])) rfl (by rw [hml]; rfl) (argsL := [(.int (0 : Int32)), (.int (1 : Int32))]) (rest := [(.ref w3)]) (lenOf own_pd1 rfl) rfl rfl (W := 1) (Nat.le_of_eq rfl) (hb hby at_42) (by decide) (by decide) (by decide) (by decide)
      obtain ⟨rfl, N6, e6⟩ := hQ6
      have N6' := Fr.app N5' N6
      refine own_st st6 ?_
      show own_Go _ _ _ _ T6 (mkF m 45 #[.val (.int p1), .val (.int p2), .val (.int (0 : Int32)), .val (.int (1 : Int32)), .val (.ref w3)] [(.ref w3), (.ref w3)])
      refine own_st (fun _ k => Jvm.RoadKit.acmp (g := (mkF m 45 #[.val (.int p1), .val (.int p2), .val (.int (0 : Int32)), .val (.int (1 : Int32)), .val (.ref w3)] [(.ref w3), (.ref w3)])) X6 hx rfl rfl rfl (pc0 := 45) (pc' := 50) (same := true) rfl (hb hby at_45) rfl (decide_eq_true rfl) (by decide) (by decide) k) ?_
      show own_Go _ _ _ _ T6 (mkF m 50 #[.val (.int p1), .val (.int p2), .val (.int (0 : Int32)), .val (.int (1 : Int32)), .val (.ref w3)] [])
      refine own_st (fun _ k => XS.aload X6.here hx rfl (hb hby at_50) rfl rfl k) ?_
      show own_Go _ _ _ _ T6 (mkF m 52 #[.val (.int p1), .val (.int p2), .val (.int (0 : Int32)), .val (.int (1 : Int32)), .val (.ref w3)] [(.ref w3)])
      obtain ⟨v7, T7, L7, hQ7, X7, st7⟩ := own_callV X6 hx hZ (y := (⟨"com/example/siringa/siringa/Multiplicity", "isRequired", "()Z"⟩ : MethodName)) hown (own_w32 hw) (own_w33 hw) (own_w35 hw) (own_w34 hw) (own_w2 hw) (own_w36 hw) (by decide) (own_isr l hw [] w3 (0 : Int32) T5.heap n0 (Nat.le_trans Z0 O5.1) (by decide) (Fr3.ext O5)) e6 (E3.ext O5) (g := (mkF m 52 #[.val (.int p1), .val (.int p2), .val (.int (0 : Int32)), .val (.int (1 : Int32)), .val (.ref w3)] [(.ref w3)])) rfl (by rw [hml]; rfl) (argsL := []) (rest := []) (lenOf own_pd2 rfl) rfl rfl (W := 0) (Nat.le_of_eq rfl) (hb hby at_52) (by decide) (by decide) (by decide) (by decide)
      obtain ⟨rfl, N7, e7⟩ := hQ7
      have N7' := Fr.app N6' N7
      refine own_st st7 ?_
      show own_Go _ _ _ _ T7 (mkF m 55 #[.val (.int p1), .val (.int p2), .val (.int (0 : Int32)), .val (.int (1 : Int32)), .val (.ref w3)] [(.int (0 : Int32))])
      refine own_st (fun _ k => XS.iloadN X7.here hx rfl (hb hby at_55) rfl k) ?_
      show own_Go _ _ _ _ T7 (mkF m 56 #[.val (.int p1), .val (.int p2), .val (.int (0 : Int32)), .val (.int (1 : Int32)), .val (.ref w3)] [(.int (0 : Int32)), (.int (0 : Int32))])
      refine own_st (fun _ k => XS.icmpNo X7.here hx rfl (hb hby at_56) rfl (teq (by decide : (0 : Int32) = (0 : Int32))).2 k) ?_
      show own_Go _ _ _ _ T7 (mkF m 59 #[.val (.int p1), .val (.int p2), .val (.int (0 : Int32)), .val (.int (1 : Int32)), .val (.ref w3)] [])
      refine own_st (fun _ k => XS.aload X7.here hx rfl (hb hby at_59) rfl rfl k) ?_
      show own_Go _ _ _ _ T7 (mkF m 61 #[.val (.int p1), .val (.int p2), .val (.int (0 : Int32)), .val (.int (1 : Int32)), .val (.ref w3)] [(.ref w3)])
      obtain ⟨v8, T8, L8, hQ8, X8, st8⟩ := own_callV X7 hx hZ (y := (⟨"com/example/siringa/siringa/Multiplicity", "isMany", "()Z"⟩ : MethodName)) hown (own_w37 hw) (own_w38 hw) (own_w40 hw) (own_w39 hw) (own_w2 hw) (own_w41 hw) (by decide) (own_ism l hw [] w3 (1 : Int32) T5.heap n0 (Nat.le_trans Z0 O5.1) (by decide) (Fm3.ext O5)) e7 (E3.ext O5) (g := (mkF m 61 #[.val (.int p1), .val (.int p2), .val (.int (0 : Int32)), .val (.int (1 : Int32)), .val (.ref w3)] [(.ref w3)])) rfl (by rw [hml]; rfl) (argsL := []) (rest := []) (lenOf own_pd2 rfl) rfl rfl (W := 0) (Nat.le_of_eq rfl) (hb hby at_61) (by decide) (by decide) (by decide) (by decide)
      obtain ⟨rfl, N8, e8⟩ := hQ8
      have N8' := Fr.app N7' N8
      refine own_st st8 ?_
      show own_Go _ _ _ _ T8 (mkF m 64 #[.val (.int p1), .val (.int p2), .val (.int (0 : Int32)), .val (.int (1 : Int32)), .val (.ref w3)] [(.int (1 : Int32))])
      refine own_st (fun _ k => XS.iloadN X8.here hx rfl (hb hby at_64) rfl k) ?_
      show own_Go _ _ _ _ T8 (mkF m 65 #[.val (.int p1), .val (.int p2), .val (.int (0 : Int32)), .val (.int (1 : Int32)), .val (.ref w3)] [(.int (1 : Int32)), (.int (1 : Int32))])
      refine own_st (fun _ k => XS.icmpNo X8.here hx rfl (hb hby at_65) rfl (teq (by decide : (1 : Int32) = (1 : Int32))).2 k) ?_
      show own_Go _ _ _ _ T8 (mkF m 68 #[.val (.int p1), .val (.int p2), .val (.int (0 : Int32)), .val (.int (1 : Int32)), .val (.ref w3)] [])
      refine own_st (fun _ k => XS.iconst X8.here hx rfl (hb hby at_68) k) ?_
      show own_Go _ _ _ _ T8 (mkF m 69 #[.val (.int p1), .val (.int p2), .val (.int (0 : Int32)), .val (.int (1 : Int32)), .val (.ref w3)] [(.int (1 : Int32))])
      refine own_st (fun _ k => XS.goto X8.here hx rfl (pc0 := 69) (pc' := 73) rfl (hb hby at_69) (by decide) (by decide) k) ?_
      show own_Go _ _ _ _ T8 (mkF m 73 #[.val (.int p1), .val (.int p2), .val (.int (0 : Int32)), .val (.int (1 : Int32)), .val (.ref w3)] [(.int (1 : Int32))])
      exact own_retN X8 hx hret (by simp) hlk (hb hby at_73) ⟨rfl, N8'⟩ (by decide) (by decide)
  · refine own_st (fun _ k => XS.ifNo X0.here hx rfl (hb hby at_3) rfl ((if0 _ _).trans (feq (hr : ¬ ((p1 &&& (1 : Int32)) = (0 : Int32)))).1) k) ?_
    show own_Go _ _ _ _ T0 (mkF m 6 #[.val (.int p1), .val (.int p2), .unset, .unset, .unset] [])
    refine own_st (fun _ k => XS.iconst X0.here hx rfl (hb hby at_6) k) ?_
    show own_Go _ _ _ _ T0 (mkF m 7 #[.val (.int p1), .val (.int p2), .unset, .unset, .unset] [(.int (1 : Int32))])
    refine own_st (fun _ k => XS.goto X0.here hx rfl (pc0 := 7) (pc' := 11) rfl (hb hby at_7) (by decide) (by decide) k) ?_
    show own_Go _ _ _ _ T0 (mkF m 11 #[.val (.int p1), .val (.int p2), .unset, .unset, .unset] [(.int (1 : Int32))])
    refine own_st (fun _ k => XS.istoreN X0.here hx rfl (hb hby at_11) rfl (l' := #[.val (.int p1), .val (.int p2), .val (.int (1 : Int32)), .unset, .unset]) rfl k) ?_
    show own_Go _ _ _ _ T0 (mkF m 12 #[.val (.int p1), .val (.int p2), .val (.int (1 : Int32)), .unset, .unset] [])
    refine own_st (fun _ k => XS.iloadN X0.here hx rfl (hb hby at_12) rfl k) ?_
    show own_Go _ _ _ _ T0 (mkF m 13 #[.val (.int p1), .val (.int p2), .val (.int (1 : Int32)), .unset, .unset] [(.int p2)])
    refine own_st (fun _ k => XS.iconst X0.here hx rfl (hb hby at_13) k) ?_
    show own_Go _ _ _ _ T0 (mkF m 14 #[.val (.int p1), .val (.int p2), .val (.int (1 : Int32)), .unset, .unset] [(.int (1 : Int32)), (.int p2)])
    refine own_st (fun _ k => XS.iand X0.here hx rfl (hb hby at_14) rfl k) ?_
    show own_Go _ _ _ _ T0 (mkF m 15 #[.val (.int p1), .val (.int p2), .val (.int (1 : Int32)), .unset, .unset] [(.int (p2 &&& (1 : Int32)))])
    by_cases hm : (p2 &&& (1 : Int32)) = (0 : Int32)
    · refine own_st (fun _ k => XS.ifYes X0.here hx rfl (pc0 := 15) (pc' := 22) rfl (hb hby at_15) rfl ((if0 _ _).trans (teq (hm : (p2 &&& (1 : Int32)) = (0 : Int32))).1) (by decide) (by decide) k) ?_
      show own_Go _ _ _ _ T0 (mkF m 22 #[.val (.int p1), .val (.int p2), .val (.int (1 : Int32)), .unset, .unset] [])
      refine own_st (fun _ k => XS.iconst X0.here hx rfl (hb hby at_22) k) ?_
      show own_Go _ _ _ _ T0 (mkF m 23 #[.val (.int p1), .val (.int p2), .val (.int (1 : Int32)), .unset, .unset] [(.int (0 : Int32))])
      refine own_st (fun _ k => XS.istoreN X0.here hx rfl (hb hby at_23) rfl (l' := #[.val (.int p1), .val (.int p2), .val (.int (1 : Int32)), .val (.int (0 : Int32)), .unset]) rfl k) ?_
      show own_Go _ _ _ _ T0 (mkF m 24 #[.val (.int p1), .val (.int p2), .val (.int (1 : Int32)), .val (.int (0 : Int32)), .unset] [])
      refine own_st (fun _ k => XS.iloadN X0.here hx rfl (hb hby at_24) rfl k) ?_
      show own_Go _ _ _ _ T0 (mkF m 25 #[.val (.int p1), .val (.int p2), .val (.int (1 : Int32)), .val (.int (0 : Int32)), .unset] [(.int (1 : Int32))])
      refine own_st (fun _ k => XS.iloadN X0.here hx rfl (hb hby at_25) rfl k) ?_
      show own_Go _ _ _ _ T0 (mkF m 26 #[.val (.int p1), .val (.int p2), .val (.int (1 : Int32)), .val (.int (0 : Int32)), .unset] [(.int (0 : Int32)), (.int (1 : Int32))])
      obtain ⟨v9, T9, L9, hQ9, X9, st9⟩ := own_callS X0 hx hZ (y := (⟨"com/example/siringa/siringa/Multiplicity", "of", "(ZZ)Lcom/example/siringa/siringa/Multiplicity;"⟩ : MethodName)) hown (own_w0 hw) (own_w1 hw) (own_w2 hw) (own_w3 hw) (by decide) (own_of0 l hw [] (1 : Int32) (0 : Int32) wv w0 w1 w2 w3 kv h0 n0 (Nat.le_trans Z0 O0.1) rfl rfl (Sv.ext O0) (Vv.ext O0) (Ev.ext O0) (Fr0.ext O0) (Fm0.ext O0) (Fr1.ext O0) (Fm1.ext O0) (Fr2.ext O0) (Fm2.ext O0) (Fr3.ext O0) (Fm3.ext O0)) e0 (g := (mkF m 26 #[.val (.int p1), .val (.int p2), .val (.int (1 : Int32)), .val (.int (0 : Int32)), .unset] [(.int (0 : Int32)), (.int (1 : Int32))])) rfl (by rw [hml]; rfl) (argsL := [(.int (1 : Int32)), (.int (0 : Int32))]) (rest := []) (lenOf own_pd1 rfl) rfl rfl (W := 0) (Nat.le_of_eq rfl) (hb hby at_26) (by decide) (by decide) (by decide) (by decide)
      obtain ⟨rfl, N9, Et9⟩ := hQ9
      have O9 := own_extt O0 Et9
      have N9' := Fr.app N0 N9
      refine own_st st9 ?_
      show own_Go _ _ _ _ T9 (mkF m 29 #[.val (.int p1), .val (.int p2), .val (.int (1 : Int32)), .val (.int (0 : Int32)), .unset] [(.ref w0)])
      refine own_st (fun _ k => XS.astore X9.here hx rfl (hb hby at_29) rfl rfl (l' := #[.val (.int p1), .val (.int p2), .val (.int (1 : Int32)), .val (.int (0 : Int32)), .val (.ref w0)]) rfl k) ?_
      show own_Go _ _ _ _ T9 (mkF m 31 #[.val (.int p1), .val (.int p2), .val (.int (1 : Int32)), .val (.int (0 : Int32)), .val (.ref w0)] [])
      refine own_st (fun _ k => XS.aload X9.here hx rfl (hb hby at_31) rfl rfl k) ?_
      show own_Go _ _ _ _ T9 (mkF m 33 #[.val (.int p1), .val (.int p2), .val (.int (1 : Int32)), .val (.int (0 : Int32)), .val (.ref w0)] [(.ref w0)])
      refine own_st (fun _ k => XS.ifnonnullYes X9.here hx rfl (pc0 := 33) (pc' := 38) rfl (hb hby at_33) rfl (by decide) (by decide) k) ?_
      show own_Go _ _ _ _ T9 (mkF m 38 #[.val (.int p1), .val (.int p2), .val (.int (1 : Int32)), .val (.int (0 : Int32)), .val (.ref w0)] [])
      refine own_st (fun _ k => XS.aload X9.here hx rfl (hb hby at_38) rfl rfl k) ?_
      show own_Go _ _ _ _ T9 (mkF m 40 #[.val (.int p1), .val (.int p2), .val (.int (1 : Int32)), .val (.int (0 : Int32)), .val (.ref w0)] [(.ref w0)])
      refine own_st (fun _ k => XS.iloadN X9.here hx rfl (hb hby at_40) rfl k) ?_
      show own_Go _ _ _ _ T9 (mkF m 41 #[.val (.int p1), .val (.int p2), .val (.int (1 : Int32)), .val (.int (0 : Int32)), .val (.ref w0)] [(.int (1 : Int32)), (.ref w0)])
      refine own_st (fun _ k => XS.iloadN X9.here hx rfl (hb hby at_41) rfl k) ?_
      show own_Go _ _ _ _ T9 (mkF m 42 #[.val (.int p1), .val (.int p2), .val (.int (1 : Int32)), .val (.int (0 : Int32)), .val (.ref w0)] [(.int (0 : Int32)), (.int (1 : Int32)), (.ref w0)])
      obtain ⟨v10, T10, L10, hQ10, X10, st10⟩ := own_callS X9 hx hZ (y := (⟨"com/example/siringa/siringa/MultiplicityOfPinLaw", "expected", "(ZZ)Lcom/example/siringa/siringa/Multiplicity;"⟩ : MethodName)) hown (own_w27 hw) (own_w28 hw) (own_w29 hw) (own_w30 hw) (by decide) (own_ex0 l hw [] (1 : Int32) (0 : Int32) w0 T9.heap n0 (Nat.le_trans Z0 O9.1) rfl rfl (S0.ext O9)) rfl (g := (mkF m 42 #[.val (.int p1), .val (.int p2), .val (.int (1 : Int32)), .val (.int (0 : Int32)), .val (.ref w0)] [(.int (0 : Int32)), (.int (1 : Int32)), (.ref w0)])) rfl (by rw [hml]; rfl) (argsL := [(.int (1 : Int32)), (.int (0 : Int32))]) (rest := [(.ref w0)]) (lenOf own_pd1 rfl) rfl rfl (W := 1) (Nat.le_of_eq rfl) (hb hby at_42) (by decide) (by decide) (by decide) (by decide)
      obtain ⟨rfl, N10, e10⟩ := hQ10
      have N10' := Fr.app N9' N10
      refine own_st st10 ?_
      show own_Go _ _ _ _ T10 (mkF m 45 #[.val (.int p1), .val (.int p2), .val (.int (1 : Int32)), .val (.int (0 : Int32)), .val (.ref w0)] [(.ref w0), (.ref w0)])
      refine own_st (fun _ k => Jvm.RoadKit.acmp (g := (mkF m 45 #[.val (.int p1), .val (.int p2), .val (.int (1 : Int32)), .val (.int (0 : Int32)), .val (.ref w0)] [(.ref w0), (.ref w0)])) X10 hx rfl rfl rfl (pc0 := 45) (pc' := 50) (same := true) rfl (hb hby at_45) rfl (decide_eq_true rfl) (by decide) (by decide) k) ?_
      show own_Go _ _ _ _ T10 (mkF m 50 #[.val (.int p1), .val (.int p2), .val (.int (1 : Int32)), .val (.int (0 : Int32)), .val (.ref w0)] [])
      refine own_st (fun _ k => XS.aload X10.here hx rfl (hb hby at_50) rfl rfl k) ?_
      show own_Go _ _ _ _ T10 (mkF m 52 #[.val (.int p1), .val (.int p2), .val (.int (1 : Int32)), .val (.int (0 : Int32)), .val (.ref w0)] [(.ref w0)])
      obtain ⟨v11, T11, L11, hQ11, X11, st11⟩ := own_callV X10 hx hZ (y := (⟨"com/example/siringa/siringa/Multiplicity", "isRequired", "()Z"⟩ : MethodName)) hown (own_w32 hw) (own_w33 hw) (own_w35 hw) (own_w34 hw) (own_w2 hw) (own_w36 hw) (by decide) (own_isr l hw [] w0 (1 : Int32) T9.heap n0 (Nat.le_trans Z0 O9.1) (by decide) (Fr0.ext O9)) e10 (E0.ext O9) (g := (mkF m 52 #[.val (.int p1), .val (.int p2), .val (.int (1 : Int32)), .val (.int (0 : Int32)), .val (.ref w0)] [(.ref w0)])) rfl (by rw [hml]; rfl) (argsL := []) (rest := []) (lenOf own_pd2 rfl) rfl rfl (W := 0) (Nat.le_of_eq rfl) (hb hby at_52) (by decide) (by decide) (by decide) (by decide)
      obtain ⟨rfl, N11, e11⟩ := hQ11
      have N11' := Fr.app N10' N11
      refine own_st st11 ?_
      show own_Go _ _ _ _ T11 (mkF m 55 #[.val (.int p1), .val (.int p2), .val (.int (1 : Int32)), .val (.int (0 : Int32)), .val (.ref w0)] [(.int (1 : Int32))])
      refine own_st (fun _ k => XS.iloadN X11.here hx rfl (hb hby at_55) rfl k) ?_
      show own_Go _ _ _ _ T11 (mkF m 56 #[.val (.int p1), .val (.int p2), .val (.int (1 : Int32)), .val (.int (0 : Int32)), .val (.ref w0)] [(.int (1 : Int32)), (.int (1 : Int32))])
      refine own_st (fun _ k => XS.icmpNo X11.here hx rfl (hb hby at_56) rfl (teq (by decide : (1 : Int32) = (1 : Int32))).2 k) ?_
      show own_Go _ _ _ _ T11 (mkF m 59 #[.val (.int p1), .val (.int p2), .val (.int (1 : Int32)), .val (.int (0 : Int32)), .val (.ref w0)] [])
      refine own_st (fun _ k => XS.aload X11.here hx rfl (hb hby at_59) rfl rfl k) ?_
      show own_Go _ _ _ _ T11 (mkF m 61 #[.val (.int p1), .val (.int p2), .val (.int (1 : Int32)), .val (.int (0 : Int32)), .val (.ref w0)] [(.ref w0)])
      obtain ⟨v12, T12, L12, hQ12, X12, st12⟩ := own_callV X11 hx hZ (y := (⟨"com/example/siringa/siringa/Multiplicity", "isMany", "()Z"⟩ : MethodName)) hown (own_w37 hw) (own_w38 hw) (own_w40 hw) (own_w39 hw) (own_w2 hw) (own_w41 hw) (by decide) (own_ism l hw [] w0 (0 : Int32) T9.heap n0 (Nat.le_trans Z0 O9.1) (by decide) (Fm0.ext O9)) e11 (E0.ext O9) (g := (mkF m 61 #[.val (.int p1), .val (.int p2), .val (.int (1 : Int32)), .val (.int (0 : Int32)), .val (.ref w0)] [(.ref w0)])) rfl (by rw [hml]; rfl) (argsL := []) (rest := []) (lenOf own_pd2 rfl) rfl rfl (W := 0) (Nat.le_of_eq rfl) (hb hby at_61) (by decide) (by decide) (by decide) (by decide)
      obtain ⟨rfl, N12, e12⟩ := hQ12
      have N12' := Fr.app N11' N12
      refine own_st st12 ?_
      show own_Go _ _ _ _ T12 (mkF m 64 #[.val (.int p1), .val (.int p2), .val (.int (1 : Int32)), .val (.int (0 : Int32)), .val (.ref w0)] [(.int (0 : Int32))])
      refine own_st (fun _ k => XS.iloadN X12.here hx rfl (hb hby at_64) rfl k) ?_
      show own_Go _ _ _ _ T12 (mkF m 65 #[.val (.int p1), .val (.int p2), .val (.int (1 : Int32)), .val (.int (0 : Int32)), .val (.ref w0)] [(.int (0 : Int32)), (.int (0 : Int32))])
      refine own_st (fun _ k => XS.icmpNo X12.here hx rfl (hb hby at_65) rfl (teq (by decide : (0 : Int32) = (0 : Int32))).2 k) ?_
      show own_Go _ _ _ _ T12 (mkF m 68 #[.val (.int p1), .val (.int p2), .val (.int (1 : Int32)), .val (.int (0 : Int32)), .val (.ref w0)] [])
      refine own_st (fun _ k => XS.iconst X12.here hx rfl (hb hby at_68) k) ?_
      show own_Go _ _ _ _ T12 (mkF m 69 #[.val (.int p1), .val (.int p2), .val (.int (1 : Int32)), .val (.int (0 : Int32)), .val (.ref w0)] [(.int (1 : Int32))])
      refine own_st (fun _ k => XS.goto X12.here hx rfl (pc0 := 69) (pc' := 73) rfl (hb hby at_69) (by decide) (by decide) k) ?_
      show own_Go _ _ _ _ T12 (mkF m 73 #[.val (.int p1), .val (.int p2), .val (.int (1 : Int32)), .val (.int (0 : Int32)), .val (.ref w0)] [(.int (1 : Int32))])
      exact own_retN X12 hx hret (by simp) hlk (hb hby at_73) ⟨rfl, N12'⟩ (by decide) (by decide)
    · refine own_st (fun _ k => XS.ifNo X0.here hx rfl (hb hby at_15) rfl ((if0 _ _).trans (feq (hm : ¬ ((p2 &&& (1 : Int32)) = (0 : Int32)))).1) k) ?_
      show own_Go _ _ _ _ T0 (mkF m 18 #[.val (.int p1), .val (.int p2), .val (.int (1 : Int32)), .unset, .unset] [])
      refine own_st (fun _ k => XS.iconst X0.here hx rfl (hb hby at_18) k) ?_
      show own_Go _ _ _ _ T0 (mkF m 19 #[.val (.int p1), .val (.int p2), .val (.int (1 : Int32)), .unset, .unset] [(.int (1 : Int32))])
      refine own_st (fun _ k => XS.goto X0.here hx rfl (pc0 := 19) (pc' := 23) rfl (hb hby at_19) (by decide) (by decide) k) ?_
      show own_Go _ _ _ _ T0 (mkF m 23 #[.val (.int p1), .val (.int p2), .val (.int (1 : Int32)), .unset, .unset] [(.int (1 : Int32))])
      refine own_st (fun _ k => XS.istoreN X0.here hx rfl (hb hby at_23) rfl (l' := #[.val (.int p1), .val (.int p2), .val (.int (1 : Int32)), .val (.int (1 : Int32)), .unset]) rfl k) ?_
      show own_Go _ _ _ _ T0 (mkF m 24 #[.val (.int p1), .val (.int p2), .val (.int (1 : Int32)), .val (.int (1 : Int32)), .unset] [])
      refine own_st (fun _ k => XS.iloadN X0.here hx rfl (hb hby at_24) rfl k) ?_
      show own_Go _ _ _ _ T0 (mkF m 25 #[.val (.int p1), .val (.int p2), .val (.int (1 : Int32)), .val (.int (1 : Int32)), .unset] [(.int (1 : Int32))])
      refine own_st (fun _ k => XS.iloadN X0.here hx rfl (hb hby at_25) rfl k) ?_
      show own_Go _ _ _ _ T0 (mkF m 26 #[.val (.int p1), .val (.int p2), .val (.int (1 : Int32)), .val (.int (1 : Int32)), .unset] [(.int (1 : Int32)), (.int (1 : Int32))])
      obtain ⟨v13, T13, L13, hQ13, X13, st13⟩ := own_callS X0 hx hZ (y := (⟨"com/example/siringa/siringa/Multiplicity", "of", "(ZZ)Lcom/example/siringa/siringa/Multiplicity;"⟩ : MethodName)) hown (own_w0 hw) (own_w1 hw) (own_w2 hw) (own_w3 hw) (by decide) (own_of2 l hw [] (1 : Int32) (1 : Int32) wv w0 w1 w2 w3 kv h0 n0 (Nat.le_trans Z0 O0.1) rfl rfl (Sv.ext O0) (Vv.ext O0) (Ev.ext O0) (Fr0.ext O0) (Fm0.ext O0) (Fr1.ext O0) (Fm1.ext O0) (Fr2.ext O0) (Fm2.ext O0) (Fr3.ext O0) (Fm3.ext O0)) e0 (g := (mkF m 26 #[.val (.int p1), .val (.int p2), .val (.int (1 : Int32)), .val (.int (1 : Int32)), .unset] [(.int (1 : Int32)), (.int (1 : Int32))])) rfl (by rw [hml]; rfl) (argsL := [(.int (1 : Int32)), (.int (1 : Int32))]) (rest := []) (lenOf own_pd1 rfl) rfl rfl (W := 0) (Nat.le_of_eq rfl) (hb hby at_26) (by decide) (by decide) (by decide) (by decide)
      obtain ⟨rfl, N13, Et13⟩ := hQ13
      have O13 := own_extt O0 Et13
      have N13' := Fr.app N0 N13
      refine own_st st13 ?_
      show own_Go _ _ _ _ T13 (mkF m 29 #[.val (.int p1), .val (.int p2), .val (.int (1 : Int32)), .val (.int (1 : Int32)), .unset] [(.ref w2)])
      refine own_st (fun _ k => XS.astore X13.here hx rfl (hb hby at_29) rfl rfl (l' := #[.val (.int p1), .val (.int p2), .val (.int (1 : Int32)), .val (.int (1 : Int32)), .val (.ref w2)]) rfl k) ?_
      show own_Go _ _ _ _ T13 (mkF m 31 #[.val (.int p1), .val (.int p2), .val (.int (1 : Int32)), .val (.int (1 : Int32)), .val (.ref w2)] [])
      refine own_st (fun _ k => XS.aload X13.here hx rfl (hb hby at_31) rfl rfl k) ?_
      show own_Go _ _ _ _ T13 (mkF m 33 #[.val (.int p1), .val (.int p2), .val (.int (1 : Int32)), .val (.int (1 : Int32)), .val (.ref w2)] [(.ref w2)])
      refine own_st (fun _ k => XS.ifnonnullYes X13.here hx rfl (pc0 := 33) (pc' := 38) rfl (hb hby at_33) rfl (by decide) (by decide) k) ?_
      show own_Go _ _ _ _ T13 (mkF m 38 #[.val (.int p1), .val (.int p2), .val (.int (1 : Int32)), .val (.int (1 : Int32)), .val (.ref w2)] [])
      refine own_st (fun _ k => XS.aload X13.here hx rfl (hb hby at_38) rfl rfl k) ?_
      show own_Go _ _ _ _ T13 (mkF m 40 #[.val (.int p1), .val (.int p2), .val (.int (1 : Int32)), .val (.int (1 : Int32)), .val (.ref w2)] [(.ref w2)])
      refine own_st (fun _ k => XS.iloadN X13.here hx rfl (hb hby at_40) rfl k) ?_
      show own_Go _ _ _ _ T13 (mkF m 41 #[.val (.int p1), .val (.int p2), .val (.int (1 : Int32)), .val (.int (1 : Int32)), .val (.ref w2)] [(.int (1 : Int32)), (.ref w2)])
      refine own_st (fun _ k => XS.iloadN X13.here hx rfl (hb hby at_41) rfl k) ?_
      show own_Go _ _ _ _ T13 (mkF m 42 #[.val (.int p1), .val (.int p2), .val (.int (1 : Int32)), .val (.int (1 : Int32)), .val (.ref w2)] [(.int (1 : Int32)), (.int (1 : Int32)), (.ref w2)])
      obtain ⟨v14, T14, L14, hQ14, X14, st14⟩ := own_callS X13 hx hZ (y := (⟨"com/example/siringa/siringa/MultiplicityOfPinLaw", "expected", "(ZZ)Lcom/example/siringa/siringa/Multiplicity;"⟩ : MethodName)) hown (own_w27 hw) (own_w28 hw) (own_w29 hw) (own_w30 hw) (by decide) (own_ex2 l hw [] (1 : Int32) (1 : Int32) w2 T13.heap n0 (Nat.le_trans Z0 O13.1) rfl rfl (S2.ext O13)) rfl (g := (mkF m 42 #[.val (.int p1), .val (.int p2), .val (.int (1 : Int32)), .val (.int (1 : Int32)), .val (.ref w2)] [(.int (1 : Int32)), (.int (1 : Int32)), (.ref w2)])) rfl (by rw [hml]; rfl) (argsL := [(.int (1 : Int32)), (.int (1 : Int32))]) (rest := [(.ref w2)]) (lenOf own_pd1 rfl) rfl rfl (W := 1) (Nat.le_of_eq rfl) (hb hby at_42) (by decide) (by decide) (by decide) (by decide)
      obtain ⟨rfl, N14, e14⟩ := hQ14
      have N14' := Fr.app N13' N14
      refine own_st st14 ?_
      show own_Go _ _ _ _ T14 (mkF m 45 #[.val (.int p1), .val (.int p2), .val (.int (1 : Int32)), .val (.int (1 : Int32)), .val (.ref w2)] [(.ref w2), (.ref w2)])
      refine own_st (fun _ k => Jvm.RoadKit.acmp (g := (mkF m 45 #[.val (.int p1), .val (.int p2), .val (.int (1 : Int32)), .val (.int (1 : Int32)), .val (.ref w2)] [(.ref w2), (.ref w2)])) X14 hx rfl rfl rfl (pc0 := 45) (pc' := 50) (same := true) rfl (hb hby at_45) rfl (decide_eq_true rfl) (by decide) (by decide) k) ?_
      show own_Go _ _ _ _ T14 (mkF m 50 #[.val (.int p1), .val (.int p2), .val (.int (1 : Int32)), .val (.int (1 : Int32)), .val (.ref w2)] [])
      refine own_st (fun _ k => XS.aload X14.here hx rfl (hb hby at_50) rfl rfl k) ?_
      show own_Go _ _ _ _ T14 (mkF m 52 #[.val (.int p1), .val (.int p2), .val (.int (1 : Int32)), .val (.int (1 : Int32)), .val (.ref w2)] [(.ref w2)])
      obtain ⟨v15, T15, L15, hQ15, X15, st15⟩ := own_callV X14 hx hZ (y := (⟨"com/example/siringa/siringa/Multiplicity", "isRequired", "()Z"⟩ : MethodName)) hown (own_w32 hw) (own_w33 hw) (own_w35 hw) (own_w34 hw) (own_w2 hw) (own_w36 hw) (by decide) (own_isr l hw [] w2 (1 : Int32) T13.heap n0 (Nat.le_trans Z0 O13.1) (by decide) (Fr2.ext O13)) e14 (E2.ext O13) (g := (mkF m 52 #[.val (.int p1), .val (.int p2), .val (.int (1 : Int32)), .val (.int (1 : Int32)), .val (.ref w2)] [(.ref w2)])) rfl (by rw [hml]; rfl) (argsL := []) (rest := []) (lenOf own_pd2 rfl) rfl rfl (W := 0) (Nat.le_of_eq rfl) (hb hby at_52) (by decide) (by decide) (by decide) (by decide)
      obtain ⟨rfl, N15, e15⟩ := hQ15
      have N15' := Fr.app N14' N15
      refine own_st st15 ?_
      show own_Go _ _ _ _ T15 (mkF m 55 #[.val (.int p1), .val (.int p2), .val (.int (1 : Int32)), .val (.int (1 : Int32)), .val (.ref w2)] [(.int (1 : Int32))])
      refine own_st (fun _ k => XS.iloadN X15.here hx rfl (hb hby at_55) rfl k) ?_
      show own_Go _ _ _ _ T15 (mkF m 56 #[.val (.int p1), .val (.int p2), .val (.int (1 : Int32)), .val (.int (1 : Int32)), .val (.ref w2)] [(.int (1 : Int32)), (.int (1 : Int32))])
      refine own_st (fun _ k => XS.icmpNo X15.here hx rfl (hb hby at_56) rfl (teq (by decide : (1 : Int32) = (1 : Int32))).2 k) ?_
      show own_Go _ _ _ _ T15 (mkF m 59 #[.val (.int p1), .val (.int p2), .val (.int (1 : Int32)), .val (.int (1 : Int32)), .val (.ref w2)] [])
      refine own_st (fun _ k => XS.aload X15.here hx rfl (hb hby at_59) rfl rfl k) ?_
      show own_Go _ _ _ _ T15 (mkF m 61 #[.val (.int p1), .val (.int p2), .val (.int (1 : Int32)), .val (.int (1 : Int32)), .val (.ref w2)] [(.ref w2)])
      obtain ⟨v16, T16, L16, hQ16, X16, st16⟩ := own_callV X15 hx hZ (y := (⟨"com/example/siringa/siringa/Multiplicity", "isMany", "()Z"⟩ : MethodName)) hown (own_w37 hw) (own_w38 hw) (own_w40 hw) (own_w39 hw) (own_w2 hw) (own_w41 hw) (by decide) (own_ism l hw [] w2 (1 : Int32) T13.heap n0 (Nat.le_trans Z0 O13.1) (by decide) (Fm2.ext O13)) e15 (E2.ext O13) (g := (mkF m 61 #[.val (.int p1), .val (.int p2), .val (.int (1 : Int32)), .val (.int (1 : Int32)), .val (.ref w2)] [(.ref w2)])) rfl (by rw [hml]; rfl) (argsL := []) (rest := []) (lenOf own_pd2 rfl) rfl rfl (W := 0) (Nat.le_of_eq rfl) (hb hby at_61) (by decide) (by decide) (by decide) (by decide)
      obtain ⟨rfl, N16, e16⟩ := hQ16
      have N16' := Fr.app N15' N16
      refine own_st st16 ?_
      show own_Go _ _ _ _ T16 (mkF m 64 #[.val (.int p1), .val (.int p2), .val (.int (1 : Int32)), .val (.int (1 : Int32)), .val (.ref w2)] [(.int (1 : Int32))])
      refine own_st (fun _ k => XS.iloadN X16.here hx rfl (hb hby at_64) rfl k) ?_
      show own_Go _ _ _ _ T16 (mkF m 65 #[.val (.int p1), .val (.int p2), .val (.int (1 : Int32)), .val (.int (1 : Int32)), .val (.ref w2)] [(.int (1 : Int32)), (.int (1 : Int32))])
      refine own_st (fun _ k => XS.icmpNo X16.here hx rfl (hb hby at_65) rfl (teq (by decide : (1 : Int32) = (1 : Int32))).2 k) ?_
      show own_Go _ _ _ _ T16 (mkF m 68 #[.val (.int p1), .val (.int p2), .val (.int (1 : Int32)), .val (.int (1 : Int32)), .val (.ref w2)] [])
      refine own_st (fun _ k => XS.iconst X16.here hx rfl (hb hby at_68) k) ?_
      show own_Go _ _ _ _ T16 (mkF m 69 #[.val (.int p1), .val (.int p2), .val (.int (1 : Int32)), .val (.int (1 : Int32)), .val (.ref w2)] [(.int (1 : Int32))])
      refine own_st (fun _ k => XS.goto X16.here hx rfl (pc0 := 69) (pc' := 73) rfl (hb hby at_69) (by decide) (by decide) k) ?_
      show own_Go _ _ _ _ T16 (mkF m 73 #[.val (.int p1), .val (.int p2), .val (.int (1 : Int32)), .val (.int (1 : Int32)), .val (.ref w2)] [(.int (1 : Int32))])
      exact own_retN X16 hx hret (by simp) hlk (hb hby at_73) ⟨rfl, N16'⟩ (by decide) (by decide)
set_option maxRecDepth 65536 in
set_option maxHeartbeats 40000000 in
theorem comes_1 {Post : Tables → Env → Array Value → State → Outcome → State → Prop} (hpost : ∀ tb e args s v u, (limb_1_1.after args s (.returned v) u = true ∧ limb_1_2.after args s (.returned v) u = true ∧ True) → FrameEnd s (.returned v) u (Jvm.fieldLocs frame_1_writes args s ++ Jvm.arrayLocs frame_1_arrays args s ++ Jvm.staticLocs frame_1_statics s) 16 128 → Post tb e args s (.returned v) u) :
    ArmFor flags0 classFile x code maxLocals ret World_1 tables_1 room_1 Calls_1 rest_1 Pre_1 Post := by
  intro l hfl _ _ p e ha hc hk s m args below hf hA hF happ hP
  obtain ⟨hcalls, hrest, hpre⟩ := hP
  obtain ⟨-, -, -, hnamed, -, -, -, hat⟩ := (Spec.applies_iff hf).mp happ
  obtain ⟨hg, hn⟩ := and_e (Cond.before_iff.mp (show (Jvm.Cond.and given_1 narrow_1).before args s = true from hpre))
  obtain ⟨q1, q2⟩ := and_e hg
  obtain ⟨q3, q4⟩ := and_e q2
  obtain ⟨w0_, w1_, rfl⟩ : ∃ w0_ w1_ : Value, args = #[w0_, w1_] := by
    have hs : args.size = 2 := by simpa [Cond.value, given_1] using q1
    obtain ⟨L⟩ := args
    match L, hs with
    | [w0_, w1_], _ => exact ⟨w0_, w1_, rfl⟩
  have hw : own_W s _ := fun d (hd : d ∈ tables_1) => atoms_spec (ws := Jvm.Cond.code x code maxLocals ret :: tables_1) hat d (List.mem_cons_of_mem _ hd)
  have hfit : Fit s := fun {y c} hc i hi => by
    obtain ⟨ha, rfl⟩ := Array.getElem?_eq_some_iff.mp hc
    have q := List.all_eq_true.mp ((Array.all_eq_true_iff_forall_mem.mp hF) _ (Array.getElem_mem ha)) i (List.mem_range.mpr hi)
    simpa [Array.getElem?_eq_getElem hi] using q
  obtain ⟨i0, ei0⟩ := is_v q3
  obtain rfl : w0_ = (.int i0) := Option.some.inj ei0
  obtain ⟨i1, ei1⟩ := is_v q4
  obtain rfl : w1_ = (.int i1) := Option.some.inj ei1
  have hn : narrow_1.value _ s none s [] = some true := hn
  obtain ⟨q5, q6⟩ := and_e hn
  obtain ⟨q7, q8⟩ := and_e q6
  obtain ⟨q9, q10⟩ := and_e q8
  obtain ⟨q11, q12⟩ := and_e q10
  obtain ⟨q13, q14⟩ := and_e q12
  obtain ⟨q15, q16⟩ := and_e q14
  obtain ⟨q17, q18⟩ := and_e q16
  obtain ⟨q19, q20⟩ := and_e q18
  obtain ⟨q21, q22⟩ := and_e q20
  obtain ⟨q23, q24⟩ := and_e q22
  obtain ⟨q25, q26⟩ := and_e q24
  obtain ⟨q27, q28⟩ := and_e q26
  obtain ⟨q29, q30⟩ := and_e q28
  obtain ⟨q31, q32⟩ := and_e q30
  obtain ⟨q33, q34⟩ := and_e q32
  obtain ⟨q35, q36⟩ := and_e q34
  obtain ⟨q37, q38⟩ := and_e q36
  obtain ⟨q39, q40⟩ := and_e q38
  obtain ⟨w41, vw41⟩ := arr_v q5
  obtain ⟨cA42, A42⟩ := Arr.start vw41 q5
  have S43 := Sta.start vw41 (Or.inl (own_w20 hw))
  have E44 := Exa.start vw41 q7
  obtain ⟨w45, vw45⟩ := exa_v q11
  have E46 := Exa.start vw45 q11
  have S47 := Sta.start vw45 (Or.inr ⟨(own_w2 hw), (own_w16 hw)⟩)
  obtain ⟨w48, vw48⟩ := exa_v q15
  have E49 := Exa.start vw48 q15
  have S50 := Sta.start vw48 (Or.inr ⟨(own_w2 hw), (own_w17 hw)⟩)
  obtain ⟨w51, vw51⟩ := exa_v q19
  have E52 := Exa.start vw51 q19
  have S53 := Sta.start vw51 (Or.inr ⟨(own_w2 hw), (own_w18 hw)⟩)
  obtain ⟨w54, vw54⟩ := exa_v q23
  have E55 := Exa.start vw54 q23
  have S56 := Sta.start vw54 (Or.inr ⟨(own_w2 hw), (own_w19 hw)⟩)
  have F57 := Fld.start ((fld_at vw45).symm.trans (own_eqi q27))
  have F58 := Fld.start ((fld_at vw48).symm.trans (own_eqi q29))
  have F59 := Fld.start ((fld_at vw48).symm.trans (own_eqi q31))
  have F60 := Fld.start ((fld_at vw51).symm.trans (own_eqi q33))
  have F61 := Fld.start ((fld_at vw54).symm.trans (own_eqi q35))
  have F62 := Fld.start ((fld_at vw54).symm.trans (own_eqi q37))
  have F63 := Fld.start ((fld_at vw45).symm.trans (own_eqi q39))
  have F64 := Fld.start ((fld_at vw51).symm.trans (own_eqi q40))
  have V65 : Arv s s.heap w41 cA42.cls (.object "com/example/siringa/siringa/Multiplicity") (4 : Int32) [(.ref w45), (.ref w48), (.ref w51), (.ref w54)] .null := Arv.start hfit A42 (own_lenw q9 vw41 A42).1 (own_lenw q9 vw41 A42).2 (by decide) rfl ⟨own_elemw q13 vw41 vw45 A42, own_elemw q17 vw41 vw48 A42, own_elemw q21 vw41 vw51 A42, own_elemw q25 vw41 vw54 A42, trivial⟩
  obtain ⟨n, o, r1, r2, r3, _, L, rfl, ⟨rfl, N⟩, hq⟩ := own_law l hw tables_1 i0 i1 w41 w45 w48 w51 w54 cA42.cls s.heap s.heap.size (Nat.le_refl _) S43 V65 E44 F57 F63 F58 F59 F60 F64 F61 F62 S47 S50 S53 S56 E46 E49 E52 E55 p e ha hc hk s m _ below hf ((Spec.applies_iff_loose hf).mp happ).1 ⟨rfl, State.Warmed39.refl s, rfl⟩ trivial
  refine ⟨n, _, r1, r2, r3, hpost _ _ _ _ _ _ ⟨Cond.after_iff.mpr rfl, Cond.after_iff.mpr (eq_i res_at (Term.int_eval (1)) rfl), trivial⟩ ⟨hq.1, hq.2.1, (hq.2.2.sift fun y hy => Or.inr (N y hy)).mono (by decide) (by decide)⟩⟩
theorem main_1_1 : Claimed_1_1 := comes_1 fun _ _ _ _ _ _ h hF => ⟨h.1, hF⟩
theorem main_1_2 : Claimed_1_2 := comes_1 fun _ _ _ _ _ _ h hF => ⟨h.2.1, hF⟩
end Jvm.Pilot.@@N@@
namespace Jvm.Pilot.@@N@@
open Jvm Jvm.ClassFile Sem Op Lib Jvm.Free Jvm.Stand Jvm.Pilot.@@N@@.Jvm.D
/-! MADE BY PROGRAM (witnessworld.py) out of the Statement's table words and the real class files: 13 classes; the members and pool entries that the words name. The judged class is class 1, her method 2. -/
namespace start1
open Jvm.ClassFile
def u (s : String) : CpInfo := .utf8 (stringToUtf16 s)
/-- a pool by its gaps: so many unusable entries, then the entry; so many at the end -/
def gap : Nat → List CpInfo → List CpInfo
  | 0, r => r
  | n + 1, r => .unusable :: gap n r
def poolList (es : List (Nat × CpInfo)) (last : Nat) : List CpInfo := es.foldr (fun e r => gap e.1 (e.2 :: r)) (gap last [])
def pool (es : List (Nat × CpInfo)) (last : Nat) : Array CpInfo := ⟨poolList es last⟩
def fileOf (pool : Array CpInfo) (this : Nat) (attrs : Array Attribute := #[]) (ms : Array MethodInfo := #[]) (fl : Nat := 33) (sup : Nat := 0) (ifs : Array Nat := #[]) (fds : Array FieldInfo := #[]) : ClassFile where
  minorVersion := 0
  majorVersion := 65
  constantPool := pool
  accessFlags := fl
  thisClass := this
  superClass := sup
  interfaces := ifs
  fields := fds
  methods := ms
  attributes := attrs
def plain (name : String) (sup : Option ClassId) : Class where
  name := name
  kind := .ordinary
  loader := none
  accessFlags := 33
  super := sup
  interfaces := #[]
  cf := none
  fields := #[]
  methods := #[]
  instanceTypes := #[]
  staticTypes := #[]
  resolved := #[]
  callSites := []
  init := .initialized
  statics := none
  mirror := none

def pool0 : Array CpInfo := pool [(5, u "<init>"), (0, u "()V"), (1, .class_ 10), (1, u "java/lang/Object"), (85, u "clone"), (0, u "()Ljava/lang/Object;")] 26

def k0m0 : Method := { name := "<init>", desc := "()V", sig := { parameters := [], returnType := none }, accessFlags := 1, code := none }
def k0m1 : Method := { name := "clone", desc := "()Ljava/lang/Object;", sig := { parameters := [], returnType := some (.object "java/lang/Object") }, accessFlags := 260, code := none }
/-- java/lang/Object -/
def k0 : Class := { plain "java/lang/Object" none with
  accessFlags := 33
  interfaces := #[]
  cf := some (fileOf pool0 8 #[] #[{ accessFlags := 1, nameIndex := 5, descriptorIndex := 6, attributes := #[] }, { accessFlags := 260, nameIndex := 96, descriptorIndex := 97, attributes := #[] }] 33 0 #[] #[])
  fields := #[]
  methods := #[k0m0, k0m1]
  instanceTypes := #[]
  staticTypes := #[]
  resolved := Array.replicate 124 none
  statics := none }

def pool1 : Array CpInfo := pool [(2, .class_ 4), (1, u "java/lang/Object"), (0, u "<init>"), (0, u "()V"), (0, .fieldref 8 9), (0, .class_ 10), (0, .nameAndType 11 12), (0, u "com/example/siringa/siringa/Multiplicity"), (0, u "ONE_OR_MORE"), (0, u "Lcom/example/siringa/siringa/Multiplicity;"), (0, .fieldref 8 14), (0, .nameAndType 15 12), (0, u "ONE"), (0, .fieldref 8 17), (0, .nameAndType 18 12), (0, u "ZERO_OR_MORE"), (0, .fieldref 8 20), (0, .nameAndType 21 12), (0, u "ZERO_OR_ONE"), (0, .methodref 8 23), (0, .nameAndType 24 25), (0, u "of"), (0, u "(ZZ)Lcom/example/siringa/siringa/Multiplicity;"), (0, .methodref 27 28), (0, .class_ 29), (0, .nameAndType 30 25), (0, u "com/example/siringa/siringa/MultiplicityOfPinLaw"), (0, u "expected"), (0, .methodref 8 32), (0, .nameAndType 33 34), (0, u "isRequired"), (0, u "()Z"), (0, .methodref 8 36), (0, .nameAndType 37 34), (0, u "isMany"), (3, u "law"), (0, u "(II)Z")] 2

def k1m0 : Method := { name := "<init>", desc := "()V", sig := { parameters := [], returnType := none }, accessFlags := 2, code := none }
def k1c1 : Code := { maxStack := 1, maxLocals := 2, code := method_2_code, exceptionTable := #[], attributes := #[] }
def k1m1 : Method := { name := "expected", desc := "(ZZ)Lcom/example/siringa/siringa/Multiplicity;", sig := { parameters := [.boolean, .boolean], returnType := some (.object "com/example/siringa/siringa/Multiplicity") }, accessFlags := 10, code := some k1c1 }
def k1c2 : Code := { maxStack := 3, maxLocals := 5, code := code, exceptionTable := #[], attributes := #[] }
def k1m2 : Method := { name := "law", desc := "(II)Z", sig := { parameters := [.int, .int], returnType := some .boolean }, accessFlags := 9, code := some k1c2 }
/-- com/example/siringa/siringa/MultiplicityOfPinLaw -/
def k1 : Class := { plain "com/example/siringa/siringa/MultiplicityOfPinLaw" (some 0) with
  accessFlags := 49
  interfaces := #[]
  cf := some (fileOf pool1 27 #[] #[{ accessFlags := 2, nameIndex := 5, descriptorIndex := 6, attributes := #[] }, { accessFlags := 10, nameIndex := 30, descriptorIndex := 25, attributes := #[] }, { accessFlags := 9, nameIndex := 41, descriptorIndex := 42, attributes := #[] }] 49 2 #[] #[])
  fields := #[]
  methods := #[k1m0, k1m1, k1m2]
  instanceTypes := #[]
  staticTypes := #[]
  resolved := Array.replicate 45 none
  statics := none }

def pool2 : Array CpInfo := pool [(1, .class_ 2), (0, u "java/lang/constant/Constable"), (0, .class_ 4), (0, u "java/lang/Object")] 6

/-- java/lang/constant/Constable -/
def k2 : Class := { plain "java/lang/constant/Constable" (some 0) with
  accessFlags := 1537
  interfaces := #[]
  cf := some (fileOf pool2 1 #[] #[] 1537 3 #[] #[])
  fields := #[]
  methods := #[]
  instanceTypes := #[]
  staticTypes := #[]
  resolved := Array.replicate 11 none
  statics := none }

def pool3 : Array CpInfo := pool [(1, .class_ 2), (0, u "java/lang/Comparable"), (0, .class_ 4), (0, u "java/lang/Object")] 7

/-- java/lang/Comparable -/
def k3 : Class := { plain "java/lang/Comparable" (some 0) with
  accessFlags := 1537
  interfaces := #[]
  cf := some (fileOf pool3 1 #[] #[] 1537 3 #[] #[])
  fields := #[]
  methods := #[]
  instanceTypes := #[]
  staticTypes := #[]
  resolved := Array.replicate 12 none
  statics := none }

def pool4 : Array CpInfo := pool [(1, .class_ 2), (0, u "java/io/Serializable"), (0, .class_ 4), (0, u "java/lang/Object")] 2

/-- java/io/Serializable -/
def k4 : Class := { plain "java/io/Serializable" (some 0) with
  accessFlags := 1537
  interfaces := #[]
  cf := some (fileOf pool4 1 #[] #[] 1537 3 #[] #[])
  fields := #[]
  methods := #[]
  instanceTypes := #[]
  staticTypes := #[]
  resolved := Array.replicate 7 none
  statics := none }

def pool5 : Array CpInfo := pool [(2, .class_ 4), (1, u "java/lang/Enum"), (0, u "name"), (0, u "Ljava/lang/String;"), (2, u "ordinal"), (0, u "I"), (1, .class_ 14), (1, u "java/lang/Object"), (4, u "hash"), (86, .class_ 108), (1, u "java/lang/Enum$EnumDesc"), (2, .class_ 112), (0, u "java/lang/constant/Constable"), (0, .class_ 114), (0, u "java/lang/Comparable"), (0, .class_ 116), (0, u "java/io/Serializable")] 87

/-- java/lang/Enum -/
def k5 : Class := { plain "java/lang/Enum" (some 0) with
  accessFlags := 1057
  interfaces := #[2, 3, 4]
  cf := some (fileOf pool5 2 #[.nestMembers #[106]] #[] 1057 12 #[111, 113, 115] #[{ accessFlags := 18, nameIndex := 5, descriptorIndex := 6, attributes := #[] }, { accessFlags := 18, nameIndex := 9, descriptorIndex := 10, attributes := #[] }, { accessFlags := 2, nameIndex := 19, descriptorIndex := 10, attributes := #[] }])
  fields := #[{ name := "name", type := (.object "java/lang/String"), accessFlags := 18, slot := 0, constantValue := 0 }, { name := "ordinal", type := .int, accessFlags := 18, slot := 1, constantValue := 0 }, { name := "hash", type := .int, accessFlags := 2, slot := 2, constantValue := 0 }]
  methods := #[]
  instanceTypes := #[(.object "java/lang/String"), .int, .int]
  staticTypes := #[]
  resolved := Array.replicate 204 none
  statics := none }

def pool6 : Array CpInfo := pool [(1, .class_ 2), (0, u "com/example/siringa/siringa/Multiplicity"), (2, u "ONE"), (0, u "Lcom/example/siringa/siringa/Multiplicity;"), (2, u "ZERO_OR_ONE"), (2, u "ONE_OR_MORE"), (2, u "ZERO_OR_MORE"), (0, .fieldref 1 17), (0, .nameAndType 18 19), (0, u "$VALUES"), (0, u "[Lcom/example/siringa/siringa/Multiplicity;"), (0, .methodref 21 22), (0, .class_ 19), (0, .nameAndType 23 24), (0, u "clone"), (0, u "()Ljava/lang/Object;"), (1, .class_ 28), (1, u "java/lang/Enum"), (6, .fieldref 1 36), (0, .nameAndType 37 38), (0, u "required"), (0, u "Z"), (0, .fieldref 1 40), (0, .nameAndType 41 38), (0, u "many"), (0, .methodref 1 43), (0, .nameAndType 44 45), (0, u "values"), (0, u "()[Lcom/example/siringa/siringa/Multiplicity;"), (16, u "of"), (0, u "(ZZ)Lcom/example/siringa/siringa/Multiplicity;"), (1, u "isRequired"), (0, u "()Z"), (0, u "isMany")] 5

def k6c0 : Code := { maxStack := 1, maxLocals := 0, code := prog_6_method_1_code, exceptionTable := #[], attributes := #[] }
def k6m0 : Method := { name := "values", desc := "()[Lcom/example/siringa/siringa/Multiplicity;", sig := { parameters := [], returnType := some (.array (.object "com/example/siringa/siringa/Multiplicity")) }, accessFlags := 9, code := some k6c0 }
def k6c1 : Code := { maxStack := 2, maxLocals := 7, code := prog_6_method_4_code, exceptionTable := #[], attributes := #[] }
def k6m1 : Method := { name := "of", desc := "(ZZ)Lcom/example/siringa/siringa/Multiplicity;", sig := { parameters := [.boolean, .boolean], returnType := some (.object "com/example/siringa/siringa/Multiplicity") }, accessFlags := 8, code := some k6c1 }
def k6c2 : Code := { maxStack := 1, maxLocals := 1, code := prog_6_method_5_code, exceptionTable := #[], attributes := #[] }
def k6m2 : Method := { name := "isRequired", desc := "()Z", sig := { parameters := [], returnType := some .boolean }, accessFlags := 0, code := some k6c2 }
def k6c3 : Code := { maxStack := 1, maxLocals := 1, code := prog_6_method_6_code, exceptionTable := #[], attributes := #[] }
def k6m3 : Method := { name := "isMany", desc := "()Z", sig := { parameters := [], returnType := some .boolean }, accessFlags := 0, code := some k6c3 }
/-- com/example/siringa/siringa/Multiplicity -/
def k6 : Class := { plain "com/example/siringa/siringa/Multiplicity" (some 5) with
  accessFlags := 16432
  interfaces := #[]
  cf := some (fileOf pool6 1 #[] #[{ accessFlags := 9, nameIndex := 44, descriptorIndex := 45, attributes := #[] }, { accessFlags := 8, nameIndex := 62, descriptorIndex := 63, attributes := #[] }, { accessFlags := 0, nameIndex := 65, descriptorIndex := 66, attributes := #[] }, { accessFlags := 0, nameIndex := 67, descriptorIndex := 66, attributes := #[] }] 16432 26 #[] #[{ accessFlags := 16409, nameIndex := 5, descriptorIndex := 6, attributes := #[] }, { accessFlags := 16409, nameIndex := 9, descriptorIndex := 6, attributes := #[] }, { accessFlags := 16409, nameIndex := 12, descriptorIndex := 6, attributes := #[] }, { accessFlags := 16409, nameIndex := 15, descriptorIndex := 6, attributes := #[] }, { accessFlags := 18, nameIndex := 37, descriptorIndex := 38, attributes := #[] }, { accessFlags := 18, nameIndex := 41, descriptorIndex := 38, attributes := #[] }, { accessFlags := 4122, nameIndex := 18, descriptorIndex := 19, attributes := #[] }])
  fields := #[{ name := "ONE", type := (.object "com/example/siringa/siringa/Multiplicity"), accessFlags := 16409, slot := 0, constantValue := 0 }, { name := "ZERO_OR_ONE", type := (.object "com/example/siringa/siringa/Multiplicity"), accessFlags := 16409, slot := 1, constantValue := 0 }, { name := "ONE_OR_MORE", type := (.object "com/example/siringa/siringa/Multiplicity"), accessFlags := 16409, slot := 2, constantValue := 0 }, { name := "ZERO_OR_MORE", type := (.object "com/example/siringa/siringa/Multiplicity"), accessFlags := 16409, slot := 3, constantValue := 0 }, { name := "required", type := .boolean, accessFlags := 18, slot := 3, constantValue := 0 }, { name := "many", type := .boolean, accessFlags := 18, slot := 4, constantValue := 0 }, { name := "$VALUES", type := (.array (.object "com/example/siringa/siringa/Multiplicity")), accessFlags := 4122, slot := 4, constantValue := 0 }]
  methods := #[k6m0, k6m1, k6m2, k6m3]
  instanceTypes := #[(.object "java/lang/String"), .int, .int, .boolean, .boolean]
  staticTypes := #[(.object "com/example/siringa/siringa/Multiplicity"), (.object "com/example/siringa/siringa/Multiplicity"), (.object "com/example/siringa/siringa/Multiplicity"), (.object "com/example/siringa/siringa/Multiplicity"), (.array (.object "com/example/siringa/siringa/Multiplicity"))]
  resolved := Array.replicate 73 none
  statics := some 0 }

def pool7 : Array CpInfo := pool [(1, .class_ 2), (0, u "java/lang/Cloneable"), (0, .class_ 4), (0, u "java/lang/Object")] 2

/-- java/lang/Cloneable -/
def k7 : Class := { plain "java/lang/Cloneable" (some 0) with
  accessFlags := 1537
  interfaces := #[]
  cf := some (fileOf pool7 1 #[] #[] 1537 3 #[] #[])
  fields := #[]
  methods := #[]
  instanceTypes := #[]
  staticTypes := #[]
  resolved := Array.replicate 7 none
  statics := none }

/-- the primitive byte -/
def k8 : Class := { plain "byte" none with kind := .primitive 'B', accessFlags := 0x411 }
/-- [B -/
def k9 : Class := { plain "[B" (some 0) with kind := .array 8 .byte, interfaces := #[7, 4], accessFlags := 1041 }

/-- the primitive int -/
def k10 : Class := { plain "int" none with kind := .primitive 'I', accessFlags := 0x411 }
/-- [I -/
def k11 : Class := { plain "[I" (some 0) with kind := .array 10 .int, interfaces := #[7, 4], accessFlags := 1041 }

/-- [Lcom/example/siringa/siringa/Multiplicity; -/
def k12 : Class := { plain "[Lcom/example/siringa/siringa/Multiplicity;" (some 0) with kind := .array 6 (.object "com/example/siringa/siringa/Multiplicity"), interfaces := #[7, 4], accessFlags := 1041 }

def heap : Heap := #[{ cls := 6, slots := #[.ref 2, .ref 3, .ref 4, .ref 5, .ref 1], vm := .statics 6 },
  { cls := 12, slots := #[.ref 2, .ref 3, .ref 4, .ref 5], vm := .none },
  { cls := 6, slots := #[.null, .int 0, .int 0, .int 1, .int 0], vm := .none },
  { cls := 6, slots := #[.null, .int 1, .int 0, .int 0, .int 0], vm := .none },
  { cls := 6, slots := #[.null, .int 2, .int 0, .int 1, .int 1], vm := .none },
  { cls := 6, slots := #[.null, .int 3, .int 0, .int 0, .int 1], vm := .none }]
def classes : Array Class := #[k0, k1, k2, k3, k4, k5, k6, k7, k8, k9, k10, k11, k12]
def interned : List (Array UInt16 × Addr) := []
def slotsUsed : Nat := 29
def theMethod : MethodId := ⟨1, 2⟩
def args0 : Array Value := #[.int 5, .int 1]
def aboutOver (below : List Frame) : State where
  vm := { classes := classes, interned := interned.toArray }
  heap := heap
  slotsUsed := slotsUsed
  threads := #[{ frames := .invoking theMethod args0 :: below }]
def below0 : List Frame := [.native { method := ⟨0, 0⟩, args := #[] }]
def about1 : State := aboutOver below0
def p0 : Program := .bare "" "" ""
def e0 : Env := launch0.env 0 0 0
theorem w_frames : about1.frames = Frame.invoking theMethod args0 :: below0 := rfl
set_option maxRecDepth 65536 in
theorem w_args : argsFit about1.vm theMethod args0 = true := by decide +kernel
set_option maxRecDepth 65536 in
theorem w_heap : heapFits about1 = true := by decide +kernel
set_option maxRecDepth 65536 in
theorem w_runnable : about1.curStatus? = some .runnable := by decide +kernel
set_option maxRecDepth 65536 in
theorem w_alone : about1.alone = true := by decide +kernel
set_option maxRecDepth 65536 in
theorem w_named : about1.methodNamed? x = some theMethod := by decide +kernel
set_option maxRecDepth 65536 in
theorem w_hears : about1.hears theMethod below0 = true := by decide +kernel
set_option maxRecDepth 65536 in
theorem w_ripe : about1.ripe theMethod args0 below0 = true := by decide +kernel
theorem w_running : about1.status = .running := rfl
set_option maxRecDepth 65536 in
theorem w_room : about1.hasRoom e0.platform room_1 = true :=
  launch0.hasRoom_least _ room_1 (by decide +kernel) (by decide +kernel) (by decide +kernel) (by decide +kernel) (by decide +kernel) (by decide +kernel)
theorem allAtoms_all (ts : List Jvm.Cond) (a : Array Jvm.Value) (st : Jvm.State) : (allAtoms ts).before a st = ts.all (fun c => c.before a st) := by
  induction ts with
  | nil => rfl
  | cons c t ih =>
    show (Jvm.Cond.and c (allAtoms t)).before a st = _
    rw [Jvm.Cond.before_and, ih, List.all_cons]
def words1 : List Jvm.Cond := Jvm.Cond.code x code maxLocals ret :: tables_1
/-- a 'code' word, met by the world's own term for the bytes: nothing is compared byte by byte -/
theorem code_word {y : MethodName} {bytes : ByteArray} {mx : Nat} {rt : Option FieldType} {a : Array Value} {s : State} {m : MethodId} {meth : Method} {c : Code} (h1 : s.methodNamed? y = some m) (h2 : s.vm.method? m = some meth) (h3 : meth.code = some c) (h4 : c.code = bytes)
    (h5 : (c.maxLocals == mx && c.exceptionTable.isEmpty && decide (c.maxStack ≤ mostOperands) && decide (meth.sig.returnType = rt) && !meth.locks && decide (parseMethodDescriptor y.desc = some meth.sig)) = true) : (Jvm.Cond.code y bytes mx rt).before a s = true := by
  simp only [Bool.and_eq_true, beq_iff_eq, Bool.not_eq_true', decide_eq_true_eq] at h5
  obtain ⟨⟨⟨⟨⟨g1, g2⟩, g3⟩, g4⟩, g5⟩, g6⟩ := h5
  simp [Cond.before, Cond.holds, Cond.value, h1, h2, h3, h4, g1, g2, g3, g4, g5, g6]
def isCode : Jvm.Cond → Bool
  | .code _ _ _ _ => true
  | _ => false
theorem all_split {L : List Jvm.Cond} {P : Jvm.Cond → Bool} (h1 : L.all (fun c => isCode c || P c) = true) (h2 : ∀ c ∈ L.filter isCode, P c = true) : L.all P = true := by
  refine List.all_eq_true.mpr fun c hc => ?_
  have h := List.all_eq_true.mp h1 c hc
  rcases Bool.eq_false_or_eq_true (isCode c) with hi | hi
  · exact h2 c (List.mem_filter.mpr ⟨hc, hi⟩)
  · simpa [hi] using h
set_option maxRecDepth 65536 in
theorem w_c0 : (Jvm.Cond.code x code maxLocals ret).before args0 about1 = true := code_word (m := ⟨1, 2⟩) (meth := k1m2) (c := k1c2) (by decide +kernel) rfl rfl rfl (by decide +kernel)
set_option maxRecDepth 65536 in
theorem w_c1 : (Jvm.Cond.code ({ cls := "com/example/siringa/siringa/Multiplicity", name := "of", desc := "(ZZ)Lcom/example/siringa/siringa/Multiplicity;" } : Jvm.MethodName) prog_6_method_4_code (7 : Nat) (Option.some (Jvm.ClassFile.FieldType.object "com/example/siringa/siringa/Multiplicity"))).before args0 about1 = true := code_word (m := ⟨6, 1⟩) (meth := k6m1) (c := k6c1) (by decide +kernel) rfl rfl rfl (by decide +kernel)
set_option maxRecDepth 65536 in
theorem w_c2 : (Jvm.Cond.code ({ cls := "com/example/siringa/siringa/Multiplicity", name := "values", desc := "()[Lcom/example/siringa/siringa/Multiplicity;" } : Jvm.MethodName) prog_6_method_1_code (0 : Nat) (Option.some (Jvm.ClassFile.FieldType.array (Jvm.ClassFile.FieldType.object "com/example/siringa/siringa/Multiplicity")))).before args0 about1 = true := code_word (m := ⟨6, 0⟩) (meth := k6m0) (c := k6c0) (by decide +kernel) rfl rfl rfl (by decide +kernel)
set_option maxRecDepth 65536 in
theorem w_c3 : (Jvm.Cond.code ({ cls := "com/example/siringa/siringa/MultiplicityOfPinLaw", name := "expected", desc := "(ZZ)Lcom/example/siringa/siringa/Multiplicity;" } : Jvm.MethodName) method_2_code (2 : Nat) (Option.some (Jvm.ClassFile.FieldType.object "com/example/siringa/siringa/Multiplicity"))).before args0 about1 = true := code_word (m := ⟨1, 1⟩) (meth := k1m1) (c := k1c1) (by decide +kernel) rfl rfl rfl (by decide +kernel)
set_option maxRecDepth 65536 in
theorem w_c4 : (Jvm.Cond.code ({ cls := "com/example/siringa/siringa/Multiplicity", name := "isRequired", desc := "()Z" } : Jvm.MethodName) prog_6_method_5_code (1 : Nat) (Option.some Jvm.ClassFile.FieldType.boolean)).before args0 about1 = true := code_word (m := ⟨6, 2⟩) (meth := k6m2) (c := k6c2) (by decide +kernel) rfl rfl rfl (by decide +kernel)
set_option maxRecDepth 65536 in
theorem w_c5 : (Jvm.Cond.code ({ cls := "com/example/siringa/siringa/Multiplicity", name := "isMany", desc := "()Z" } : Jvm.MethodName) prog_6_method_6_code (1 : Nat) (Option.some Jvm.ClassFile.FieldType.boolean)).before args0 about1 = true := code_word (m := ⟨6, 3⟩) (meth := k6m3) (c := k6c3) (by decide +kernel) rfl rfl rfl (by decide +kernel)
def codes1 : List Jvm.Cond := [Jvm.Cond.code x code maxLocals ret, Jvm.Cond.code ({ cls := "com/example/siringa/siringa/Multiplicity", name := "of", desc := "(ZZ)Lcom/example/siringa/siringa/Multiplicity;" } : Jvm.MethodName) prog_6_method_4_code (7 : Nat) (Option.some (Jvm.ClassFile.FieldType.object "com/example/siringa/siringa/Multiplicity")), Jvm.Cond.code ({ cls := "com/example/siringa/siringa/Multiplicity", name := "values", desc := "()[Lcom/example/siringa/siringa/Multiplicity;" } : Jvm.MethodName) prog_6_method_1_code (0 : Nat) (Option.some (Jvm.ClassFile.FieldType.array (Jvm.ClassFile.FieldType.object "com/example/siringa/siringa/Multiplicity"))), Jvm.Cond.code ({ cls := "com/example/siringa/siringa/MultiplicityOfPinLaw", name := "expected", desc := "(ZZ)Lcom/example/siringa/siringa/Multiplicity;" } : Jvm.MethodName) method_2_code (2 : Nat) (Option.some (Jvm.ClassFile.FieldType.object "com/example/siringa/siringa/Multiplicity")), Jvm.Cond.code ({ cls := "com/example/siringa/siringa/Multiplicity", name := "isRequired", desc := "()Z" } : Jvm.MethodName) prog_6_method_5_code (1 : Nat) (Option.some Jvm.ClassFile.FieldType.boolean), Jvm.Cond.code ({ cls := "com/example/siringa/siringa/Multiplicity", name := "isMany", desc := "()Z" } : Jvm.MethodName) prog_6_method_6_code (1 : Nat) (Option.some Jvm.ClassFile.FieldType.boolean)]
set_option maxRecDepth 65536 in
theorem codes_eq : words1.filter isCode = codes1 := rfl
theorem w_codes : ∀ c ∈ words1.filter isCode, c.before args0 about1 = true := by
  rw [codes_eq]
  intro c hc
  simp only [codes1, List.mem_cons, List.not_mem_nil, or_false] at hc
  rcases hc with rfl | rfl | rfl | rfl | rfl | rfl
  · exact w_c0
  · exact w_c1
  · exact w_c2
  · exact w_c3
  · exact w_c4
  · exact w_c5
set_option maxRecDepth 65536 in
theorem w_t1 : (words1.take 24).all (fun c => isCode c || c.before args0 about1) = true := by decide +kernel
set_option maxRecDepth 65536 in
theorem w_t2 : (words1.drop 24).all (fun c => isCode c || c.before args0 about1) = true := by decide +kernel
theorem w_tables : (allAtoms (Jvm.Cond.code x code maxLocals ret :: tables_1)).before args0 about1 = true := by
  rw [allAtoms_all]
  show words1.all (fun c => c.before args0 about1) = true
  refine all_split ?_ w_codes
  rw [← List.take_append_drop 24 words1, List.all_append, w_t1, w_t2]
  rfl
set_option maxRecDepth 65536 in
theorem w_case : (Jvm.Cond.and given_1 narrow_1).before args0 about1 = true := by decide +kernel
theorem w_applies : (headSpec (Jvm.Cond.code x code maxLocals ret :: tables_1) room_1).applies x e0.platform about1 = true :=
  (Spec.applies_iff w_frames).mpr ⟨w_running, w_runnable, w_alone, w_named, w_hears, w_ripe, w_room, w_tables⟩
theorem atStart : AtStart classFile x code maxLocals ret World_1 tables_1 room_1 Calls_1 rest_1 Pre_1 launch0 p0 e0 about1 theMethod args0 below0 :=
  ⟨lists_1, trivial, launch0.admits_env _ _ _, launch0.least_env, fairChoices_fair.cas, fairChoices_fair.clock, w_frames, w_args, w_heap, w_applies, trivial, trivial, w_case⟩
end start1
theorem witness_1 : WitnessClaimed_1 := ⟨start1.p0, start1.e0, start1.about1, start1.theMethod, start1.args0, start1.below0, start1.atStart⟩
end Jvm.Pilot.@@N@@
