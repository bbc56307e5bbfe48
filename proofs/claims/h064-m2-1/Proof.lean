import JvmDerived
import JvmDerived.Pilot.@@N@@Statement
import JvmDerived.Pilot.@@N@@Code
set_option linter.unusedVariables false
set_option linter.unusedSimpArgs false
namespace Jvm.Pilot.@@N@@
open Jvm Jvm.ClassFile Sem Op Lib Jvm.Free Jvm.Stand Jvm.LawKit Jvm.RoadKit Bundle Jvm.Pilot.@@N@@.Jvm.D
section OwnKit
variable {p : Program} {l : Launch} {e : Env} {R : Room} {s : State} {m : MethodId} {args : Array Value} {below : List Frame} {meth : Method} {c : Code} {T : State} {locs : List Loc} {cells slots : Nat} {Z : State} {a0 : Array Value} {h h' h0 : Heap}
/-- the run comes, from the frame g over T, to an end of which F holds -/
def own_Go (tb : Tables) (e : Env) (below : List Frame) (F : State → Outcome → Prop) (T : State) (g : JFrame) : Prop := ∃ s₂ o, Steps tb e below (T.setTop g) s₂ ∧ F s₂ o
theorem own_st {tb : Tables} {F : State → Outcome → Prop} {T' : State} {g g' : JFrame} (st : ∀ t, Steps tb e below (T'.setTop g') t → Steps tb e below (T.setTop g) t) (k : own_Go tb e below F T' g') : own_Go tb e below F T g := by
  obtain ⟨a, o, h1, h2⟩ := k
  exact ⟨a, o, st a h1, h2⟩
/-- the end that a contract asks -/
def own_F (below : List Frame) (s : State) (Q : Option Value → Heap → List Loc → Prop) (C S : Nat) : State → Outcome → Prop := fun s₂ o => s₂.status = .running ∧ Ended s₂ below o ∧ ∃ v L, o = .returned v ∧ Q v s₂.heap L ∧ FrameEnd s o s₂ L C S
/-- what a body's walk knows of the body -/
def own_In (p : Program) (s : State) (m : MethodId) (meth : Method) (c : Code) (Z : State) (bytes : ByteArray) (maxL : Nat) (own nm : String) (ret : Option FieldType) : Prop := p.tables.exec = Jvm.exec ∧ c.code = bytes ∧ c.maxLocals = maxL ∧ s.vm.findClass own = some m.cls ∧ meth.name = nm ∧ meth.sig.returnType = ret ∧ meth.locks = false ∧ Z.Warmed39 s.vm
theorem own_enter {y : MethodName} {bytes : ByteArray} {maxL : Nat} {ret : Option FieldType} {ws : List Jvm.Cond} {rm : Room} {as' : Array Value} {Q : Option Value → Heap → List Loc → Prop} {C S : Nat} (hp : plainFor y = true)
    (body : ∀ (p : Program) (e : Env) (s : State) (m : MethodId) (below : List Frame) (meth : Method) (c : Code) (T : State), Stand p l e rm s m as' below meth c T [] 0 0 → own_In p s m meth c Z bytes maxL y.cls y.name ret → T.heap = h0 → own_Go p.tables e below (own_F below s Q C S) T (entryFrame m as' maxL)) :
    MetFree l y (head1 (Jvm.Cond.code y bytes maxL ret :: ws) rm) (fun a U => a = as' ∧ Z.Warmed39 U.vm ∧ U.heap = h0) (fun _ _ _ _ _ => True) (fun _ U o U' => ∃ v L, o = .returned v ∧ Q v U'.heap L ∧ FrameEnd U o U' L C S) := by
  refine MetFree.of_bodySF hp hisR ?_
  intro p e s m args below meth c s₁ Bd hml0 hP hK
  obtain ⟨rfl, hZ, hh⟩ := hP
  exact body p e s m below meth c s₁ (Stand.of_body Bd) ⟨Bd.exec, Bd.bytes, hml0, findClass_of_methodNamed Bd.named, (name_of_methodNamed Bd.named Bd.method).1, Bd.returns, Bd.notSynchronized, hZ⟩ (by rw [← hh, Bd.state]; rfl)
theorem own_cast {tb : Tables} {F : State → Outcome → Prop} {g g' : JFrame} (q : g = g') (k : own_Go tb e below F T g') : own_Go tb e below F T g := q ▸ k
/-- the end of a walk: a boolean, byte, char or short -/
theorem own_retN (X : Stand p l e R s m args below meth c T locs cells slots) (hx : p.tables.exec = Jvm.exec) {t : FieldType} (hret : meth.sig.returnType = some t) (ht : t = .boolean ∨ t = .byte ∨ t = .char ∨ t = .short) (hlk : meth.locks = false) {pc : Nat} {Ls : Array Slot} {z : Int32} {rest : List Value}
    (hd : decode c.code pc = .ok (.ireturn, 1)) {Q : Option Value → Heap → List Loc → Prop} {C S : Nat} (hQ : Q (some (.int (nar t z))) T.heap locs) (hC : cells ≤ C) (hS : slots ≤ S) : own_Go p.tables e below (own_F below s Q C S) T (mkF m pc Ls (.int z :: rest)) := by
  obtain ⟨fs, hr, hrun, hended, hW, hsame⟩ := X.leave (v := some (.int (nar t z))) (fun q => by rw [hret] at q; cases q)
  exact ⟨_, _, retN X hx hret ht hd hr, hrun, hended, _, _, rfl, hQ, ⟨_, rfl⟩, hW, hsame.mono hC hS⟩
theorem own_retO (X : Stand p l e R s m args below meth c T locs cells slots) (hx : p.tables.exec = Jvm.exec) {t : FieldType} (hret : meth.sig.returnType = some t) (hlk : meth.locks = false) {pc : Nat} {Ls : Array Slot} {w : Value} {i : Instr} {rest : List Value} (hn : narrow t w = w)
    (hi : (i = .ireturn ∧ (t = .int ∨ t = .boolean ∨ t = .byte ∨ t = .char ∨ t = .short) ∧ ∃ z, w = .int z) ∨ (i = .lreturn ∧ t = .long ∧ ∃ z, w = .long z) ∨ (i = .dreturn ∧ t = .double ∧ ∃ z, w = .double z) ∨ (i = .freturn ∧ t = .float ∧ ∃ z, w = .float z) ∨ (i = .areturn ∧ t.isReference = true ∧ w.isRef = true))
    (hd : decode c.code pc = .ok (i, 1)) {Q : Option Value → Heap → List Loc → Prop} {C S : Nat} (hQ : Q (some w) T.heap locs) (hC : cells ≤ C) (hS : slots ≤ S) : own_Go p.tables e below (own_F below s Q C S) T (mkF m pc Ls (w :: rest)) := by
  obtain ⟨fs, hr, hrun, hended, hW, hsame⟩ := X.leave (v := some w) (fun q => by rw [hret] at q; cases q)
  exact ⟨_, _, retOut X hx hret hn hi hd hr, hrun, hended, _, _, rfl, hQ, ⟨_, rfl⟩, hW, hsame.mono hC hS⟩
/-- a reference -/
theorem own_retA (X : Stand p l e R s m args below meth c T locs cells slots) (hx : p.tables.exec = Jvm.exec) {t : FieldType} (hret : meth.sig.returnType = some t) (ht : t.isReference = true) (hlk : meth.locks = false) {pc : Nat} {Ls : Array Slot} {w : Value} {rest : List Value} (hw : w.isRef = true)
    (hd : decode c.code pc = .ok (.areturn, 1)) {Q : Option Value → Heap → List Loc → Prop} {C S : Nat} (hQ : Q (some w) T.heap locs) (hC : cells ≤ C) (hS : slots ≤ S) : own_Go p.tables e below (own_F below s Q C S) T (mkF m pc Ls (w :: rest)) := by
  refine own_retO X hx hret hlk ?_ (Or.inr (Or.inr (Or.inr (Or.inr ⟨rfl, ht, hw⟩)))) hd hQ hC hS
  rcases ref_cases hw with rfl | ⟨a, rfl⟩ <;> cases t <;> first | rfl | (simp [FieldType.isReference] at ht)
/-- an int -/
theorem own_retI (X : Stand p l e R s m args below meth c T locs cells slots) (hx : p.tables.exec = Jvm.exec) (hret : meth.sig.returnType = some .int) (hlk : meth.locks = false) {pc : Nat} {Ls : Array Slot} {z : Int32} {rest : List Value}
    (hd : decode c.code pc = .ok (.ireturn, 1)) {Q : Option Value → Heap → List Loc → Prop} {C S : Nat} (hQ : Q (some (.int z)) T.heap locs) (hC : cells ≤ C) (hS : slots ≤ S) : own_Go p.tables e below (own_F below s Q C S) T (mkF m pc Ls (.int z :: rest)) :=
  own_retO X hx hret hlk rfl (Or.inl ⟨rfl, Or.inl rfl, z, rfl⟩) hd hQ hC hS
/-- nothing -/
theorem own_retV (X : Stand p l e R s m args below meth c T locs cells slots) (hx : p.tables.exec = Jvm.exec) (hret : meth.sig.returnType = none) (hlk : meth.locks = false) {pc : Nat} {Ls : Array Slot}
    (hd : decode c.code pc = .ok (.return_, 1)) {Q : Option Value → Heap → List Loc → Prop} {C S : Nat} (hQ : Q none T.heap locs) (hC : cells ≤ C) (hS : slots ≤ S) : own_Go p.tables e below (own_F below s Q C S) T (mkF m pc Ls []) := by
  obtain ⟨fs, hr, hrun, hended, hW, hsame⟩ := X.leave (v := none) (fun _ => rfl)
  exact ⟨_, _, X.returnOut hx hret hd hr, hrun, hended, _, _, rfl, hQ, ⟨_, rfl⟩, hW, hsame.mono hC hS⟩
/-- calls, each by its callee's contract -/
theorem own_callS (X : Stand p l e R s m args below meth c T locs cells slots) (hx : p.tables.exec = Jvm.exec) (hZ : Z.Warmed39 s.vm) {own : String} {index : Nat} {y : MethodName} {bytes : ByteArray} {maxL : Nat} {ret : Option FieldType} (hown : s.vm.findClass own = some m.cls)
    (w1 : (Jvm.Cond.methodLink own index y).before a0 Z = true) (w2 : (Jvm.Cond.static y).before a0 Z = true) (w3 : (Jvm.Cond.initialized y.cls).before a0 Z = true) (w4 : (Jvm.Cond.code y bytes maxL ret).before a0 Z = true) (hy : y.cls ≠ "java/lang/invoke/MethodHandle" ∧ y.cls ≠ "java/lang/invoke/VarHandle")
    {rm : Room} {as' : Array Value} {Q : Option Value → Heap → List Loc → Prop} (hM : MetFree l y (head1 [Jvm.Cond.code y bytes maxL ret] rm) (fun a U => a = as' ∧ Z.Warmed39 U.vm ∧ U.heap = h) (fun _ _ _ _ _ => True) (fun _ U o U' => ∃ v L, o = .returned v ∧ Q v U'.heap L ∧ FrameEnd U o U' L rm.cells rm.slots))
    (eT : T.heap = h) {g : JFrame} (hg : g.method = m) (hsize : g.locals.size = c.maxLocals) {argsL rest : List Value} (hlen : ∀ sig, parseMethodDescriptor y.desc = some sig → argsL.length = sig.parameters.length) (hstack : g.stack = argsL.reverse ++ rest) (has : argsL.toArray = as') {W : Nat} (hW : 2 * g.monitorRoom + (rest.map fun v => v.category).sum ≤ W)
    (hd : decode c.code g.pc = .ok (.invokestatic index, 3)) (hf : rm.frames + 1 ≤ R.frames) (hl : W + (maxL + 11) + rm.locals ≤ R.locals) (hc : cells + rm.cells ≤ R.cells) (hs : slots + rm.slots ≤ R.slots) :
    ∃ v T' L, Q v T'.heap L ∧ Stand p l e R s m args below meth c T' (locs ++ L) (cells + rm.cells) (slots + rm.slots) ∧ ∀ t, Steps p.tables e below (T'.setTop { g with pc := g.pc + 3, stack := v.toList ++ rest }) t → Steps p.tables e below (T.setTop g) t := by
  obtain ⟨v, vm₁, ⟨T', L', k', n'⟩, -, X', ⟨L, hQ, l1, y1, z1⟩, st⟩ := Jvm.LawKit.callS X hx (y := y) hown (mvT hZ w1) (mvT hZ w2) (mvT hZ w3) (mvT hZ w4) hy (backOf (W := W) hM hZ w4 w3 hf hl) hg hsize (argsL := argsL) (rest := rest) hlen hstack hW hd (fun _ _ => ⟨has, eT, hc, hs⟩)
  dsimp only [Pt.U, Pt.locs, Pt.cells, Pt.slots] at X' l1 y1 z1 st hQ
  subst l1 y1 z1
  exact ⟨v, T', L, hQ, X', st⟩
theorem own_callI (X : Stand p l e R s m args below meth c T locs cells slots) (hx : p.tables.exec = Jvm.exec) (hZ : Z.Warmed39 s.vm) {own : String} {index : Nat} {y : MethodName} {bytes : ByteArray} {maxL : Nat} (hn : y.name = "<init>") (hown : s.vm.findClass own = some m.cls)
    (w1 : (Jvm.Cond.methodLink own index y).before a0 Z = true) (w2 : (Jvm.Cond.instanceMethod y).before a0 Z = true) (w3 : (Jvm.Cond.initialized y.cls).before a0 Z = true) (w4 : (Jvm.Cond.code y bytes maxL none).before a0 Z = true) (hy : y.cls ≠ "java/lang/invoke/MethodHandle" ∧ y.cls ≠ "java/lang/invoke/VarHandle")
    {rm : Room} {as' : Array Value} {Q : Option Value → Heap → List Loc → Prop} (hM : MetFree l y (head1 [Jvm.Cond.code y bytes maxL none] rm) (fun a U => a = as' ∧ Z.Warmed39 U.vm ∧ U.heap = h) (fun _ _ _ _ _ => True) (fun _ U o U' => ∃ v L, o = .returned v ∧ Q v U'.heap L ∧ FrameEnd U o U' L rm.cells rm.slots))
    (eT : T.heap = h) {g : JFrame} (hg : g.method = m) (hsize : g.locals.size = c.maxLocals) {a : Addr} {argsL rest : List Value} (hlen : ∀ sig, parseMethodDescriptor y.desc = some sig → argsL.length = sig.parameters.length) (hstack : g.stack = argsL.reverse ++ .ref a :: rest) (has : (.ref a :: argsL).toArray = as') {W : Nat} (hW : 2 * g.monitorRoom + (rest.map fun v => v.category).sum ≤ W)
    (hd : decode c.code g.pc = .ok (.invokespecial index, 3)) (hf : rm.frames + 1 ≤ R.frames) (hl : W + (maxL + 11) + rm.locals ≤ R.locals) (hc : cells + rm.cells ≤ R.cells) (hs : slots + rm.slots ≤ R.slots) :
    ∃ v T' L, Q v T'.heap L ∧ Stand p l e R s m args below meth c T' (locs ++ L) (cells + rm.cells) (slots + rm.slots) ∧ ∀ t, Steps p.tables e below (T'.setTop { g with pc := g.pc + 3, stack := v.toList ++ rest }) t → Steps p.tables e below (T.setTop g) t := by
  obtain ⟨v, vm₁, ⟨T', L', k', n'⟩, -, X', ⟨L, hQ, l1, y1, z1⟩, st⟩ := X.specialBack hx (y := y) hn hown (mvT hZ w1) (mvT hZ w2) (mvT hZ w4) hy (backOf (W := W) hM hZ w4 w3 hf hl) hg hsize (Steps.refl _) (a := a) (argsL := argsL) (rest := rest) hlen hstack hW hd (fun _ _ => ⟨has, eT, hc, hs⟩)
  dsimp only [Pt.U, Pt.locs, Pt.cells, Pt.slots] at X' l1 y1 z1 st hQ
  subst l1 y1 z1
  exact ⟨v, T', L, hQ, X', fun t k => st.trans k⟩
theorem own_callV (X : Stand p l e R s m args below meth c T locs cells slots) (hx : p.tables.exec = Jvm.exec) (hZ : Z.Warmed39 s.vm) {own C : String} {index : Nat} {y : MethodName} {bytes : ByteArray} {maxL : Nat} {ret : Option FieldType} (hown : s.vm.findClass own = some m.cls)
    (w1 : (Jvm.Cond.methodLink own index y).before a0 Z = true) (w2 : (Jvm.Cond.declares y).before a0 Z = true) (w3 : (Jvm.Cond.selects C y y).before a0 Z = true) (w5 : (Jvm.Cond.instanceMethod y).before a0 Z = true) (w6 : (Jvm.Cond.initialized y.cls).before a0 Z = true) (w4 : (Jvm.Cond.code y bytes maxL ret).before a0 Z = true) (hy : y.cls ≠ "java/lang/invoke/MethodHandle" ∧ y.cls ≠ "java/lang/invoke/VarHandle")
    {rm : Room} {as' : Array Value} {Q : Option Value → Heap → List Loc → Prop} (hM : MetFree l y (head1 [Jvm.Cond.code y bytes maxL ret] rm) (fun a U => a = as' ∧ Z.Warmed39 U.vm ∧ U.heap = h) (fun _ _ _ _ _ => True) (fun _ U o U' => ∃ v L, o = .returned v ∧ Q v U'.heap L ∧ FrameEnd U o U' L rm.cells rm.slots))
    (eT : T.heap = h) {a : Addr} (E : Exa Z h a C) {g : JFrame} (hg : g.method = m) (hsize : g.locals.size = c.maxLocals) {argsL rest : List Value} (hlen : ∀ sig, parseMethodDescriptor y.desc = some sig → argsL.length = sig.parameters.length) (hstack : g.stack = argsL.reverse ++ .ref a :: rest) (has : (.ref a :: argsL).toArray = as') {W : Nat} (hW : 2 * g.monitorRoom + (rest.map fun v => v.category).sum ≤ W)
    (hd : decode c.code g.pc = .ok (.invokevirtual index, 3)) (hf : rm.frames + 1 ≤ R.frames) (hl : W + (maxL + 11) + rm.locals ≤ R.locals) (hc : cells + rm.cells ≤ R.cells) (hs : slots + rm.slots ≤ R.slots) :
    ∃ v T' L, Q v T'.heap L ∧ Stand p l e R s m args below meth c T' (locs ++ L) (cells + rm.cells) (slots + rm.slots) ∧ ∀ t, Steps p.tables e below (T'.setTop { g with pc := g.pc + 3, stack := v.toList ++ rest }) t → Steps p.tables e below (T.setTop g) t := by
  obtain ⟨cq, kq, qa, qb, qc⟩ := isOf hZ eT E
  obtain ⟨v, vm₁, ⟨T', L', k', n'⟩, -, X', ⟨L, hQ, l1, y1, z1⟩, st⟩ := X.virtualBack hx (y := y) (z := y) hown (mvT hZ w1) (mvT hZ w2) (notFace_of_selects (args := #[]) (mvT hZ w3)) (mvT hZ w3) (mvT hZ w5) hy (backOf (W := W) hM hZ w4 w6 hf hl) qa qc hg hsize (Steps.refl _) (argsL := argsL) (rest := rest) hlen hstack hW hd (fun _ _ => ⟨has, eT, hc, hs⟩)
  dsimp only [Pt.U, Pt.locs, Pt.cells, Pt.slots] at X' l1 y1 z1 st hQ
  subst l1 y1 z1
  exact ⟨v, T', L, hQ, X', fun t k => st.trans k⟩
/-- a method that a class above declares -/
theorem own_callU (X : Stand p l e R s m args below meth c T locs cells slots) (hx : p.tables.exec = Jvm.exec) (hZ : Z.Warmed39 s.vm) {own C owner : String} {index : Nat} {x y : MethodName} {bytes : ByteArray} {maxL : Nat} {ret : Option FieldType} (hown : s.vm.findClass own = some m.cls)
    (w1 : (Jvm.Cond.methodLink own index x).before a0 Z = true) (w0 : (Jvm.Cond.sameMethod x.cls owner x.name x.desc).before a0 Z = true) (w2 : (Jvm.Cond.declares ⟨owner, x.name, x.desc⟩).before a0 Z = true) (hy : owner ≠ "java/lang/invoke/MethodHandle" ∧ owner ≠ "java/lang/invoke/VarHandle") (w3 : (Jvm.Cond.selects C x y).before a0 Z = true) (w5 : (Jvm.Cond.instanceMethod y).before a0 Z = true) (w6 : (Jvm.Cond.initialized y.cls).before a0 Z = true) (w4 : (Jvm.Cond.code y bytes maxL ret).before a0 Z = true)
    {rm : Room} {as' : Array Value} {Q : Option Value → Heap → List Loc → Prop} (hM : MetFree l y (head1 [Jvm.Cond.code y bytes maxL ret] rm) (fun a U => a = as' ∧ Z.Warmed39 U.vm ∧ U.heap = h) (fun _ _ _ _ _ => True) (fun _ U o U' => ∃ v L, o = .returned v ∧ Q v U'.heap L ∧ FrameEnd U o U' L rm.cells rm.slots))
    (eT : T.heap = h) {a : Addr} (E : Exa Z h a C) {g : JFrame} (hg : g.method = m) (hsize : g.locals.size = c.maxLocals) {argsL rest : List Value} (hlen : ∀ sig, parseMethodDescriptor x.desc = some sig → argsL.length = sig.parameters.length) (hstack : g.stack = argsL.reverse ++ .ref a :: rest) (has : (.ref a :: argsL).toArray = as') {W : Nat} (hW : 2 * g.monitorRoom + (rest.map fun v => v.category).sum ≤ W)
    (hd : decode c.code g.pc = .ok (.invokevirtual index, 3)) (hf : rm.frames + 1 ≤ R.frames) (hl : W + (maxL + 11) + rm.locals ≤ R.locals) (hc : cells + rm.cells ≤ R.cells) (hs : slots + rm.slots ≤ R.slots) :
    ∃ v T' L, Q v T'.heap L ∧ Stand p l e R s m args below meth c T' (locs ++ L) (cells + rm.cells) (slots + rm.slots) ∧ ∀ t, Steps p.tables e below (T'.setTop { g with pc := g.pc + 3, stack := v.toList ++ rest }) t → Steps p.tables e below (T.setTop g) t := by
  obtain ⟨cq, kq, qa, qb, qc⟩ := isOf hZ eT E
  obtain ⟨v, vm₁, ⟨T', L', k', n'⟩, -, X', ⟨L, hQ, l1, y1, z1⟩, st⟩ := X.virtualBackUp hx (x := x) (y := y) hown (mvT hZ w1) (mvT hZ w0) (mvT hZ w2) hy (mvT hZ w3) (mvT hZ w5) (backOf (W := W) hM hZ w4 w6 hf hl) qa qc hg hsize (Steps.refl _) (argsL := argsL) (rest := rest) hlen hstack hW hd (fun _ _ => ⟨has, eT, hc, hs⟩)
  dsimp only [Pt.U, Pt.locs, Pt.cells, Pt.slots] at X' l1 y1 z1 st hQ
  subst l1 y1 z1
  exact ⟨v, T', L, hQ, X', fun t k => st.trans k⟩
/-- heaps -/
theorem own_extr (h : Heap) : Ext h h := ⟨Nat.le_refl _, fun _ _ q => q⟩
theorem own_extt (O : Ext h0 h) (E : Ext h h') : Ext h0 h' := ⟨Nat.le_trans O.1 E.1, fun a c q => E.2 a c (O.2 a c q)⟩
theorem own_extw (O : Ext h0 h) {a : Addr} {sl : Nat} {v : Value} (W : Wr h h' a sl v) (q : h0.size ≤ a) : Ext h0 h' :=
  ⟨Nat.le_trans O.1 (Keep.of_wr W).1, fun x c r => (Keep.of_wr W).2.1 x c (O.2 x c r) (fun z => by cases List.mem_singleton.mp z; exact absurd (Array.getElem?_eq_some_iff.mp r).1 (Nat.not_lt.mpr q))⟩
theorem own_extk (O : Ext h0 h) {a : Addr} (K : Keep h h' [a]) (q : h0.size ≤ a) : Ext h0 h' :=
  ⟨Nat.le_trans O.1 K.1, fun x c r => K.2.1 x c (O.2 x c r) (fun z => by cases List.mem_singleton.mp z; exact absurd (Array.getElem?_eq_some_iff.mp r).1 (Nat.not_lt.mpr q))⟩
/-- arrays: a store and a load by the array's fact -/
theorem own_stZ (X : Stand p l e R s m args below meth c T locs cells slots) (hx : p.tables.exec = Jvm.exec) (hZ : Z.Warmed39 s.vm) (eT : T.heap = h) {a : Addr} {k : ClassId} {n : Int32} {vs : List Value} {dv : Value} (V : Arv Z h a k .boolean n vs dv) {j x : Int32} (hj : ¬ j < 0 ∧ j < n) (i : Nat) (hi : j.toNatClampNeg = i) (hil : i < vs.length) {g : JFrame} (hg : g.method = m) {rest : List Value} (hs : g.stack = .int x :: .int j :: .ref a :: rest) (hd : decode c.code g.pc = .ok (.bastore, 1)) :
    ∃ T' h', Stand p l e R s m args below meth c T' (locs ++ [⟨a, j.toNatClampNeg⟩]) cells slots ∧ T'.heap = h' ∧ Wr h h' a j.toNatClampNeg (.int (nar .boolean x)) ∧ Arv Z h' a k .boolean n (vs.set i (.int (nar .boolean x))) dv ∧ ∀ t, Steps p.tables e below (T'.setTop { g with pc := g.pc + 1, stack := rest }) t → Steps p.tables e below (T.setTop g) t := by
  obtain ⟨cl, A, q1, S1, N1, H1, G1⟩ := V
  obtain ⟨T', h', X', e', W', st⟩ := stZ X hx hZ eT A (j := j) (inb_of S1 hj) hg hs hd
  exact ⟨T', h', X', e', W', Arv.set A q1 S1 N1 H1 G1 (fits_nar_bool x) W' i hi hil, st⟩
theorem own_stB (X : Stand p l e R s m args below meth c T locs cells slots) (hx : p.tables.exec = Jvm.exec) (hZ : Z.Warmed39 s.vm) (eT : T.heap = h) {a : Addr} {k : ClassId} {n : Int32} {vs : List Value} {dv : Value} (V : Arv Z h a k .byte n vs dv) {j x : Int32} (hj : ¬ j < 0 ∧ j < n) (i : Nat) (hi : j.toNatClampNeg = i) (hil : i < vs.length) {g : JFrame} (hg : g.method = m) {rest : List Value} (hs : g.stack = .int x :: .int j :: .ref a :: rest) (hd : decode c.code g.pc = .ok (.bastore, 1)) :
    ∃ T' h', Stand p l e R s m args below meth c T' (locs ++ [⟨a, j.toNatClampNeg⟩]) cells slots ∧ T'.heap = h' ∧ Wr h h' a j.toNatClampNeg (.int (nar .byte x)) ∧ Arv Z h' a k .byte n (vs.set i (.int (nar .byte x))) dv ∧ ∀ t, Steps p.tables e below (T'.setTop { g with pc := g.pc + 1, stack := rest }) t → Steps p.tables e below (T.setTop g) t := by
  obtain ⟨cl, A, q1, S1, N1, H1, G1⟩ := V
  obtain ⟨T', h', X', e', W', st⟩ := stB X hx hZ eT A (j := j) (inb_of S1 hj) hg hs hd
  exact ⟨T', h', X', e', W', Arv.set A q1 S1 N1 H1 G1 (fits_nar_byte x) W' i hi hil, st⟩
theorem own_stI (X : Stand p l e R s m args below meth c T locs cells slots) (hx : p.tables.exec = Jvm.exec) (hZ : Z.Warmed39 s.vm) (eT : T.heap = h) {a : Addr} {k : ClassId} {n : Int32} {vs : List Value} {dv : Value} (V : Arv Z h a k .int n vs dv) {j x : Int32} (hj : ¬ j < 0 ∧ j < n) (i : Nat) (hi : j.toNatClampNeg = i) (hil : i < vs.length) {g : JFrame} (hg : g.method = m) {rest : List Value} (hs : g.stack = .int x :: .int j :: .ref a :: rest) (hd : decode c.code g.pc = .ok (.iastore, 1)) :
    ∃ T' h', Stand p l e R s m args below meth c T' (locs ++ [⟨a, j.toNatClampNeg⟩]) cells slots ∧ T'.heap = h' ∧ Wr h h' a j.toNatClampNeg (.int x) ∧ Arv Z h' a k .int n (vs.set i (.int x)) dv ∧ ∀ t, Steps p.tables e below (T'.setTop { g with pc := g.pc + 1, stack := rest }) t → Steps p.tables e below (T.setTop g) t := by
  obtain ⟨cl, A, q1, S1, N1, H1, G1⟩ := V
  obtain ⟨T', h', X', e', W', st⟩ := stI X hx hZ eT A (j := j) (inb_of S1 hj) hg hs hd
  exact ⟨T', h', X', e', W', Arv.set A q1 S1 N1 H1 G1 rfl W' i hi hil, st⟩
theorem own_stC (X : Stand p l e R s m args below meth c T locs cells slots) (hx : p.tables.exec = Jvm.exec) (hZ : Z.Warmed39 s.vm) (eT : T.heap = h) {a : Addr} {k : ClassId} {n : Int32} {vs : List Value} {dv : Value} (V : Arv Z h a k .char n vs dv) {j x : Int32} (hj : ¬ j < 0 ∧ j < n) (i : Nat) (hi : j.toNatClampNeg = i) (hil : i < vs.length) {g : JFrame} (hg : g.method = m) {rest : List Value} (hs : g.stack = .int x :: .int j :: .ref a :: rest) (hd : decode c.code g.pc = .ok (.castore, 1)) :
    ∃ T' h', Stand p l e R s m args below meth c T' (locs ++ [⟨a, j.toNatClampNeg⟩]) cells slots ∧ T'.heap = h' ∧ Wr h h' a j.toNatClampNeg (.int (nar .char x)) ∧ Arv Z h' a k .char n (vs.set i (.int (nar .char x))) dv ∧ ∀ t, Steps p.tables e below (T'.setTop { g with pc := g.pc + 1, stack := rest }) t → Steps p.tables e below (T.setTop g) t := by
  obtain ⟨cl, A, q1, S1, N1, H1, G1⟩ := V
  obtain ⟨T', h', X', e', W', st⟩ := stC X hx hZ eT A (j := j) (inb_of S1 hj) hg hs hd
  exact ⟨T', h', X', e', W', Arv.set A q1 S1 N1 H1 G1 (fits_nar_char x) W' i hi hil, st⟩
theorem own_stR (X : Stand p l e R s m args below meth c T locs cells slots) (hx : p.tables.exec = Jvm.exec) (hZ : Z.Warmed39 s.vm) (eT : T.heap = h) {a : Addr} {k : ClassId} {ty : FieldType} {n : Int32} {vs : List Value} {dv : Value} (V : Arv Z h a k ty n vs dv) (hty : ty.isReference = true) {j : Int32} {v : Value} (hv : fits ty v = true) (hj : ¬ j < 0 ∧ j < n) (i : Nat) (hi : j.toNatClampNeg = i) (hil : i < vs.length) (F : ∀ cl : Cell, Arr Z h a cl ty → cl.cls = k → Sto Z h a v) {g : JFrame} (hg : g.method = m) {rest : List Value} (hs : g.stack = v :: .int j :: .ref a :: rest) (hd : decode c.code g.pc = .ok (.aastore, 1)) :
    ∃ T' h', Stand p l e R s m args below meth c T' (locs ++ [⟨a, j.toNatClampNeg⟩]) cells slots ∧ T'.heap = h' ∧ Wr h h' a j.toNatClampNeg v ∧ Arv Z h' a k ty n (vs.set i v) dv ∧ ∀ t, Steps p.tables e below (T'.setTop { g with pc := g.pc + 1, stack := rest }) t → Steps p.tables e below (T.setTop g) t := by
  obtain ⟨cl, A, q1, S1, N1, H1, G1⟩ := V
  obtain ⟨T', h', X', e', W', st⟩ := stR X hx hZ eT A (j := j) (inb_of S1 hj) hty (F cl A q1) hg hs hd
  exact ⟨T', h', X', e', W', Arv.set A q1 S1 N1 H1 G1 hv W' i hi hil, st⟩
theorem own_ldZ (X : Stand p l e R s m args below meth c T locs cells slots) (hx : p.tables.exec = Jvm.exec) (hZ : Z.Warmed39 s.vm) (eT : T.heap = h) {a : Addr} {k : ClassId} {n : Int32} {vs : List Value} {dv v : Value} (V : Arv Z h a k .boolean n vs dv) {j : Int32} (hj : ¬ j < 0 ∧ j < n) (hv : vs.getD j.toNatClampNeg dv = v) {g : JFrame} (hg : g.method = m) {rest : List Value} (hs : g.stack = .int j :: .ref a :: rest) (hd : decode c.code g.pc = .ok (.baload, 1)) :
    ∀ t, Steps p.tables e below (T.setTop { g with pc := g.pc + 1, stack := v :: rest }) t → Steps p.tables e below (T.setTop g) t := by
  obtain ⟨cl, A, q1, S1, N1, H1, G1⟩ := V
  exact X.baloadBooleans hx (by rw [eT]; exact A.1) (State.isArrayOf_alike hZ.alike A.2.1) A.2.2 (inb_of S1 hj) (H1.at (inb_of S1 hj) hv) hg hs hd
theorem own_ldB (X : Stand p l e R s m args below meth c T locs cells slots) (hx : p.tables.exec = Jvm.exec) (hZ : Z.Warmed39 s.vm) (eT : T.heap = h) {a : Addr} {k : ClassId} {n : Int32} {vs : List Value} {dv v : Value} (V : Arv Z h a k .byte n vs dv) {j : Int32} (hj : ¬ j < 0 ∧ j < n) (hv : vs.getD j.toNatClampNeg dv = v) {g : JFrame} (hg : g.method = m) {rest : List Value} (hs : g.stack = .int j :: .ref a :: rest) (hd : decode c.code g.pc = .ok (.baload, 1)) :
    ∀ t, Steps p.tables e below (T.setTop { g with pc := g.pc + 1, stack := v :: rest }) t → Steps p.tables e below (T.setTop g) t := by
  obtain ⟨cl, A, q1, S1, N1, H1, G1⟩ := V
  exact X.baloadBytes hx (by rw [eT]; exact A.1) (State.isArrayOf_alike hZ.alike A.2.1) A.2.2 (inb_of S1 hj) (H1.at (inb_of S1 hj) hv) hg hs hd
theorem own_ldI (X : Stand p l e R s m args below meth c T locs cells slots) (hx : p.tables.exec = Jvm.exec) (hZ : Z.Warmed39 s.vm) (eT : T.heap = h) {a : Addr} {k : ClassId} {n : Int32} {vs : List Value} {dv v : Value} (V : Arv Z h a k .int n vs dv) {j : Int32} (hj : ¬ j < 0 ∧ j < n) (hv : vs.getD j.toNatClampNeg dv = v) {g : JFrame} (hg : g.method = m) {rest : List Value} (hs : g.stack = .int j :: .ref a :: rest) (hd : decode c.code g.pc = .ok (.iaload, 1)) :
    ∀ t, Steps p.tables e below (T.setTop { g with pc := g.pc + 1, stack := v :: rest }) t → Steps p.tables e below (T.setTop g) t := by
  obtain ⟨cl, A, q1, S1, N1, H1, G1⟩ := V
  exact X.iaload hx (by rw [eT]; exact A.1) (State.isArrayOf_alike hZ.alike A.2.1) A.2.2 (inb_of S1 hj) (H1.at (inb_of S1 hj) hv) hg hs hd
theorem own_ldC (X : Stand p l e R s m args below meth c T locs cells slots) (hx : p.tables.exec = Jvm.exec) (hZ : Z.Warmed39 s.vm) (eT : T.heap = h) {a : Addr} {k : ClassId} {n : Int32} {vs : List Value} {dv v : Value} (V : Arv Z h a k .char n vs dv) {j : Int32} (hj : ¬ j < 0 ∧ j < n) (hv : vs.getD j.toNatClampNeg dv = v) {g : JFrame} (hg : g.method = m) {rest : List Value} (hs : g.stack = .int j :: .ref a :: rest) (hd : decode c.code g.pc = .ok (.caload, 1)) :
    ∀ t, Steps p.tables e below (T.setTop { g with pc := g.pc + 1, stack := v :: rest }) t → Steps p.tables e below (T.setTop g) t := by
  obtain ⟨cl, A, q1, S1, N1, H1, G1⟩ := V
  exact X.caload hx (by rw [eT]; exact A.1) (State.isArrayOf_alike hZ.alike A.2.1) A.2.2 (inb_of S1 hj) (H1.at (inb_of S1 hj) hv) hg hs hd
theorem own_ldR (X : Stand p l e R s m args below meth c T locs cells slots) (hx : p.tables.exec = Jvm.exec) (hZ : Z.Warmed39 s.vm) (eT : T.heap = h) {a : Addr} {k : ClassId} {ty : FieldType} {n : Int32} {vs : List Value} {dv v : Value} (V : Arv Z h a k ty n vs dv) (hty : ty.isReference = true) {j : Int32} (hj : ¬ j < 0 ∧ j < n) (hv : vs.getD j.toNatClampNeg dv = v) {g : JFrame} (hg : g.method = m) {rest : List Value} (hs : g.stack = .int j :: .ref a :: rest) (hd : decode c.code g.pc = .ok (.aaload, 1)) :
    ∀ t, Steps p.tables e below (T.setTop { g with pc := g.pc + 1, stack := v :: rest }) t → Steps p.tables e below (T.setTop g) t := by
  obtain ⟨cl, A, q1, S1, N1, H1, G1⟩ := V
  exact X.aaload hx (by rw [eT]; exact A.1) (State.isArrayOf_alike hZ.alike A.2.1) hty A.2.2 (inb_of S1 hj) (H1.at (inb_of S1 hj) hv) hg hs hd
theorem own_len (X : Stand p l e R s m args below meth c T locs cells slots) (hx : p.tables.exec = Jvm.exec) (hZ : Z.Warmed39 s.vm) (eT : T.heap = h) {a : Addr} {k : ClassId} {ty : FieldType} {n : Int32} {vs : List Value} {dv : Value} (V : Arv Z h a k ty n vs dv) {g : JFrame} (hg : g.method = m) {rest : List Value} (hs : g.stack = .ref a :: rest) (hd : decode c.code g.pc = .ok (.arraylength, 1)) :
    ∀ t, Steps p.tables e below (T.setTop { g with pc := g.pc + 1, stack := .int n :: rest }) t → Steps p.tables e below (T.setTop g) t := by
  obtain ⟨cl, A, q1, S1, N1, H1, G1⟩ := V
  intro t k
  refine X.arraylength hx (by rw [eT]; exact A.1) (State.isArrayOf_alike hZ.alike A.2.1) hg hs hd t ?_
  rw [len_of S1 N1]
  exact k
end OwnKit
theorem own_eqi {t : Term} {n : Int32} {args : Array Value} {s : State} (h : (Jvm.Cond.eq t (.int n)).value args s none s [] = some true) : t.eval args s none [] s = some (.int n) := by
  obtain ⟨x, y, h1, h2, h3, -⟩ := cmp_v (Or.inl h)
  cases (Term.int_eval n).symm.trans h2
  cases x <;> simp [Kin, Value.isRef] at h3
  rw [h1]
  have q := h
  simp [Jvm.Cond.value, h1, Term.int_eval] at q
  rw [q]
theorem own_lenw {t : Term} {n : Int32} {args : Array Value} {s : State} {x : Addr} {cl : Cell} {ty : FieldType} (h : (Jvm.Cond.eq (Term.length t) (.int n)).value args s none s [] = some true) (ht : t.eval args s none [] s = some (.ref x)) (A : Arr s s.heap x cl ty) : cl.slots.size < 2 ^ 31 ∧ cl.slots.size.toInt32 = n := by
  obtain ⟨b, cell, e1, e2, e4⟩ := Term.length_spec (own_eqi h)
  obtain rfl : x = b := Value.ref.inj (Option.some.inj (ht.symm.trans e1))
  obtain rfl : cl = cell := Option.some.inj ((A.fin (Vm.Alike.refl _)).symm.trans e2)
  exact ⟨Jvm.Free.SBG.length_lt e1 e2 (own_eqi h), (Value.int.inj e4).symm⟩
theorem own_elemw {t u : Term} {j : Int32} {args : Array Value} {s : State} {x y : Addr} {cl : Cell} {ty : FieldType} (h : (Jvm.Cond.eq (Term.elem t (.int j)) u).value args s none s [] = some true) (ht : t.eval args s none [] s = some (.ref x)) (hu : u.eval args s none [] s = some (.ref y)) (A : Arr s s.heap x cl ty) : cl.slots[j.toNatClampNeg]? = some (.ref y) := by
  obtain ⟨v, w, h1, h2, h3, h4⟩ := cmp_v (Or.inl h)
  cases hu.symm.trans h2
  obtain ⟨-, q⟩ := elem_in h1 ht (Term.int_eval j) A.1
  have r : v = .ref y := gotT (eq_R h1 hu h4.2 rfl) h
  rw [q, r]
theorem own_elemi {t : Term} {j k : Int32} {args : Array Value} {s : State} {x : Addr} {cl : Cell} {ty : FieldType} (h : (Jvm.Cond.eq (Term.elem t (.int j)) (.int k)).value args s none s [] = some true) (ht : t.eval args s none [] s = some (.ref x)) (A : Arr s s.heap x cl ty) : cl.slots[j.toNatClampNeg]? = some (.int k) := by
  obtain ⟨-, q⟩ := elem_in (own_eqi h) ht (Term.int_eval j) A.1
  exact q
abbrev own_W (Z : State) (a0 : Array Value) : Prop := ∀ d ∈ tables_1, d.before a0 Z = true
theorem own_w0 {Z : State} {a0 : Array Value} (hw : own_W Z a0) : (Jvm.Cond.arrayClass Jvm.ClassFile.FieldType.char).before a0 Z = true := hw _ (List.mem_of_getElem? (i := 0) rfl)
theorem own_w1 {Z : State} {a0 : Array Value} (hw : own_W Z a0) : (Jvm.Cond.methodLink "holdtrue/ArithmeticOperatorAdditivePinLaw" (7 : Nat) ({ cls := "java/lang/String", name := "valueOf", desc := "(C)Ljava/lang/String;" } : Jvm.MethodName)).before a0 Z = true := hw _ (List.mem_of_getElem? (i := 1) rfl)
theorem own_w2 {Z : State} {a0 : Array Value} (hw : own_W Z a0) : (Jvm.Cond.static ({ cls := "java/lang/String", name := "valueOf", desc := "(C)Ljava/lang/String;" } : Jvm.MethodName)).before a0 Z = true := hw _ (List.mem_of_getElem? (i := 2) rfl)
theorem own_w3 {Z : State} {a0 : Array Value} (hw : own_W Z a0) : (Jvm.Cond.initialized "java/lang/String").before a0 Z = true := hw _ (List.mem_of_getElem? (i := 3) rfl)
theorem own_w4 {Z : State} {a0 : Array Value} (hw : own_W Z a0) : (Jvm.Cond.code ({ cls := "java/lang/String", name := "valueOf", desc := "(C)Ljava/lang/String;" } : Jvm.MethodName) jdk_42_method_139_code (1 : Nat) (Option.some (Jvm.ClassFile.FieldType.object "java/lang/String"))).before a0 Z = true := hw _ (List.mem_of_getElem? (i := 4) rfl)
theorem own_w5 {Z : State} {a0 : Array Value} (hw : own_W Z a0) : (Jvm.Cond.fieldLink "java/lang/String" (38 : Nat) "java/lang/String" "COMPACT_STRINGS" "Z").before a0 Z = true := hw _ (List.mem_of_getElem? (i := 5) rfl)
theorem own_w6 {Z : State} {a0 : Array Value} (hw : own_W Z a0) : (Jvm.Cond.methodLink "java/lang/String" (1015 : Nat) ({ cls := "java/lang/StringLatin1", name := "canEncode", desc := "(C)Z" } : Jvm.MethodName)).before a0 Z = true := hw _ (List.mem_of_getElem? (i := 6) rfl)
theorem own_w7 {Z : State} {a0 : Array Value} (hw : own_W Z a0) : (Jvm.Cond.static ({ cls := "java/lang/StringLatin1", name := "canEncode", desc := "(C)Z" } : Jvm.MethodName)).before a0 Z = true := hw _ (List.mem_of_getElem? (i := 7) rfl)
theorem own_w8 {Z : State} {a0 : Array Value} (hw : own_W Z a0) : (Jvm.Cond.initialized "java/lang/StringLatin1").before a0 Z = true := hw _ (List.mem_of_getElem? (i := 8) rfl)
theorem own_w9 {Z : State} {a0 : Array Value} (hw : own_W Z a0) : (Jvm.Cond.code ({ cls := "java/lang/StringLatin1", name := "canEncode", desc := "(C)Z" } : Jvm.MethodName) jdk_43_method_3_code (1 : Nat) (Option.some Jvm.ClassFile.FieldType.boolean)).before a0 Z = true := hw _ (List.mem_of_getElem? (i := 9) rfl)
theorem own_w10 {Z : State} {a0 : Array Value} (hw : own_W Z a0) : (Jvm.Cond.classLink "java/lang/String" (10 : Nat) "java/lang/String").before a0 Z = true := hw _ (List.mem_of_getElem? (i := 10) rfl)
theorem own_w11 {Z : State} {a0 : Array Value} (hw : own_W Z a0) : (Jvm.Cond.instantiable "java/lang/String" (4 : Nat)).before a0 Z = true := hw _ (List.mem_of_getElem? (i := 11) rfl)
theorem own_w12 {Z : State} {a0 : Array Value} (hw : own_W Z a0) : (Jvm.Cond.methodLink "java/lang/String" (1018 : Nat) ({ cls := "java/lang/StringLatin1", name := "toBytes", desc := "(C)[B" } : Jvm.MethodName)).before a0 Z = true := hw _ (List.mem_of_getElem? (i := 12) rfl)
theorem own_w13 {Z : State} {a0 : Array Value} (hw : own_W Z a0) : (Jvm.Cond.static ({ cls := "java/lang/StringLatin1", name := "toBytes", desc := "(C)[B" } : Jvm.MethodName)).before a0 Z = true := hw _ (List.mem_of_getElem? (i := 13) rfl)
theorem own_w14 {Z : State} {a0 : Array Value} (hw : own_W Z a0) : (Jvm.Cond.code ({ cls := "java/lang/StringLatin1", name := "toBytes", desc := "(C)[B" } : Jvm.MethodName) jdk_43_method_46_code (1 : Nat) (Option.some (Jvm.ClassFile.FieldType.array Jvm.ClassFile.FieldType.byte))).before a0 Z = true := hw _ (List.mem_of_getElem? (i := 14) rfl)
theorem own_w15 {Z : State} {a0 : Array Value} (hw : own_W Z a0) : (Jvm.Cond.arrayClass Jvm.ClassFile.FieldType.byte).before a0 Z = true := hw _ (List.mem_of_getElem? (i := 15) rfl)
theorem own_w16 {Z : State} {a0 : Array Value} (hw : own_W Z a0) : (Jvm.Cond.methodLink "java/lang/String" (209 : Nat) ({ cls := "java/lang/String", name := "<init>", desc := "([BB)V" } : Jvm.MethodName)).before a0 Z = true := hw _ (List.mem_of_getElem? (i := 16) rfl)
theorem own_w17 {Z : State} {a0 : Array Value} (hw : own_W Z a0) : (Jvm.Cond.instanceMethod ({ cls := "java/lang/String", name := "<init>", desc := "([BB)V" } : Jvm.MethodName)).before a0 Z = true := hw _ (List.mem_of_getElem? (i := 17) rfl)
theorem own_w19 {Z : State} {a0 : Array Value} (hw : own_W Z a0) : (Jvm.Cond.code ({ cls := "java/lang/String", name := "<init>", desc := "([BB)V" } : Jvm.MethodName) jdk_42_method_151_code (3 : Nat) (Option.none : Option Jvm.ClassFile.FieldType)).before a0 Z = true := hw _ (List.mem_of_getElem? (i := 19) rfl)
theorem own_w20 {Z : State} {a0 : Array Value} (hw : own_W Z a0) : (Jvm.Cond.methodLink "java/lang/String" (1 : Nat) ({ cls := "java/lang/Object", name := "<init>", desc := "()V" } : Jvm.MethodName)).before a0 Z = true := hw _ (List.mem_of_getElem? (i := 20) rfl)
theorem own_w21 {Z : State} {a0 : Array Value} (hw : own_W Z a0) : (Jvm.Cond.instanceMethod ({ cls := "java/lang/Object", name := "<init>", desc := "()V" } : Jvm.MethodName)).before a0 Z = true := hw _ (List.mem_of_getElem? (i := 21) rfl)
theorem own_w22 {Z : State} {a0 : Array Value} (hw : own_W Z a0) : (Jvm.Cond.code ({ cls := "java/lang/Object", name := "<init>", desc := "()V" } : Jvm.MethodName) object_method_1_code (1 : Nat) (Option.none : Option Jvm.ClassFile.FieldType)).before a0 Z = true := hw _ (List.mem_of_getElem? (i := 22) rfl)
theorem own_w23 {Z : State} {a0 : Array Value} (hw : own_W Z a0) : (Jvm.Cond.fieldLink "java/lang/String" (9 : Nat) "java/lang/String" "value" "[B").before a0 Z = true := hw _ (List.mem_of_getElem? (i := 23) rfl)
theorem own_w24 {Z : State} {a0 : Array Value} (hw : own_W Z a0) : (Jvm.Cond.laysFinal "java/lang/String" "java/lang/String" "value" "[B").before a0 Z = true := hw _ (List.mem_of_getElem? (i := 24) rfl)
theorem own_w25 {Z : State} {a0 : Array Value} (hw : own_W Z a0) : (Jvm.Cond.fieldLink "java/lang/String" (15 : Nat) "java/lang/String" "coder" "B").before a0 Z = true := hw _ (List.mem_of_getElem? (i := 25) rfl)
theorem own_w26 {Z : State} {a0 : Array Value} (hw : own_W Z a0) : (Jvm.Cond.laysFinal "java/lang/String" "java/lang/String" "coder" "B").before a0 Z = true := hw _ (List.mem_of_getElem? (i := 26) rfl)
theorem own_w27 {Z : State} {a0 : Array Value} (hw : own_W Z a0) : (Jvm.Cond.methodLink "holdtrue/ArithmeticOperatorAdditivePinLaw" (13 : Nat) ({ cls := "holdtrue/Operand$ArithmeticOperator", name := "of", desc := "(Ljava/lang/String;)Lholdtrue/Operand$ArithmeticOperator;" } : Jvm.MethodName)).before a0 Z = true := hw _ (List.mem_of_getElem? (i := 27) rfl)
theorem own_w28 {Z : State} {a0 : Array Value} (hw : own_W Z a0) : (Jvm.Cond.static ({ cls := "holdtrue/Operand$ArithmeticOperator", name := "of", desc := "(Ljava/lang/String;)Lholdtrue/Operand$ArithmeticOperator;" } : Jvm.MethodName)).before a0 Z = true := hw _ (List.mem_of_getElem? (i := 28) rfl)
theorem own_w29 {Z : State} {a0 : Array Value} (hw : own_W Z a0) : (Jvm.Cond.initialized "holdtrue/Operand$ArithmeticOperator").before a0 Z = true := hw _ (List.mem_of_getElem? (i := 29) rfl)
theorem own_w30 {Z : State} {a0 : Array Value} (hw : own_W Z a0) : (Jvm.Cond.code ({ cls := "holdtrue/Operand$ArithmeticOperator", name := "of", desc := "(Ljava/lang/String;)Lholdtrue/Operand$ArithmeticOperator;" } : Jvm.MethodName) prog_55_method_4_code (5 : Nat) (Option.some (Jvm.ClassFile.FieldType.object "holdtrue/Operand$ArithmeticOperator"))).before a0 Z = true := hw _ (List.mem_of_getElem? (i := 30) rfl)
theorem own_w31 {Z : State} {a0 : Array Value} (hw : own_W Z a0) : (Jvm.Cond.methodLink "holdtrue/Operand$ArithmeticOperator" (39 : Nat) ({ cls := "holdtrue/Operand$ArithmeticOperator", name := "values", desc := "()[Lholdtrue/Operand$ArithmeticOperator;" } : Jvm.MethodName)).before a0 Z = true := hw _ (List.mem_of_getElem? (i := 31) rfl)
theorem own_w32 {Z : State} {a0 : Array Value} (hw : own_W Z a0) : (Jvm.Cond.static ({ cls := "holdtrue/Operand$ArithmeticOperator", name := "values", desc := "()[Lholdtrue/Operand$ArithmeticOperator;" } : Jvm.MethodName)).before a0 Z = true := hw _ (List.mem_of_getElem? (i := 32) rfl)
theorem own_w33 {Z : State} {a0 : Array Value} (hw : own_W Z a0) : (Jvm.Cond.code ({ cls := "holdtrue/Operand$ArithmeticOperator", name := "values", desc := "()[Lholdtrue/Operand$ArithmeticOperator;" } : Jvm.MethodName) prog_55_method_1_code (0 : Nat) (Option.some (Jvm.ClassFile.FieldType.array (Jvm.ClassFile.FieldType.object "holdtrue/Operand$ArithmeticOperator")))).before a0 Z = true := hw _ (List.mem_of_getElem? (i := 33) rfl)
theorem own_w34 {Z : State} {a0 : Array Value} (hw : own_W Z a0) : (Jvm.Cond.fieldLink "holdtrue/Operand$ArithmeticOperator" (16 : Nat) "holdtrue/Operand$ArithmeticOperator" "$VALUES" "[Lholdtrue/Operand$ArithmeticOperator;").before a0 Z = true := hw _ (List.mem_of_getElem? (i := 34) rfl)
theorem own_w36 {Z : State} {a0 : Array Value} (hw : own_W Z a0) : (Jvm.Cond.methodLink "holdtrue/Operand$ArithmeticOperator" (20 : Nat) ({ cls := "[Lholdtrue/Operand$ArithmeticOperator;", name := "clone", desc := "()Ljava/lang/Object;" } : Jvm.MethodName)).before a0 Z = true := hw _ (List.mem_of_getElem? (i := 36) rfl)
theorem own_w37 {Z : State} {a0 : Array Value} (hw : own_W Z a0) : (Jvm.Cond.sameMethod "[Lholdtrue/Operand$ArithmeticOperator;" "java/lang/Object" "clone" "()Ljava/lang/Object;").before a0 Z = true := hw _ (List.mem_of_getElem? (i := 37) rfl)
theorem own_w39 {Z : State} {a0 : Array Value} (hw : own_W Z a0) : (Jvm.Cond.instanceMethod ({ cls := "java/lang/Object", name := "clone", desc := "()Ljava/lang/Object;" } : Jvm.MethodName)).before a0 Z = true := hw _ (List.mem_of_getElem? (i := 39) rfl)
theorem own_w40 {Z : State} {a0 : Array Value} (hw : own_W Z a0) : (Jvm.Cond.selects "[Lholdtrue/Operand$ArithmeticOperator;" ({ cls := "[Lholdtrue/Operand$ArithmeticOperator;", name := "clone", desc := "()Ljava/lang/Object;" } : Jvm.MethodName) ({ cls := "java/lang/Object", name := "clone", desc := "()Ljava/lang/Object;" } : Jvm.MethodName)).before a0 Z = true := hw _ (List.mem_of_getElem? (i := 40) rfl)
theorem own_w41 {Z : State} {a0 : Array Value} (hw : own_W Z a0) : (Jvm.Cond.native ({ cls := "java/lang/Object", name := "clone", desc := "()Ljava/lang/Object;" } : Jvm.MethodName)).before a0 Z = true := hw _ (List.mem_of_getElem? (i := 41) rfl)
theorem own_w42 {Z : State} {a0 : Array Value} (hw : own_W Z a0) : (Jvm.Cond.castable "[Lholdtrue/Operand$ArithmeticOperator;" "java/lang/Cloneable").before a0 Z = true := hw _ (List.mem_of_getElem? (i := 42) rfl)
theorem own_w43 {Z : State} {a0 : Array Value} (hw : own_W Z a0) : (Jvm.Cond.laysStatic "holdtrue/Operand$ArithmeticOperator" "ADD" "Lholdtrue/Operand$ArithmeticOperator;").before a0 Z = true := hw _ (List.mem_of_getElem? (i := 43) rfl)
theorem own_w44 {Z : State} {a0 : Array Value} (hw : own_W Z a0) : (Jvm.Cond.laysStatic "holdtrue/Operand$ArithmeticOperator" "SUBTRACT" "Lholdtrue/Operand$ArithmeticOperator;").before a0 Z = true := hw _ (List.mem_of_getElem? (i := 44) rfl)
theorem own_w45 {Z : State} {a0 : Array Value} (hw : own_W Z a0) : (Jvm.Cond.laysStatic "holdtrue/Operand$ArithmeticOperator" "MULTIPLY" "Lholdtrue/Operand$ArithmeticOperator;").before a0 Z = true := hw _ (List.mem_of_getElem? (i := 45) rfl)
theorem own_w46 {Z : State} {a0 : Array Value} (hw : own_W Z a0) : (Jvm.Cond.laysStatic "holdtrue/Operand$ArithmeticOperator" "DIVIDE" "Lholdtrue/Operand$ArithmeticOperator;").before a0 Z = true := hw _ (List.mem_of_getElem? (i := 46) rfl)
theorem own_w47 {Z : State} {a0 : Array Value} (hw : own_W Z a0) : (Jvm.Cond.initializedFor "holdtrue/Operand$ArithmeticOperator" "$VALUES" "[Lholdtrue/Operand$ArithmeticOperator;").before a0 Z = true := hw _ (List.mem_of_getElem? (i := 47) rfl)
theorem own_w48 {Z : State} {a0 : Array Value} (hw : own_W Z a0) : (Jvm.Cond.classLink "holdtrue/Operand$ArithmeticOperator" (21 : Nat) "[Lholdtrue/Operand$ArithmeticOperator;").before a0 Z = true := hw _ (List.mem_of_getElem? (i := 48) rfl)
theorem own_w50 {Z : State} {a0 : Array Value} (hw : own_W Z a0) : (Jvm.Cond.fieldLink "holdtrue/Operand$ArithmeticOperator" (35 : Nat) "holdtrue/Operand$ArithmeticOperator" "symbol" "Ljava/lang/String;").before a0 Z = true := hw _ (List.mem_of_getElem? (i := 50) rfl)
theorem own_w52 {Z : State} {a0 : Array Value} (hw : own_W Z a0) : (Jvm.Cond.methodLink "holdtrue/Operand$ArithmeticOperator" (43 : Nat) ({ cls := "java/lang/String", name := "equals", desc := "(Ljava/lang/Object;)Z" } : Jvm.MethodName)).before a0 Z = true := hw _ (List.mem_of_getElem? (i := 52) rfl)
theorem own_w53 {Z : State} {a0 : Array Value} (hw : own_W Z a0) : (Jvm.Cond.declares ({ cls := "java/lang/String", name := "equals", desc := "(Ljava/lang/Object;)Z" } : Jvm.MethodName)).before a0 Z = true := hw _ (List.mem_of_getElem? (i := 53) rfl)
theorem own_w54 {Z : State} {a0 : Array Value} (hw : own_W Z a0) : (Jvm.Cond.instanceMethod ({ cls := "java/lang/String", name := "equals", desc := "(Ljava/lang/Object;)Z" } : Jvm.MethodName)).before a0 Z = true := hw _ (List.mem_of_getElem? (i := 54) rfl)
theorem own_w55 {Z : State} {a0 : Array Value} (hw : own_W Z a0) : (Jvm.Cond.selects "java/lang/String" ({ cls := "java/lang/String", name := "equals", desc := "(Ljava/lang/Object;)Z" } : Jvm.MethodName) ({ cls := "java/lang/String", name := "equals", desc := "(Ljava/lang/Object;)Z" } : Jvm.MethodName)).before a0 Z = true := hw _ (List.mem_of_getElem? (i := 55) rfl)
theorem own_w56 {Z : State} {a0 : Array Value} (hw : own_W Z a0) : (Jvm.Cond.code ({ cls := "java/lang/String", name := "equals", desc := "(Ljava/lang/Object;)Z" } : Jvm.MethodName) jdk_42_method_66_code (3 : Nat) (Option.some Jvm.ClassFile.FieldType.boolean)).before a0 Z = true := hw _ (List.mem_of_getElem? (i := 56) rfl)
theorem own_w57 {Z : State} {a0 : Array Value} (hw : own_W Z a0) : (Jvm.Cond.methodLink "java/lang/String" (541 : Nat) ({ cls := "java/lang/StringLatin1", name := "equals", desc := "([B[B)Z" } : Jvm.MethodName)).before a0 Z = true := hw _ (List.mem_of_getElem? (i := 57) rfl)
theorem own_w58 {Z : State} {a0 : Array Value} (hw : own_W Z a0) : (Jvm.Cond.static ({ cls := "java/lang/StringLatin1", name := "equals", desc := "([B[B)Z" } : Jvm.MethodName)).before a0 Z = true := hw _ (List.mem_of_getElem? (i := 58) rfl)
theorem own_w59 {Z : State} {a0 : Array Value} (hw : own_W Z a0) : (Jvm.Cond.code ({ cls := "java/lang/StringLatin1", name := "equals", desc := "([B[B)Z" } : Jvm.MethodName) jdk_43_method_13_code (3 : Nat) (Option.some Jvm.ClassFile.FieldType.boolean)).before a0 Z = true := hw _ (List.mem_of_getElem? (i := 59) rfl)
theorem own_w60 {Z : State} {a0 : Array Value} (hw : own_W Z a0) : (Jvm.Cond.methodLink "holdtrue/ArithmeticOperatorAdditivePinLaw" (19 : Nat) ({ cls := "holdtrue/Operand$ArithmeticOperator", name := "additive", desc := "()Z" } : Jvm.MethodName)).before a0 Z = true := hw _ (List.mem_of_getElem? (i := 60) rfl)
theorem own_w61 {Z : State} {a0 : Array Value} (hw : own_W Z a0) : (Jvm.Cond.declares ({ cls := "holdtrue/Operand$ArithmeticOperator", name := "additive", desc := "()Z" } : Jvm.MethodName)).before a0 Z = true := hw _ (List.mem_of_getElem? (i := 61) rfl)
theorem own_w62 {Z : State} {a0 : Array Value} (hw : own_W Z a0) : (Jvm.Cond.instanceMethod ({ cls := "holdtrue/Operand$ArithmeticOperator", name := "additive", desc := "()Z" } : Jvm.MethodName)).before a0 Z = true := hw _ (List.mem_of_getElem? (i := 62) rfl)
theorem own_w63 {Z : State} {a0 : Array Value} (hw : own_W Z a0) : (Jvm.Cond.selects "holdtrue/Operand$ArithmeticOperator" ({ cls := "holdtrue/Operand$ArithmeticOperator", name := "additive", desc := "()Z" } : Jvm.MethodName) ({ cls := "holdtrue/Operand$ArithmeticOperator", name := "additive", desc := "()Z" } : Jvm.MethodName)).before a0 Z = true := hw _ (List.mem_of_getElem? (i := 63) rfl)
theorem own_w64 {Z : State} {a0 : Array Value} (hw : own_W Z a0) : (Jvm.Cond.code ({ cls := "holdtrue/Operand$ArithmeticOperator", name := "additive", desc := "()Z" } : Jvm.MethodName) prog_55_method_5_code (1 : Nat) (Option.some Jvm.ClassFile.FieldType.boolean)).before a0 Z = true := hw _ (List.mem_of_getElem? (i := 64) rfl)
theorem own_w65 {Z : State} {a0 : Array Value} (hw : own_W Z a0) : (Jvm.Cond.fieldLink "holdtrue/Operand$ArithmeticOperator" (3 : Nat) "holdtrue/Operand$ArithmeticOperator" "ADD" "Lholdtrue/Operand$ArithmeticOperator;").before a0 Z = true := hw _ (List.mem_of_getElem? (i := 65) rfl)
theorem own_w66 {Z : State} {a0 : Array Value} (hw : own_W Z a0) : (Jvm.Cond.fieldLink "holdtrue/Operand$ArithmeticOperator" (7 : Nat) "holdtrue/Operand$ArithmeticOperator" "SUBTRACT" "Lholdtrue/Operand$ArithmeticOperator;").before a0 Z = true := hw _ (List.mem_of_getElem? (i := 66) rfl)
theorem own_d1_0 : decode jdk_42_method_139_code 0 = .ok (.getstatic 38, 3) := by decide +kernel
theorem own_d1_3 : decode jdk_42_method_139_code 3 = .ok (.ifCond .eq 23, 3) := by decide +kernel
theorem own_d1_6 : decode jdk_42_method_139_code 6 = .ok (.iload_n 0, 1) := by decide +kernel
theorem own_d1_7 : decode jdk_42_method_139_code 7 = .ok (.invokestatic 1015, 3) := by decide +kernel
theorem own_d1_10 : decode jdk_42_method_139_code 10 = .ok (.ifCond .eq 16, 3) := by decide +kernel
theorem own_d1_13 : decode jdk_42_method_139_code 13 = .ok (.new 10, 3) := by decide +kernel
theorem own_d1_16 : decode jdk_42_method_139_code 16 = .ok (.dup, 1) := by decide +kernel
theorem own_d1_17 : decode jdk_42_method_139_code 17 = .ok (.iload_n 0, 1) := by decide +kernel
theorem own_d1_18 : decode jdk_42_method_139_code 18 = .ok (.invokestatic 1018, 3) := by decide +kernel
theorem own_d1_21 : decode jdk_42_method_139_code 21 = .ok (.iconst 0, 1) := by decide +kernel
theorem own_d1_22 : decode jdk_42_method_139_code 22 = .ok (.invokespecial 209, 3) := by decide +kernel
theorem own_d1_25 : decode jdk_42_method_139_code 25 = .ok (.areturn, 1) := by decide +kernel
theorem own_d2_0 : decode jdk_43_method_3_code 0 = .ok (.iload_n 0, 1) := by decide +kernel
theorem own_d2_1 : decode jdk_43_method_3_code 1 = .ok (.sipush 255, 3) := by decide +kernel
theorem own_d2_4 : decode jdk_43_method_3_code 4 = .ok (.if_icmp .gt 7, 3) := by decide +kernel
theorem own_d2_7 : decode jdk_43_method_3_code 7 = .ok (.iconst 1, 1) := by decide +kernel
theorem own_d2_8 : decode jdk_43_method_3_code 8 = .ok (.goto 4, 3) := by decide +kernel
theorem own_d2_12 : decode jdk_43_method_3_code 12 = .ok (.ireturn, 1) := by decide +kernel
theorem own_d3_0 : decode jdk_43_method_46_code 0 = .ok (.iconst 1, 1) := by decide +kernel
theorem own_d3_1 : decode jdk_43_method_46_code 1 = .ok (.newarray .byte, 2) := by decide +kernel
theorem own_d3_3 : decode jdk_43_method_46_code 3 = .ok (.dup, 1) := by decide +kernel
theorem own_d3_4 : decode jdk_43_method_46_code 4 = .ok (.iconst 0, 1) := by decide +kernel
theorem own_d3_5 : decode jdk_43_method_46_code 5 = .ok (.iload_n 0, 1) := by decide +kernel
theorem own_d3_6 : decode jdk_43_method_46_code 6 = .ok (.i2b, 1) := by decide +kernel
theorem own_d3_7 : decode jdk_43_method_46_code 7 = .ok (.bastore, 1) := by decide +kernel
theorem own_d3_8 : decode jdk_43_method_46_code 8 = .ok (.areturn, 1) := by decide +kernel
theorem own_d4_0 : decode jdk_42_method_151_code 0 = .ok (.aload_n 0, 1) := by decide +kernel
theorem own_d4_1 : decode jdk_42_method_151_code 1 = .ok (.invokespecial 1, 3) := by decide +kernel
theorem own_d4_4 : decode jdk_42_method_151_code 4 = .ok (.aload_n 0, 1) := by decide +kernel
theorem own_d4_5 : decode jdk_42_method_151_code 5 = .ok (.aload_n 1, 1) := by decide +kernel
theorem own_d4_6 : decode jdk_42_method_151_code 6 = .ok (.putfield 9, 3) := by decide +kernel
theorem own_d4_9 : decode jdk_42_method_151_code 9 = .ok (.aload_n 0, 1) := by decide +kernel
theorem own_d4_10 : decode jdk_42_method_151_code 10 = .ok (.iload_n 2, 1) := by decide +kernel
theorem own_d4_11 : decode jdk_42_method_151_code 11 = .ok (.putfield 15, 3) := by decide +kernel
theorem own_d4_14 : decode jdk_42_method_151_code 14 = .ok (.return_, 1) := by decide +kernel
theorem own_d6_0 : decode prog_55_method_4_code 0 = .ok (.invokestatic 39, 3) := by decide +kernel
theorem own_d6_3 : decode prog_55_method_4_code 3 = .ok (.astore_n 1, 1) := by decide +kernel
theorem own_d6_4 : decode prog_55_method_4_code 4 = .ok (.aload_n 1, 1) := by decide +kernel
theorem own_d6_5 : decode prog_55_method_4_code 5 = .ok (.arraylength, 1) := by decide +kernel
theorem own_d6_6 : decode prog_55_method_4_code 6 = .ok (.istore_n 2, 1) := by decide +kernel
theorem own_d6_7 : decode prog_55_method_4_code 7 = .ok (.iconst 0, 1) := by decide +kernel
theorem own_d6_8 : decode prog_55_method_4_code 8 = .ok (.istore_n 3, 1) := by decide +kernel
theorem own_d6_9 : decode prog_55_method_4_code 9 = .ok (.iload_n 3, 1) := by decide +kernel
theorem own_d6_10 : decode prog_55_method_4_code 10 = .ok (.iload_n 2, 1) := by decide +kernel
theorem own_d6_11 : decode prog_55_method_4_code 11 = .ok (.if_icmp .ge 29, 3) := by decide +kernel
theorem own_d6_14 : decode prog_55_method_4_code 14 = .ok (.aload_n 1, 1) := by decide +kernel
theorem own_d6_15 : decode prog_55_method_4_code 15 = .ok (.iload_n 3, 1) := by decide +kernel
theorem own_d6_16 : decode prog_55_method_4_code 16 = .ok (.aaload, 1) := by decide +kernel
theorem own_d6_17 : decode prog_55_method_4_code 17 = .ok (.astore 4, 2) := by decide +kernel
theorem own_d6_19 : decode prog_55_method_4_code 19 = .ok (.aload 4, 2) := by decide +kernel
theorem own_d6_21 : decode prog_55_method_4_code 21 = .ok (.getfield 35, 3) := by decide +kernel
theorem own_d6_24 : decode prog_55_method_4_code 24 = .ok (.aload_n 0, 1) := by decide +kernel
theorem own_d6_25 : decode prog_55_method_4_code 25 = .ok (.invokevirtual 43, 3) := by decide +kernel
theorem own_d6_28 : decode prog_55_method_4_code 28 = .ok (.ifCond .eq 6, 3) := by decide +kernel
theorem own_d6_31 : decode prog_55_method_4_code 31 = .ok (.aload 4, 2) := by decide +kernel
theorem own_d6_33 : decode prog_55_method_4_code 33 = .ok (.areturn, 1) := by decide +kernel
theorem own_d6_34 : decode prog_55_method_4_code 34 = .ok (.iinc 3 1, 3) := by decide +kernel
theorem own_d6_37 : decode prog_55_method_4_code 37 = .ok (.goto (-28), 3) := by decide +kernel
theorem own_d7_0 : decode prog_55_method_1_code 0 = .ok (.getstatic 16, 3) := by decide +kernel
theorem own_d7_3 : decode prog_55_method_1_code 3 = .ok (.invokevirtual 20, 3) := by decide +kernel
theorem own_d7_6 : decode prog_55_method_1_code 6 = .ok (.checkcast 21, 3) := by decide +kernel
theorem own_d7_9 : decode prog_55_method_1_code 9 = .ok (.areturn, 1) := by decide +kernel
theorem own_d8_0 : decode jdk_42_method_66_code 0 = .ok (.aload_n 0, 1) := by decide +kernel
theorem own_d8_1 : decode jdk_42_method_66_code 1 = .ok (.aload_n 1, 1) := by decide +kernel
theorem own_d8_2 : decode jdk_42_method_66_code 2 = .ok (.if_acmp .ne 5, 3) := by decide +kernel
theorem own_d8_7 : decode jdk_42_method_66_code 7 = .ok (.aload_n 1, 1) := by decide +kernel
theorem own_d8_8 : decode jdk_42_method_66_code 8 = .ok (.instanceof 10, 3) := by decide +kernel
theorem own_d8_11 : decode jdk_42_method_66_code 11 = .ok (.ifCond .eq 43, 3) := by decide +kernel
theorem own_d8_14 : decode jdk_42_method_66_code 14 = .ok (.aload_n 1, 1) := by decide +kernel
theorem own_d8_15 : decode jdk_42_method_66_code 15 = .ok (.checkcast 10, 3) := by decide +kernel
theorem own_d8_18 : decode jdk_42_method_66_code 18 = .ok (.astore_n 2, 1) := by decide +kernel
theorem own_d8_19 : decode jdk_42_method_66_code 19 = .ok (.getstatic 38, 3) := by decide +kernel
theorem own_d8_22 : decode jdk_42_method_66_code 22 = .ok (.ifCond .eq 14, 3) := by decide +kernel
theorem own_d8_25 : decode jdk_42_method_66_code 25 = .ok (.aload_n 0, 1) := by decide +kernel
theorem own_d8_26 : decode jdk_42_method_66_code 26 = .ok (.getfield 15, 3) := by decide +kernel
theorem own_d8_29 : decode jdk_42_method_66_code 29 = .ok (.aload_n 2, 1) := by decide +kernel
theorem own_d8_30 : decode jdk_42_method_66_code 30 = .ok (.getfield 15, 3) := by decide +kernel
theorem own_d8_33 : decode jdk_42_method_66_code 33 = .ok (.if_icmp .ne 21, 3) := by decide +kernel
theorem own_d8_36 : decode jdk_42_method_66_code 36 = .ok (.aload_n 0, 1) := by decide +kernel
theorem own_d8_37 : decode jdk_42_method_66_code 37 = .ok (.getfield 9, 3) := by decide +kernel
theorem own_d8_40 : decode jdk_42_method_66_code 40 = .ok (.aload_n 2, 1) := by decide +kernel
theorem own_d8_41 : decode jdk_42_method_66_code 41 = .ok (.getfield 9, 3) := by decide +kernel
theorem own_d8_44 : decode jdk_42_method_66_code 44 = .ok (.invokestatic 541, 3) := by decide +kernel
theorem own_d8_47 : decode jdk_42_method_66_code 47 = .ok (.ifCond .eq 7, 3) := by decide +kernel
theorem own_d8_50 : decode jdk_42_method_66_code 50 = .ok (.iconst 1, 1) := by decide +kernel
theorem own_d8_51 : decode jdk_42_method_66_code 51 = .ok (.goto 4, 3) := by decide +kernel
theorem own_d8_54 : decode jdk_42_method_66_code 54 = .ok (.iconst 0, 1) := by decide +kernel
theorem own_d8_55 : decode jdk_42_method_66_code 55 = .ok (.ireturn, 1) := by decide +kernel
theorem own_d9_0 : decode jdk_43_method_13_code 0 = .ok (.aload_n 0, 1) := by decide +kernel
theorem own_d9_1 : decode jdk_43_method_13_code 1 = .ok (.arraylength, 1) := by decide +kernel
theorem own_d9_2 : decode jdk_43_method_13_code 2 = .ok (.aload_n 1, 1) := by decide +kernel
theorem own_d9_3 : decode jdk_43_method_13_code 3 = .ok (.arraylength, 1) := by decide +kernel
theorem own_d9_4 : decode jdk_43_method_13_code 4 = .ok (.if_icmp .ne 30, 3) := by decide +kernel
theorem own_d9_7 : decode jdk_43_method_13_code 7 = .ok (.iconst 0, 1) := by decide +kernel
theorem own_d9_8 : decode jdk_43_method_13_code 8 = .ok (.istore_n 2, 1) := by decide +kernel
theorem own_d9_9 : decode jdk_43_method_13_code 9 = .ok (.iload_n 2, 1) := by decide +kernel
theorem own_d9_10 : decode jdk_43_method_13_code 10 = .ok (.aload_n 0, 1) := by decide +kernel
theorem own_d9_11 : decode jdk_43_method_13_code 11 = .ok (.arraylength, 1) := by decide +kernel
theorem own_d9_12 : decode jdk_43_method_13_code 12 = .ok (.if_icmp .ge 20, 3) := by decide +kernel
theorem own_d9_15 : decode jdk_43_method_13_code 15 = .ok (.aload_n 0, 1) := by decide +kernel
theorem own_d9_16 : decode jdk_43_method_13_code 16 = .ok (.iload_n 2, 1) := by decide +kernel
theorem own_d9_17 : decode jdk_43_method_13_code 17 = .ok (.baload, 1) := by decide +kernel
theorem own_d9_18 : decode jdk_43_method_13_code 18 = .ok (.aload_n 1, 1) := by decide +kernel
theorem own_d9_19 : decode jdk_43_method_13_code 19 = .ok (.iload_n 2, 1) := by decide +kernel
theorem own_d9_20 : decode jdk_43_method_13_code 20 = .ok (.baload, 1) := by decide +kernel
theorem own_d9_21 : decode jdk_43_method_13_code 21 = .ok (.if_icmp .eq 5, 3) := by decide +kernel
theorem own_d9_24 : decode jdk_43_method_13_code 24 = .ok (.iconst 0, 1) := by decide +kernel
theorem own_d9_25 : decode jdk_43_method_13_code 25 = .ok (.ireturn, 1) := by decide +kernel
theorem own_d9_26 : decode jdk_43_method_13_code 26 = .ok (.iinc 2 1, 3) := by decide +kernel
theorem own_d9_29 : decode jdk_43_method_13_code 29 = .ok (.goto (-20), 3) := by decide +kernel
theorem own_d9_32 : decode jdk_43_method_13_code 32 = .ok (.iconst 1, 1) := by decide +kernel
theorem own_d9_33 : decode jdk_43_method_13_code 33 = .ok (.ireturn, 1) := by decide +kernel
theorem own_d10_0 : decode prog_55_method_5_code 0 = .ok (.aload_n 0, 1) := by decide +kernel
theorem own_d10_1 : decode prog_55_method_5_code 1 = .ok (.getstatic 3, 3) := by decide +kernel
theorem own_d10_4 : decode prog_55_method_5_code 4 = .ok (.if_acmp .eq 10, 3) := by decide +kernel
theorem own_d10_7 : decode prog_55_method_5_code 7 = .ok (.aload_n 0, 1) := by decide +kernel
theorem own_d10_8 : decode prog_55_method_5_code 8 = .ok (.getstatic 7, 3) := by decide +kernel
theorem own_d10_11 : decode prog_55_method_5_code 11 = .ok (.if_acmp .ne 7, 3) := by decide +kernel
theorem own_d10_14 : decode prog_55_method_5_code 14 = .ok (.iconst 1, 1) := by decide +kernel
theorem own_d10_15 : decode prog_55_method_5_code 15 = .ok (.goto 4, 3) := by decide +kernel
theorem own_d10_18 : decode prog_55_method_5_code 18 = .ok (.iconst 0, 1) := by decide +kernel
theorem own_d10_19 : decode prog_55_method_5_code 19 = .ok (.ireturn, 1) := by decide +kernel
theorem own_pd0 : parseMethodDescriptor "(C)Z" = some ⟨[.char], some .boolean⟩ := by decide +kernel
theorem own_pd1 : parseMethodDescriptor "(C)[B" = some ⟨[.char], some (.array .byte)⟩ := by decide +kernel
theorem own_pd2 : parseMethodDescriptor "([BB)V" = some ⟨[(.array .byte), .byte], none⟩ := by decide +kernel
theorem own_pd3 : parseMethodDescriptor "([B[B)Z" = some ⟨[(.array .byte), (.array .byte)], some .boolean⟩ := by decide +kernel
theorem own_pd4 : parseMethodDescriptor "()[Lholdtrue/Operand$ArithmeticOperator;" = some ⟨[], some (.array (.object "holdtrue/Operand$ArithmeticOperator"))⟩ := by decide +kernel
theorem own_pd5 : parseMethodDescriptor "(Ljava/lang/Object;)Z" = some ⟨[(.object "java/lang/Object")], some .boolean⟩ := by decide +kernel
theorem own_pd6 : parseMethodDescriptor "(C)Ljava/lang/String;" = some ⟨[.char], some (.object "java/lang/String")⟩ := by decide +kernel
theorem own_pd7 : parseMethodDescriptor "(Ljava/lang/String;)Lholdtrue/Operand$ArithmeticOperator;" = some ⟨[(.object "java/lang/String")], some (.object "holdtrue/Operand$ArithmeticOperator")⟩ := by decide +kernel
theorem own_pd8 : parseMethodDescriptor "()Z" = some ⟨[], some .boolean⟩ := by decide +kernel
theorem own_pn0 : plainName "java/lang/StringLatin1" = true := by first | (simp [plainName, overriddenIn]; done) | decide +kernel
theorem own_pn1 : plainName "java/lang/String" = true := by first | (simp [plainName, overriddenIn]; done) | decide +kernel
theorem own_pn2 : plainName "holdtrue/Operand$ArithmeticOperator" = true := by first | (simp [plainName, overriddenIn]; done) | decide +kernel
theorem own_pn3 : plainName "holdtrue/ArithmeticOperatorAdditivePinLaw" = true := by first | (simp [plainName, overriddenIn]; done) | decide +kernel
theorem own_ef2 (m : MethodId) (p1 : Int32) : entryFrame m #[(.int p1)] 1 = mkF m 0 #[.val (.int p1)] [] := by first | (simp [entryFrame, mkF, argsToLocals, Value.category]; done) | rfl
theorem own_ef4 (m : MethodId) (a1 : Addr) (a2 : Addr) (p1 : Int32) : entryFrame m #[(.ref a1), (.ref a2), (.int p1)] 3 = mkF m 0 #[.val (.ref a1), .val (.ref a2), .val (.int p1)] [] := by first | (simp [entryFrame, mkF, argsToLocals, Value.category]; done) | rfl
theorem own_ef3 (m : MethodId) (p1 : Int32) : entryFrame m #[(.int p1)] 1 = mkF m 0 #[.val (.int p1)] [] := by first | (simp [entryFrame, mkF, argsToLocals, Value.category]; done) | rfl
theorem own_ef1 (m : MethodId) (p1 : Int32) : entryFrame m #[(.int p1)] 1 = mkF m 0 #[.val (.int p1)] [] := by first | (simp [entryFrame, mkF, argsToLocals, Value.category]; done) | rfl
theorem own_ef9 (m : MethodId) (a1 : Addr) (a2 : Addr) : entryFrame m #[(.ref a1), (.ref a2)] 3 = mkF m 0 #[.val (.ref a1), .val (.ref a2), .unset] [] := by first | (simp [entryFrame, mkF, argsToLocals, Value.category]; done) | rfl
theorem own_ef8 (m : MethodId) (a1 : Addr) (a2 : Addr) : entryFrame m #[(.ref a1), (.ref a2)] 3 = mkF m 0 #[.val (.ref a1), .val (.ref a2), .unset] [] := by first | (simp [entryFrame, mkF, argsToLocals, Value.category]; done) | rfl
theorem own_ef7 (m : MethodId)  : entryFrame m #[] 0 = mkF m 0 #[] [] := by first | (simp [entryFrame, mkF, argsToLocals, Value.category]; done) | rfl
theorem own_ef6 (m : MethodId) (a1 : Addr) : entryFrame m #[(.ref a1)] 5 = mkF m 0 #[.val (.ref a1), .unset, .unset, .unset, .unset] [] := by first | (simp [entryFrame, mkF, argsToLocals, Value.category]; done) | rfl
theorem own_ef10 (m : MethodId) (a1 : Addr) : entryFrame m #[(.ref a1)] 1 = mkF m 0 #[.val (.ref a1)] [] := by first | (simp [entryFrame, mkF, argsToLocals, Value.category]; done) | rfl
theorem own_ef0 (m : MethodId) (p1 : Int32) : entryFrame m #[(.int p1)] maxLocals = mkF m 0 #[.val (.int p1), .unset, .unset, .unset, .unset] [] := by first | (simp [entryFrame, mkF, argsToLocals, Value.category, maxLocals]; done) | rfl
def own_eq1 (x y : Int32) : Int32 := if x = y then 1 else 0
theorem own_eq01 (x y : Int32) : own_eq1 x y = 0 ∨ own_eq1 x y = 1 := by unfold own_eq1; by_cases h : x = y <;> simp [h]
def own_addv (a w0 w1 : Addr) : Int32 := if a = w0 then 1 else if a = w1 then 1 else 0
theorem own_and3 (x : Int32) : x &&& 3 = 0 ∨ x &&& 3 = 1 ∨ x &&& 3 = 2 ∨ x &&& 3 = 3 := by
  have h := c_and x 3 (by decide)
  have h3 : (3 : Int32).toInt = 3 := by decide
  rw [h3] at h
  have : (x &&& 3).toInt = 0 ∨ (x &&& 3).toInt = 1 ∨ (x &&& 3).toInt = 2 ∨ (x &&& 3).toInt = 3 := by omega
  rcases this with q | q | q | q
  · exact Or.inl (Int32.toInt_inj.mp q)
  · exact Or.inr (Or.inl (Int32.toInt_inj.mp q))
  · exact Or.inr (Or.inr (Or.inl (Int32.toInt_inj.mp q)))
  · exact Or.inr (Or.inr (Or.inr (Int32.toInt_inj.mp q)))
def own_ce_Q (Z : State) (p1 : Int32) (h0 : Heap) (n0 : Nat) (v : Option Value) (h : Heap) (L : List Loc) : Prop := v = some (.int 1) ∧ Fr n0 L ∧ h = h0
set_option maxRecDepth 65536 in
set_option maxHeartbeats 40000000 in
theorem own_ce (l : Launch) {Z : State} {a0 : Array Value} (hw : own_W Z a0) (ws : List Jvm.Cond) (p1 : Int32) (h0 : Heap) (n0 : Nat) (Z0 : n0 ≤ h0.size) (hp : ¬ (255 : Int32) < p1) :
    MetFree l (⟨"java/lang/StringLatin1", "canEncode", "(C)Z"⟩ : MethodName) (head1 (Jvm.Cond.code (⟨"java/lang/StringLatin1", "canEncode", "(C)Z"⟩ : MethodName) jdk_43_method_3_code 1 (some .boolean) :: ws) ({ frames := 0, cells := 0, slots := 0, locals := 0 } : Room)) (fun a U => a = #[(.int p1)] ∧ Z.Warmed39 U.vm ∧ U.heap = h0) (fun _ _ _ _ _ => True) (fun _ U o U' => ∃ v L, o = .returned v ∧ own_ce_Q Z p1 h0 n0 v U'.heap L ∧ FrameEnd U o U' L ({ frames := 0, cells := 0, slots := 0, locals := 0 } : Room).cells ({ frames := 0, cells := 0, slots := 0, locals := 0 } : Room).slots) := by
  refine own_enter (C := ({ frames := 0, cells := 0, slots := 0, locals := 0 } : Room).cells) (S := ({ frames := 0, cells := 0, slots := 0, locals := 0 } : Room).slots) (plainFor_of_name own_pn0) ?_
  intro p e s m below meth c T0 X0 I e0
  obtain ⟨hx, hby, hml, hown, hnm, hret, hlk, hZ⟩ := I
  have N0 := Fr.nil n0
  have O0 := own_extr h0
  refine own_cast (own_ef2 m p1) ?_
  show own_Go _ _ _ _ T0 (mkF m 0 #[.val (.int p1)] [])
  refine own_st (fun _ k => XS.iloadN X0.here hx rfl (hb hby own_d2_0) rfl k) ?_
  show own_Go _ _ _ _ T0 (mkF m 1 #[.val (.int p1)] [(.int p1)])
  refine own_st (fun _ k => XS.sipush X0.here hx rfl (hb hby own_d2_1) k) ?_
  show own_Go _ _ _ _ T0 (mkF m 4 #[.val (.int p1)] [(.int (255 : Int32)), (.int p1)])
  refine own_st (fun _ k => XS.icmpNo X0.here hx rfl (hb hby own_d2_4) rfl (flt (hp : ¬ ((255 : Int32) < p1))).2.2.1 k) ?_
  show own_Go _ _ _ _ T0 (mkF m 7 #[.val (.int p1)] [])
  refine own_st (fun _ k => XS.iconst X0.here hx rfl (hb hby own_d2_7) k) ?_
  show own_Go _ _ _ _ T0 (mkF m 8 #[.val (.int p1)] [(.int (1 : Int32))])
  refine own_st (fun _ k => XS.goto X0.here hx rfl (pc0 := 8) (pc' := 12) rfl (hb hby own_d2_8) (by decide) (by decide) k) ?_
  show own_Go _ _ _ _ T0 (mkF m 12 #[.val (.int p1)] [(.int (1 : Int32))])
  exact own_retN X0 hx hret (by simp) hlk (hb hby own_d2_12) ⟨rfl, N0, e0⟩ (by decide) (by decide)
def own_sini_Q (Z : State) (a1 a2 : Addr) (p1 : Int32) (h0 : Heap) (n0 : Nat) (v : Option Value) (h : Heap) (L : List Loc) : Prop := v = none ∧ Fr n0 L ∧ Keep h0 h [a1] ∧ Fld Z h a1 "java/lang/String" "value" "[B" (.ref a2) ∧ Fld Z h a1 "java/lang/String" "coder" "B" (.int (0 : Int32))
set_option maxRecDepth 65536 in
set_option maxHeartbeats 40000000 in
theorem own_sini (l : Launch) {Z : State} {a0 : Array Value} (hw : own_W Z a0) (ws : List Jvm.Cond) (a1 a2 : Addr) (p1 : Int32) (h0 : Heap) (n0 : Nat) (Z0 : n0 ≤ h0.size) (hp1 : p1 = (0 : Int32)) (g_a1 : n0 ≤ a1) (Ea : Exa Z h0 a1 "java/lang/String") (Fv : Fld Z h0 a1 "java/lang/String" "value" "[B" .null) (Fc : Fld Z h0 a1 "java/lang/String" "coder" "B" (.int (0 : Int32))) :
    MetFree l (⟨"java/lang/String", "<init>", "([BB)V"⟩ : MethodName) (head1 (Jvm.Cond.code (⟨"java/lang/String", "<init>", "([BB)V"⟩ : MethodName) jdk_42_method_151_code 3 none :: ws) ({ frames := 1, cells := 0, slots := 0, locals := 12 } : Room)) (fun a U => a = #[(.ref a1), (.ref a2), (.int p1)] ∧ Z.Warmed39 U.vm ∧ U.heap = h0) (fun _ _ _ _ _ => True) (fun _ U o U' => ∃ v L, o = .returned v ∧ own_sini_Q Z a1 a2 p1 h0 n0 v U'.heap L ∧ FrameEnd U o U' L ({ frames := 1, cells := 0, slots := 0, locals := 12 } : Room).cells ({ frames := 1, cells := 0, slots := 0, locals := 12 } : Room).slots) := by
  refine own_enter (C := ({ frames := 1, cells := 0, slots := 0, locals := 12 } : Room).cells) (S := ({ frames := 1, cells := 0, slots := 0, locals := 12 } : Room).slots) (plainFor_of_name own_pn1) ?_
  intro p e s m below meth c T0 X0 I e0
  obtain ⟨hx, hby, hml, hown, hnm, hret, hlk, hZ⟩ := I
  have N0 := Fr.nil n0
  have O0 := own_extr h0
  refine own_cast (own_ef4 m a1 a2 p1) ?_
  show own_Go _ _ _ _ T0 (mkF m 0 #[.val (.ref a1), .val (.ref a2), .val (.int p1)] [])
  rw [hp1]
  show own_Go _ _ _ _ T0 (mkF m 0 #[.val (.ref a1), .val (.ref a2), .val (.int (0 : Int32))] [])
  have K0 := Keep.refl h0 [a1]
  refine own_st (fun _ k => XS.aloadN X0.here hx rfl (hb hby own_d4_0) rfl rfl k) ?_
  show own_Go _ _ _ _ T0 (mkF m 1 #[.val (.ref a1), .val (.ref a2), .val (.int (0 : Int32))] [(.ref a1)])
  obtain ⟨T1, X1, e1, st1⟩ := initO X0 hx hZ hown (own_w20 hw) (own_w21 hw) (own_w22 hw) e0 (g := (mkF m 1 #[.val (.ref a1), .val (.ref a2), .val (.int (0 : Int32))] [(.ref a1)])) rfl (by rw [hml]; rfl) rfl (hb hby own_d4_1) (by decide) (W := 0) (Nat.le_of_eq rfl) (by decide)
  refine own_st st1 ?_
  show own_Go _ _ _ _ T1 (mkF m 4 #[.val (.ref a1), .val (.ref a2), .val (.int (0 : Int32))] [])
  refine own_st (fun _ k => XS.aloadN X1.here hx rfl (hb hby own_d4_4) rfl rfl k) ?_
  show own_Go _ _ _ _ T1 (mkF m 5 #[.val (.ref a1), .val (.ref a2), .val (.int (0 : Int32))] [(.ref a1)])
  refine own_st (fun _ k => XS.aloadN X1.here hx rfl (hb hby own_d4_5) rfl rfl k) ?_
  show own_Go _ _ _ _ T1 (mkF m 6 #[.val (.ref a1), .val (.ref a2), .val (.int (0 : Int32))] [(.ref a2), (.ref a1)])
  obtain ⟨T2, hp2, X2, e2, W2, st2⟩ := putF X1 hx hZ hown (host := "") (Or.inl (own_w23 hw)) Via.refl e1 Fv Ea (Or.inr ⟨(own_w24 hw), rfl, hnm⟩) (own_w11 hw) (ty := (.array .byte)) (by decide) rfl rfl (g := (mkF m 6 #[.val (.ref a1), .val (.ref a2), .val (.int (0 : Int32))] [(.ref a2), (.ref a1)])) rfl rfl (hb hby own_d4_6)
  have K2 := Keep.wr K0 W2 (Or.inl (List.mem_of_getElem? (i := 0) rfl))
  have Ex_a1_2 := Ea.wr W2
  have F_coder_a1_2 := Fc.other W2 (Or.inr (slot_ne (Or.inr (own_w26 hw)) (Or.inr (own_w24 hw)) (by decide) (t := .byte) (t' := (.array .byte)) (by decide) (by decide)))
  have F_value_a1_2 := Fv.same W2
  have N2 := Fr.snoc X2 N0 g_a1
  refine own_st st2 ?_
  show own_Go _ _ _ _ T2 (mkF m 9 #[.val (.ref a1), .val (.ref a2), .val (.int (0 : Int32))] [])
  refine own_st (fun _ k => XS.aloadN X2.here hx rfl (hb hby own_d4_9) rfl rfl k) ?_
  show own_Go _ _ _ _ T2 (mkF m 10 #[.val (.ref a1), .val (.ref a2), .val (.int (0 : Int32))] [(.ref a1)])
  refine own_st (fun _ k => XS.iloadN X2.here hx rfl (hb hby own_d4_10) rfl k) ?_
  show own_Go _ _ _ _ T2 (mkF m 11 #[.val (.ref a1), .val (.ref a2), .val (.int (0 : Int32))] [(.int (0 : Int32)), (.ref a1)])
  obtain ⟨T3, hp3, X3, e3, W3, st3⟩ := putFN X2 hx hZ hown (own_w25 hw) Via.refl e2 F_coder_a1_2 Ex_a1_2 (Or.inr ⟨(own_w26 hw), rfl, hnm⟩) (own_w11 hw) (ty := .byte) (v' := (.int (0 : Int32))) (by decide) rfl (by decide) (g := (mkF m 11 #[.val (.ref a1), .val (.ref a2), .val (.int (0 : Int32))] [(.int (0 : Int32)), (.ref a1)])) rfl rfl (hb hby own_d4_11)
  have K3 := Keep.wr K2 W3 (Or.inl (List.mem_of_getElem? (i := 0) rfl))
  have Ex_a1_3 := Ex_a1_2.wr W3
  have F_value_a1_3 := F_value_a1_2.other W3 (Or.inr (slot_ne (Or.inr (own_w24 hw)) (Or.inr (own_w26 hw)) (by decide) (t := (.array .byte)) (t' := .byte) (by decide) (by decide)))
  have F_coder_a1_3 := F_coder_a1_2.same W3
  have N3 := Fr.snoc X3 N2 g_a1
  refine own_st st3 ?_
  show own_Go _ _ _ _ T3 (mkF m 14 #[.val (.ref a1), .val (.ref a2), .val (.int (0 : Int32))] [])
  exact own_retV X3 hx hret hlk (hb hby own_d4_14) ⟨rfl, N3, by rw [e3]; exact K3, by rw [e3]; exact F_value_a1_3, by rw [e3]; exact F_coder_a1_3⟩ (by decide) (by decide)
def own_tb43_Q (Z : State) (p1 : Int32) (h0 : Heap) (n0 : Nat) (v : Option Value) (h : Heap) (L : List Loc) : Prop := ∃ b k, v = some (.ref b) ∧ Fr n0 L ∧ Ext h0 h ∧ n0 ≤ b ∧ h0.size ≤ b ∧ Arv Z h b k .byte 1 [(.int (43 : Int32))] (.int (0 : Int32))
set_option maxRecDepth 65536 in
set_option maxHeartbeats 40000000 in
theorem own_tb43 (l : Launch) {Z : State} {a0 : Array Value} (hw : own_W Z a0) (ws : List Jvm.Cond) (p1 : Int32) (h0 : Heap) (n0 : Nat) (Z0 : n0 ≤ h0.size) (hp1 : p1 = (43 : Int32)) :
    MetFree l (⟨"java/lang/StringLatin1", "toBytes", "(C)[B"⟩ : MethodName) (head1 (Jvm.Cond.code (⟨"java/lang/StringLatin1", "toBytes", "(C)[B"⟩ : MethodName) jdk_43_method_46_code 1 (some (.array .byte)) :: ws) ({ frames := 0, cells := 1, slots := 1, locals := 0 } : Room)) (fun a U => a = #[(.int p1)] ∧ Z.Warmed39 U.vm ∧ U.heap = h0) (fun _ _ _ _ _ => True) (fun _ U o U' => ∃ v L, o = .returned v ∧ own_tb43_Q Z p1 h0 n0 v U'.heap L ∧ FrameEnd U o U' L ({ frames := 0, cells := 1, slots := 1, locals := 0 } : Room).cells ({ frames := 0, cells := 1, slots := 1, locals := 0 } : Room).slots) := by
  refine own_enter (C := ({ frames := 0, cells := 1, slots := 1, locals := 0 } : Room).cells) (S := ({ frames := 0, cells := 1, slots := 1, locals := 0 } : Room).slots) (plainFor_of_name own_pn0) ?_
  intro p e s m below meth c T0 X0 I e0
  obtain ⟨hx, hby, hml, hown, hnm, hret, hlk, hZ⟩ := I
  have N0 := Fr.nil n0
  have O0 := own_extr h0
  refine own_cast (own_ef3 m p1) ?_
  show own_Go _ _ _ _ T0 (mkF m 0 #[.val (.int p1)] [])
  rw [hp1]
  show own_Go _ _ _ _ T0 (mkF m 0 #[.val (.int (43 : Int32))] [])
  refine own_st (fun _ k => XS.iconst X0.here hx rfl (hb hby own_d3_0) k) ?_
  show own_Go _ _ _ _ T0 (mkF m 1 #[.val (.int (43 : Int32))] [(.int (1 : Int32))])
  obtain ⟨T1, hp1, kk1, X1, e1, Et1, A1, st1⟩ := newP X0 hx hZ (aty := .byte) (own_w15 hw) e0 (g := (mkF m 1 #[.val (.int (43 : Int32))] [(.int (1 : Int32))])) rfl (hb hby own_d3_1) rfl (by decide) (cap := 1) (by decide) (by decide) (by decide) (by decide)
  obtain ⟨b1, g1⟩ : ∃ z, z = h0.size := ⟨_, rfl⟩
  rw [← g1] at A1 st1
  have s_b1 : h0.size ≤ b1 := Nat.le_trans O0.1 (Nat.le_of_eq g1.symm)
  have g_b1 : n0 ≤ b1 := Nat.le_trans Z0 s_b1
  have O1 := own_extt O0 Et1
  have Va1 : Arv Z hp1 b1 kk1 .byte (1 : Int32) [(.int (0 : Int32))] (.int (0 : Int32)) := (Arv.new A1 (by decide)).pad (pad_rep [] (.int (0 : Int32)) 1)
  refine own_st st1 ?_
  show own_Go _ _ _ _ T1 (mkF m 3 #[.val (.int (43 : Int32))] [(.ref b1)])
  refine own_st (fun _ k => XS.dup X1.here hx rfl (hb hby own_d3_3) rfl rfl k) ?_
  show own_Go _ _ _ _ T1 (mkF m 4 #[.val (.int (43 : Int32))] [(.ref b1), (.ref b1)])
  refine own_st (fun _ k => XS.iconst X1.here hx rfl (hb hby own_d3_4) k) ?_
  show own_Go _ _ _ _ T1 (mkF m 5 #[.val (.int (43 : Int32))] [(.int (0 : Int32)), (.ref b1), (.ref b1)])
  refine own_st (fun _ k => XS.iloadN X1.here hx rfl (hb hby own_d3_5) rfl k) ?_
  show own_Go _ _ _ _ T1 (mkF m 6 #[.val (.int (43 : Int32))] [(.int (43 : Int32)), (.int (0 : Int32)), (.ref b1), (.ref b1)])
  refine own_st (fun _ k => XS.i2b X1.here hx rfl (hb hby own_d3_6) rfl k) ?_
  show own_Go _ _ _ _ T1 (mkF m 7 #[.val (.int (43 : Int32))] [(.int ((43 : Int32).toInt8.toInt32)), (.int (0 : Int32)), (.ref b1), (.ref b1)])
  rw [show ((43 : Int32).toInt8.toInt32) = (43 : Int32) from by decide]
  show own_Go _ _ _ _ T1 (mkF m 7 #[.val (.int (43 : Int32))] [(.int (43 : Int32)), (.int (0 : Int32)), (.ref b1), (.ref b1)])
  obtain ⟨T2, hp2, X2, e2, W2, Va2, st2⟩ := own_stB X1 hx hZ e1 Va1 (by decide) 0 (by decide) (Nat.le_of_ble_eq_true rfl) (g := (mkF m 7 #[.val (.int (43 : Int32))] [(.int (43 : Int32)), (.int (0 : Int32)), (.ref b1), (.ref b1)])) rfl rfl (hb hby own_d3_7)
  have O2 := own_extw O1 W2 s_b1
  have Va2 : Arv Z hp2 b1 kk1 .byte (1 : Int32) [(.int (43 : Int32))] (.int (0 : Int32)) := Va2
  have N2 := Fr.snoc X2 N0 g_b1
  refine own_st st2 ?_
  show own_Go _ _ _ _ T2 (mkF m 8 #[.val (.int (43 : Int32))] [(.ref b1)])
  exact own_retA X2 hx hret rfl hlk rfl (hb hby own_d3_8) ⟨b1, _, rfl, N2, by rw [e2]; exact O2, g_b1, s_b1, by rw [e2]; exact Va2⟩ (by decide) (by decide)
def own_vo43_Q (Z : State) (p1 cs : Int32) (h0 : Heap) (n0 : Nat) (v : Option Value) (h : Heap) (L : List Loc) : Prop := ∃ b bv k, v = some (.ref b) ∧ Fr n0 L ∧ Ext h0 h ∧ h0.size ≤ b ∧ Exa Z h b "java/lang/String" ∧ Fld Z h b "java/lang/String" "value" "[B" (.ref bv) ∧ Fld Z h b "java/lang/String" "coder" "B" (.int (0 : Int32)) ∧ Arv Z h bv k .byte 1 [(.int (43 : Int32))] (.int (0 : Int32))
set_option maxRecDepth 65536 in
set_option maxHeartbeats 40000000 in
theorem own_vo43 (l : Launch) {Z : State} {a0 : Array Value} (hw : own_W Z a0) (ws : List Jvm.Cond) (p1 cs : Int32) (h0 : Heap) (n0 : Nat) (Z0 : n0 ≤ h0.size) (hp1 : p1 = (43 : Int32)) (Scs : Sta Z h0 "java/lang/String" "COMPACT_STRINGS" "Z" (.int cs)) (hcs : ¬ cs = 0) :
    MetFree l (⟨"java/lang/String", "valueOf", "(C)Ljava/lang/String;"⟩ : MethodName) (head1 (Jvm.Cond.code (⟨"java/lang/String", "valueOf", "(C)Ljava/lang/String;"⟩ : MethodName) jdk_42_method_139_code 1 (some (.object "java/lang/String")) :: ws) ({ frames := 2, cells := 2, slots := 5, locals := 27 } : Room)) (fun a U => a = #[(.int p1)] ∧ Z.Warmed39 U.vm ∧ U.heap = h0) (fun _ _ _ _ _ => True) (fun _ U o U' => ∃ v L, o = .returned v ∧ own_vo43_Q Z p1 cs h0 n0 v U'.heap L ∧ FrameEnd U o U' L ({ frames := 2, cells := 2, slots := 5, locals := 27 } : Room).cells ({ frames := 2, cells := 2, slots := 5, locals := 27 } : Room).slots) := by
  refine own_enter (C := ({ frames := 2, cells := 2, slots := 5, locals := 27 } : Room).cells) (S := ({ frames := 2, cells := 2, slots := 5, locals := 27 } : Room).slots) (plainFor_of_name own_pn1) ?_
  intro p e s m below meth c T0 X0 I e0
  obtain ⟨hx, hby, hml, hown, hnm, hret, hlk, hZ⟩ := I
  have N0 := Fr.nil n0
  have O0 := own_extr h0
  refine own_cast (own_ef1 m p1) ?_
  show own_Go _ _ _ _ T0 (mkF m 0 #[.val (.int p1)] [])
  rw [hp1]
  show own_Go _ _ _ _ T0 (mkF m 0 #[.val (.int (43 : Int32))] [])
  obtain ⟨T1, X1, e1, st1⟩ := getS2 X0 hx hZ hown (host := "") (Or.inl (own_w5 hw)) Via.refl e0 (Scs.ext O0) (g := (mkF m 0 #[.val (.int (43 : Int32))] [])) rfl (hb hby own_d1_0)
  refine own_st st1 ?_
  show own_Go _ _ _ _ T1 (mkF m 3 #[.val (.int (43 : Int32))] [(.int cs)])
  refine own_st (fun _ k => XS.ifNo X1.here hx rfl (hb hby own_d1_3) rfl ((if0 _ _).trans (feq (hcs : ¬ (cs = (0 : Int32)))).1) k) ?_
  show own_Go _ _ _ _ T1 (mkF m 6 #[.val (.int (43 : Int32))] [])
  refine own_st (fun _ k => XS.iloadN X1.here hx rfl (hb hby own_d1_6) rfl k) ?_
  show own_Go _ _ _ _ T1 (mkF m 7 #[.val (.int (43 : Int32))] [(.int (43 : Int32))])
  obtain ⟨v2, T2, L2, hQ2, X2, st2⟩ := own_callS X1 hx hZ (y := (⟨"java/lang/StringLatin1", "canEncode", "(C)Z"⟩ : MethodName)) hown (own_w6 hw) (own_w7 hw) (own_w8 hw) (own_w9 hw) (by decide) (own_ce l hw [] (43 : Int32) h0 n0 (Nat.le_trans Z0 O0.1) (by decide)) e1 (g := (mkF m 7 #[.val (.int (43 : Int32))] [(.int (43 : Int32))])) rfl (by rw [hml]; rfl) (argsL := [(.int (43 : Int32))]) (rest := []) (lenOf own_pd0 rfl) rfl rfl (W := 0) (Nat.le_of_eq rfl) (hb hby own_d1_7) (by decide) (by decide) (by decide) (by decide)
  obtain ⟨rfl, N2, e2⟩ := hQ2
  have N2' := Fr.app N0 N2
  refine own_st st2 ?_
  show own_Go _ _ _ _ T2 (mkF m 10 #[.val (.int (43 : Int32))] [(.int (1 : Int32))])
  refine own_st (fun _ k => XS.ifNo X2.here hx rfl (hb hby own_d1_10) rfl ((if0 _ _).trans (feq (by decide : ¬ ((1 : Int32) = (0 : Int32)))).1) k) ?_
  show own_Go _ _ _ _ T2 (mkF m 13 #[.val (.int (43 : Int32))] [])
  obtain ⟨T3, hp3, X3, e3, Et3, A3, D3, -, st3⟩ := newO X2 hx hZ hown (own_w10 hw) (own_w11 hw) (own_w3 hw) e2 (g := (mkF m 13 #[.val (.int (43 : Int32))] [])) rfl (hb hby own_d1_13) (by decide) (by decide)
  obtain ⟨b3, g3⟩ : ∃ z, z = h0.size := ⟨_, rfl⟩
  rw [← g3] at A3 D3 st3
  have s_b3 : h0.size ≤ b3 := Nat.le_trans O0.1 (Nat.le_of_eq g3.symm)
  have g_b3 : n0 ≤ b3 := Nat.le_trans Z0 s_b3
  have O3 := own_extt O0 Et3
  have F_value_b3 : Fld Z hp3 b3 "java/lang/String" "value" "[B" .null := D3 (Or.inr (own_w24 hw)) (ty := (.array .byte)) (by decide)
  have F_coder_b3 : Fld Z hp3 b3 "java/lang/String" "coder" "B" (.int (0 : Int32)) := D3 (Or.inr (own_w26 hw)) (ty := .byte) (by decide)
  refine own_st st3 ?_
  show own_Go _ _ _ _ T3 (mkF m 16 #[.val (.int (43 : Int32))] [(.ref b3)])
  refine own_st (fun _ k => XS.dup X3.here hx rfl (hb hby own_d1_16) rfl rfl k) ?_
  show own_Go _ _ _ _ T3 (mkF m 17 #[.val (.int (43 : Int32))] [(.ref b3), (.ref b3)])
  refine own_st (fun _ k => XS.iloadN X3.here hx rfl (hb hby own_d1_17) rfl k) ?_
  show own_Go _ _ _ _ T3 (mkF m 18 #[.val (.int (43 : Int32))] [(.int (43 : Int32)), (.ref b3), (.ref b3)])
  obtain ⟨v4, T4, L4, hQ4, X4, st4⟩ := own_callS X3 hx hZ (y := (⟨"java/lang/StringLatin1", "toBytes", "(C)[B"⟩ : MethodName)) hown (own_w12 hw) (own_w13 hw) (own_w8 hw) (own_w14 hw) (by decide) (own_tb43 l hw [] (43 : Int32) hp3 n0 (Nat.le_trans Z0 O3.1) rfl) e3 (g := (mkF m 18 #[.val (.int (43 : Int32))] [(.int (43 : Int32)), (.ref b3), (.ref b3)])) rfl (by rw [hml]; rfl) (argsL := [(.int (43 : Int32))]) (rest := [(.ref b3), (.ref b3)]) (lenOf own_pd1 rfl) rfl rfl (W := 2) (Nat.le_of_eq rfl) (hb hby own_d1_18) (by decide) (by decide) (by decide) (by decide)
  obtain ⟨bv, kv, rfl, N4, Et4, gv, sv, Vb⟩ := hQ4
  have lt_b3_bv : b3 < bv := Nat.lt_of_lt_of_le A3.lt sv
  have O4 := own_extt O3 Et4
  have Ex_b3_4 := A3.ext Et4
  have F_value_b3_4 := F_value_b3.ext Et4
  have F_coder_b3_4 := F_coder_b3.ext Et4
  have N4' := Fr.app N2' N4
  refine own_st st4 ?_
  show own_Go _ _ _ _ T4 (mkF m 21 #[.val (.int (43 : Int32))] [(.ref bv), (.ref b3), (.ref b3)])
  refine own_st (fun _ k => XS.iconst X4.here hx rfl (hb hby own_d1_21) k) ?_
  show own_Go _ _ _ _ T4 (mkF m 22 #[.val (.int (43 : Int32))] [(.int (0 : Int32)), (.ref bv), (.ref b3), (.ref b3)])
  obtain ⟨v5, T5, L5, hQ5, X5, st5⟩ := own_callI X4 hx hZ (y := (⟨"java/lang/String", "<init>", "([BB)V"⟩ : MethodName)) rfl hown (own_w16 hw) (own_w17 hw) (own_w3 hw) (own_w19 hw) (by decide) (own_sini l hw [] b3 bv (0 : Int32) T4.heap n0 (Nat.le_trans Z0 O4.1) rfl g_b3 Ex_b3_4 F_value_b3_4 F_coder_b3_4) rfl (g := (mkF m 22 #[.val (.int (43 : Int32))] [(.int (0 : Int32)), (.ref bv), (.ref b3), (.ref b3)])) rfl (by rw [hml]; rfl) (argsL := [(.ref bv), (.int (0 : Int32))]) (rest := [(.ref b3)]) (lenOf own_pd2 rfl) rfl rfl (W := 1) (Nat.le_of_eq rfl) (hb hby own_d1_22) (by decide) (by decide) (by decide) (by decide)
  obtain ⟨rfl, N5, K5, Gv5, Gc5⟩ := hQ5
  have O5 := own_extk O4 K5 s_b3
  have V_bv_5 := Vb.keep K5 (ninS (Nat.ne_of_gt lt_b3_bv) nin0)
  have Ex_b3_5 := Ex_b3_4.keep K5
  have N5' := Fr.app N4' N5
  refine own_st st5 ?_
  show own_Go _ _ _ _ T5 (mkF m 25 #[.val (.int (43 : Int32))] [(.ref b3)])
  exact own_retA X5 hx hret rfl hlk rfl (hb hby own_d1_25) ⟨b3, bv, kv, rfl, N5', O5, s_b3, Ex_b3_5, Gv5, Gc5, V_bv_5⟩ (by decide) (by decide)
def own_tb45_Q (Z : State) (p1 : Int32) (h0 : Heap) (n0 : Nat) (v : Option Value) (h : Heap) (L : List Loc) : Prop := ∃ b k, v = some (.ref b) ∧ Fr n0 L ∧ Ext h0 h ∧ n0 ≤ b ∧ h0.size ≤ b ∧ Arv Z h b k .byte 1 [(.int (45 : Int32))] (.int (0 : Int32))
set_option maxRecDepth 65536 in
set_option maxHeartbeats 40000000 in
theorem own_tb45 (l : Launch) {Z : State} {a0 : Array Value} (hw : own_W Z a0) (ws : List Jvm.Cond) (p1 : Int32) (h0 : Heap) (n0 : Nat) (Z0 : n0 ≤ h0.size) (hp1 : p1 = (45 : Int32)) :
    MetFree l (⟨"java/lang/StringLatin1", "toBytes", "(C)[B"⟩ : MethodName) (head1 (Jvm.Cond.code (⟨"java/lang/StringLatin1", "toBytes", "(C)[B"⟩ : MethodName) jdk_43_method_46_code 1 (some (.array .byte)) :: ws) ({ frames := 0, cells := 1, slots := 1, locals := 0 } : Room)) (fun a U => a = #[(.int p1)] ∧ Z.Warmed39 U.vm ∧ U.heap = h0) (fun _ _ _ _ _ => True) (fun _ U o U' => ∃ v L, o = .returned v ∧ own_tb45_Q Z p1 h0 n0 v U'.heap L ∧ FrameEnd U o U' L ({ frames := 0, cells := 1, slots := 1, locals := 0 } : Room).cells ({ frames := 0, cells := 1, slots := 1, locals := 0 } : Room).slots) := by
  refine own_enter (C := ({ frames := 0, cells := 1, slots := 1, locals := 0 } : Room).cells) (S := ({ frames := 0, cells := 1, slots := 1, locals := 0 } : Room).slots) (plainFor_of_name own_pn0) ?_
  intro p e s m below meth c T0 X0 I e0
  obtain ⟨hx, hby, hml, hown, hnm, hret, hlk, hZ⟩ := I
  have N0 := Fr.nil n0
  have O0 := own_extr h0
  refine own_cast (own_ef3 m p1) ?_
  show own_Go _ _ _ _ T0 (mkF m 0 #[.val (.int p1)] [])
  rw [hp1]
  show own_Go _ _ _ _ T0 (mkF m 0 #[.val (.int (45 : Int32))] [])
  refine own_st (fun _ k => XS.iconst X0.here hx rfl (hb hby own_d3_0) k) ?_
  show own_Go _ _ _ _ T0 (mkF m 1 #[.val (.int (45 : Int32))] [(.int (1 : Int32))])
  obtain ⟨T1, hp1, kk1, X1, e1, Et1, A1, st1⟩ := newP X0 hx hZ (aty := .byte) (own_w15 hw) e0 (g := (mkF m 1 #[.val (.int (45 : Int32))] [(.int (1 : Int32))])) rfl (hb hby own_d3_1) rfl (by decide) (cap := 1) (by decide) (by decide) (by decide) (by decide)
  obtain ⟨b1, g1⟩ : ∃ z, z = h0.size := ⟨_, rfl⟩
  rw [← g1] at A1 st1
  have s_b1 : h0.size ≤ b1 := Nat.le_trans O0.1 (Nat.le_of_eq g1.symm)
  have g_b1 : n0 ≤ b1 := Nat.le_trans Z0 s_b1
  have O1 := own_extt O0 Et1
  have Va1 : Arv Z hp1 b1 kk1 .byte (1 : Int32) [(.int (0 : Int32))] (.int (0 : Int32)) := (Arv.new A1 (by decide)).pad (pad_rep [] (.int (0 : Int32)) 1)
  refine own_st st1 ?_
  show own_Go _ _ _ _ T1 (mkF m 3 #[.val (.int (45 : Int32))] [(.ref b1)])
  refine own_st (fun _ k => XS.dup X1.here hx rfl (hb hby own_d3_3) rfl rfl k) ?_
  show own_Go _ _ _ _ T1 (mkF m 4 #[.val (.int (45 : Int32))] [(.ref b1), (.ref b1)])
  refine own_st (fun _ k => XS.iconst X1.here hx rfl (hb hby own_d3_4) k) ?_
  show own_Go _ _ _ _ T1 (mkF m 5 #[.val (.int (45 : Int32))] [(.int (0 : Int32)), (.ref b1), (.ref b1)])
  refine own_st (fun _ k => XS.iloadN X1.here hx rfl (hb hby own_d3_5) rfl k) ?_
  show own_Go _ _ _ _ T1 (mkF m 6 #[.val (.int (45 : Int32))] [(.int (45 : Int32)), (.int (0 : Int32)), (.ref b1), (.ref b1)])
  refine own_st (fun _ k => XS.i2b X1.here hx rfl (hb hby own_d3_6) rfl k) ?_
  show own_Go _ _ _ _ T1 (mkF m 7 #[.val (.int (45 : Int32))] [(.int ((45 : Int32).toInt8.toInt32)), (.int (0 : Int32)), (.ref b1), (.ref b1)])
  rw [show ((45 : Int32).toInt8.toInt32) = (45 : Int32) from by decide]
  show own_Go _ _ _ _ T1 (mkF m 7 #[.val (.int (45 : Int32))] [(.int (45 : Int32)), (.int (0 : Int32)), (.ref b1), (.ref b1)])
  obtain ⟨T2, hp2, X2, e2, W2, Va2, st2⟩ := own_stB X1 hx hZ e1 Va1 (by decide) 0 (by decide) (Nat.le_of_ble_eq_true rfl) (g := (mkF m 7 #[.val (.int (45 : Int32))] [(.int (45 : Int32)), (.int (0 : Int32)), (.ref b1), (.ref b1)])) rfl rfl (hb hby own_d3_7)
  have O2 := own_extw O1 W2 s_b1
  have Va2 : Arv Z hp2 b1 kk1 .byte (1 : Int32) [(.int (45 : Int32))] (.int (0 : Int32)) := Va2
  have N2 := Fr.snoc X2 N0 g_b1
  refine own_st st2 ?_
  show own_Go _ _ _ _ T2 (mkF m 8 #[.val (.int (45 : Int32))] [(.ref b1)])
  exact own_retA X2 hx hret rfl hlk rfl (hb hby own_d3_8) ⟨b1, _, rfl, N2, by rw [e2]; exact O2, g_b1, s_b1, by rw [e2]; exact Va2⟩ (by decide) (by decide)
def own_vo45_Q (Z : State) (p1 cs : Int32) (h0 : Heap) (n0 : Nat) (v : Option Value) (h : Heap) (L : List Loc) : Prop := ∃ b bv k, v = some (.ref b) ∧ Fr n0 L ∧ Ext h0 h ∧ h0.size ≤ b ∧ Exa Z h b "java/lang/String" ∧ Fld Z h b "java/lang/String" "value" "[B" (.ref bv) ∧ Fld Z h b "java/lang/String" "coder" "B" (.int (0 : Int32)) ∧ Arv Z h bv k .byte 1 [(.int (45 : Int32))] (.int (0 : Int32))
set_option maxRecDepth 65536 in
set_option maxHeartbeats 40000000 in
theorem own_vo45 (l : Launch) {Z : State} {a0 : Array Value} (hw : own_W Z a0) (ws : List Jvm.Cond) (p1 cs : Int32) (h0 : Heap) (n0 : Nat) (Z0 : n0 ≤ h0.size) (hp1 : p1 = (45 : Int32)) (Scs : Sta Z h0 "java/lang/String" "COMPACT_STRINGS" "Z" (.int cs)) (hcs : ¬ cs = 0) :
    MetFree l (⟨"java/lang/String", "valueOf", "(C)Ljava/lang/String;"⟩ : MethodName) (head1 (Jvm.Cond.code (⟨"java/lang/String", "valueOf", "(C)Ljava/lang/String;"⟩ : MethodName) jdk_42_method_139_code 1 (some (.object "java/lang/String")) :: ws) ({ frames := 2, cells := 2, slots := 5, locals := 27 } : Room)) (fun a U => a = #[(.int p1)] ∧ Z.Warmed39 U.vm ∧ U.heap = h0) (fun _ _ _ _ _ => True) (fun _ U o U' => ∃ v L, o = .returned v ∧ own_vo45_Q Z p1 cs h0 n0 v U'.heap L ∧ FrameEnd U o U' L ({ frames := 2, cells := 2, slots := 5, locals := 27 } : Room).cells ({ frames := 2, cells := 2, slots := 5, locals := 27 } : Room).slots) := by
  refine own_enter (C := ({ frames := 2, cells := 2, slots := 5, locals := 27 } : Room).cells) (S := ({ frames := 2, cells := 2, slots := 5, locals := 27 } : Room).slots) (plainFor_of_name own_pn1) ?_
  intro p e s m below meth c T0 X0 I e0
  obtain ⟨hx, hby, hml, hown, hnm, hret, hlk, hZ⟩ := I
  have N0 := Fr.nil n0
  have O0 := own_extr h0
  refine own_cast (own_ef1 m p1) ?_
  show own_Go _ _ _ _ T0 (mkF m 0 #[.val (.int p1)] [])
  rw [hp1]
  show own_Go _ _ _ _ T0 (mkF m 0 #[.val (.int (45 : Int32))] [])
  obtain ⟨T1, X1, e1, st1⟩ := getS2 X0 hx hZ hown (host := "") (Or.inl (own_w5 hw)) Via.refl e0 (Scs.ext O0) (g := (mkF m 0 #[.val (.int (45 : Int32))] [])) rfl (hb hby own_d1_0)
  refine own_st st1 ?_
  show own_Go _ _ _ _ T1 (mkF m 3 #[.val (.int (45 : Int32))] [(.int cs)])
  refine own_st (fun _ k => XS.ifNo X1.here hx rfl (hb hby own_d1_3) rfl ((if0 _ _).trans (feq (hcs : ¬ (cs = (0 : Int32)))).1) k) ?_
  show own_Go _ _ _ _ T1 (mkF m 6 #[.val (.int (45 : Int32))] [])
  refine own_st (fun _ k => XS.iloadN X1.here hx rfl (hb hby own_d1_6) rfl k) ?_
  show own_Go _ _ _ _ T1 (mkF m 7 #[.val (.int (45 : Int32))] [(.int (45 : Int32))])
  obtain ⟨v2, T2, L2, hQ2, X2, st2⟩ := own_callS X1 hx hZ (y := (⟨"java/lang/StringLatin1", "canEncode", "(C)Z"⟩ : MethodName)) hown (own_w6 hw) (own_w7 hw) (own_w8 hw) (own_w9 hw) (by decide) (own_ce l hw [] (45 : Int32) h0 n0 (Nat.le_trans Z0 O0.1) (by decide)) e1 (g := (mkF m 7 #[.val (.int (45 : Int32))] [(.int (45 : Int32))])) rfl (by rw [hml]; rfl) (argsL := [(.int (45 : Int32))]) (rest := []) (lenOf own_pd0 rfl) rfl rfl (W := 0) (Nat.le_of_eq rfl) (hb hby own_d1_7) (by decide) (by decide) (by decide) (by decide)
  obtain ⟨rfl, N2, e2⟩ := hQ2
  have N2' := Fr.app N0 N2
  refine own_st st2 ?_
  show own_Go _ _ _ _ T2 (mkF m 10 #[.val (.int (45 : Int32))] [(.int (1 : Int32))])
  refine own_st (fun _ k => XS.ifNo X2.here hx rfl (hb hby own_d1_10) rfl ((if0 _ _).trans (feq (by decide : ¬ ((1 : Int32) = (0 : Int32)))).1) k) ?_
  show own_Go _ _ _ _ T2 (mkF m 13 #[.val (.int (45 : Int32))] [])
  obtain ⟨T3, hp3, X3, e3, Et3, A3, D3, -, st3⟩ := newO X2 hx hZ hown (own_w10 hw) (own_w11 hw) (own_w3 hw) e2 (g := (mkF m 13 #[.val (.int (45 : Int32))] [])) rfl (hb hby own_d1_13) (by decide) (by decide)
  obtain ⟨b3, g3⟩ : ∃ z, z = h0.size := ⟨_, rfl⟩
  rw [← g3] at A3 D3 st3
  have s_b3 : h0.size ≤ b3 := Nat.le_trans O0.1 (Nat.le_of_eq g3.symm)
  have g_b3 : n0 ≤ b3 := Nat.le_trans Z0 s_b3
  have O3 := own_extt O0 Et3
  have F_value_b3 : Fld Z hp3 b3 "java/lang/String" "value" "[B" .null := D3 (Or.inr (own_w24 hw)) (ty := (.array .byte)) (by decide)
  have F_coder_b3 : Fld Z hp3 b3 "java/lang/String" "coder" "B" (.int (0 : Int32)) := D3 (Or.inr (own_w26 hw)) (ty := .byte) (by decide)
  refine own_st st3 ?_
  show own_Go _ _ _ _ T3 (mkF m 16 #[.val (.int (45 : Int32))] [(.ref b3)])
  refine own_st (fun _ k => XS.dup X3.here hx rfl (hb hby own_d1_16) rfl rfl k) ?_
  show own_Go _ _ _ _ T3 (mkF m 17 #[.val (.int (45 : Int32))] [(.ref b3), (.ref b3)])
  refine own_st (fun _ k => XS.iloadN X3.here hx rfl (hb hby own_d1_17) rfl k) ?_
  show own_Go _ _ _ _ T3 (mkF m 18 #[.val (.int (45 : Int32))] [(.int (45 : Int32)), (.ref b3), (.ref b3)])
  obtain ⟨v4, T4, L4, hQ4, X4, st4⟩ := own_callS X3 hx hZ (y := (⟨"java/lang/StringLatin1", "toBytes", "(C)[B"⟩ : MethodName)) hown (own_w12 hw) (own_w13 hw) (own_w8 hw) (own_w14 hw) (by decide) (own_tb45 l hw [] (45 : Int32) hp3 n0 (Nat.le_trans Z0 O3.1) rfl) e3 (g := (mkF m 18 #[.val (.int (45 : Int32))] [(.int (45 : Int32)), (.ref b3), (.ref b3)])) rfl (by rw [hml]; rfl) (argsL := [(.int (45 : Int32))]) (rest := [(.ref b3), (.ref b3)]) (lenOf own_pd1 rfl) rfl rfl (W := 2) (Nat.le_of_eq rfl) (hb hby own_d1_18) (by decide) (by decide) (by decide) (by decide)
  obtain ⟨bv, kv, rfl, N4, Et4, gv, sv, Vb⟩ := hQ4
  have lt_b3_bv : b3 < bv := Nat.lt_of_lt_of_le A3.lt sv
  have O4 := own_extt O3 Et4
  have Ex_b3_4 := A3.ext Et4
  have F_value_b3_4 := F_value_b3.ext Et4
  have F_coder_b3_4 := F_coder_b3.ext Et4
  have N4' := Fr.app N2' N4
  refine own_st st4 ?_
  show own_Go _ _ _ _ T4 (mkF m 21 #[.val (.int (45 : Int32))] [(.ref bv), (.ref b3), (.ref b3)])
  refine own_st (fun _ k => XS.iconst X4.here hx rfl (hb hby own_d1_21) k) ?_
  show own_Go _ _ _ _ T4 (mkF m 22 #[.val (.int (45 : Int32))] [(.int (0 : Int32)), (.ref bv), (.ref b3), (.ref b3)])
  obtain ⟨v5, T5, L5, hQ5, X5, st5⟩ := own_callI X4 hx hZ (y := (⟨"java/lang/String", "<init>", "([BB)V"⟩ : MethodName)) rfl hown (own_w16 hw) (own_w17 hw) (own_w3 hw) (own_w19 hw) (by decide) (own_sini l hw [] b3 bv (0 : Int32) T4.heap n0 (Nat.le_trans Z0 O4.1) rfl g_b3 Ex_b3_4 F_value_b3_4 F_coder_b3_4) rfl (g := (mkF m 22 #[.val (.int (45 : Int32))] [(.int (0 : Int32)), (.ref bv), (.ref b3), (.ref b3)])) rfl (by rw [hml]; rfl) (argsL := [(.ref bv), (.int (0 : Int32))]) (rest := [(.ref b3)]) (lenOf own_pd2 rfl) rfl rfl (W := 1) (Nat.le_of_eq rfl) (hb hby own_d1_22) (by decide) (by decide) (by decide) (by decide)
  obtain ⟨rfl, N5, K5, Gv5, Gc5⟩ := hQ5
  have O5 := own_extk O4 K5 s_b3
  have V_bv_5 := Vb.keep K5 (ninS (Nat.ne_of_gt lt_b3_bv) nin0)
  have Ex_b3_5 := Ex_b3_4.keep K5
  have N5' := Fr.app N4' N5
  refine own_st st5 ?_
  show own_Go _ _ _ _ T5 (mkF m 25 #[.val (.int (45 : Int32))] [(.ref b3)])
  exact own_retA X5 hx hret rfl hlk rfl (hb hby own_d1_25) ⟨b3, bv, kv, rfl, N5', O5, s_b3, Ex_b3_5, Gv5, Gc5, V_bv_5⟩ (by decide) (by decide)
def own_tb42_Q (Z : State) (p1 : Int32) (h0 : Heap) (n0 : Nat) (v : Option Value) (h : Heap) (L : List Loc) : Prop := ∃ b k, v = some (.ref b) ∧ Fr n0 L ∧ Ext h0 h ∧ n0 ≤ b ∧ h0.size ≤ b ∧ Arv Z h b k .byte 1 [(.int (42 : Int32))] (.int (0 : Int32))
set_option maxRecDepth 65536 in
set_option maxHeartbeats 40000000 in
theorem own_tb42 (l : Launch) {Z : State} {a0 : Array Value} (hw : own_W Z a0) (ws : List Jvm.Cond) (p1 : Int32) (h0 : Heap) (n0 : Nat) (Z0 : n0 ≤ h0.size) (hp1 : p1 = (42 : Int32)) :
    MetFree l (⟨"java/lang/StringLatin1", "toBytes", "(C)[B"⟩ : MethodName) (head1 (Jvm.Cond.code (⟨"java/lang/StringLatin1", "toBytes", "(C)[B"⟩ : MethodName) jdk_43_method_46_code 1 (some (.array .byte)) :: ws) ({ frames := 0, cells := 1, slots := 1, locals := 0 } : Room)) (fun a U => a = #[(.int p1)] ∧ Z.Warmed39 U.vm ∧ U.heap = h0) (fun _ _ _ _ _ => True) (fun _ U o U' => ∃ v L, o = .returned v ∧ own_tb42_Q Z p1 h0 n0 v U'.heap L ∧ FrameEnd U o U' L ({ frames := 0, cells := 1, slots := 1, locals := 0 } : Room).cells ({ frames := 0, cells := 1, slots := 1, locals := 0 } : Room).slots) := by
  refine own_enter (C := ({ frames := 0, cells := 1, slots := 1, locals := 0 } : Room).cells) (S := ({ frames := 0, cells := 1, slots := 1, locals := 0 } : Room).slots) (plainFor_of_name own_pn0) ?_
  intro p e s m below meth c T0 X0 I e0
  obtain ⟨hx, hby, hml, hown, hnm, hret, hlk, hZ⟩ := I
  have N0 := Fr.nil n0
  have O0 := own_extr h0
  refine own_cast (own_ef3 m p1) ?_
  show own_Go _ _ _ _ T0 (mkF m 0 #[.val (.int p1)] [])
  rw [hp1]
  show own_Go _ _ _ _ T0 (mkF m 0 #[.val (.int (42 : Int32))] [])
  refine own_st (fun _ k => XS.iconst X0.here hx rfl (hb hby own_d3_0) k) ?_
  show own_Go _ _ _ _ T0 (mkF m 1 #[.val (.int (42 : Int32))] [(.int (1 : Int32))])
  obtain ⟨T1, hp1, kk1, X1, e1, Et1, A1, st1⟩ := newP X0 hx hZ (aty := .byte) (own_w15 hw) e0 (g := (mkF m 1 #[.val (.int (42 : Int32))] [(.int (1 : Int32))])) rfl (hb hby own_d3_1) rfl (by decide) (cap := 1) (by decide) (by decide) (by decide) (by decide)
  obtain ⟨b1, g1⟩ : ∃ z, z = h0.size := ⟨_, rfl⟩
  rw [← g1] at A1 st1
  have s_b1 : h0.size ≤ b1 := Nat.le_trans O0.1 (Nat.le_of_eq g1.symm)
  have g_b1 : n0 ≤ b1 := Nat.le_trans Z0 s_b1
  have O1 := own_extt O0 Et1
  have Va1 : Arv Z hp1 b1 kk1 .byte (1 : Int32) [(.int (0 : Int32))] (.int (0 : Int32)) := (Arv.new A1 (by decide)).pad (pad_rep [] (.int (0 : Int32)) 1)
  refine own_st st1 ?_
  show own_Go _ _ _ _ T1 (mkF m 3 #[.val (.int (42 : Int32))] [(.ref b1)])
  refine own_st (fun _ k => XS.dup X1.here hx rfl (hb hby own_d3_3) rfl rfl k) ?_
  show own_Go _ _ _ _ T1 (mkF m 4 #[.val (.int (42 : Int32))] [(.ref b1), (.ref b1)])
  refine own_st (fun _ k => XS.iconst X1.here hx rfl (hb hby own_d3_4) k) ?_
  show own_Go _ _ _ _ T1 (mkF m 5 #[.val (.int (42 : Int32))] [(.int (0 : Int32)), (.ref b1), (.ref b1)])
  refine own_st (fun _ k => XS.iloadN X1.here hx rfl (hb hby own_d3_5) rfl k) ?_
  show own_Go _ _ _ _ T1 (mkF m 6 #[.val (.int (42 : Int32))] [(.int (42 : Int32)), (.int (0 : Int32)), (.ref b1), (.ref b1)])
  refine own_st (fun _ k => XS.i2b X1.here hx rfl (hb hby own_d3_6) rfl k) ?_
  show own_Go _ _ _ _ T1 (mkF m 7 #[.val (.int (42 : Int32))] [(.int ((42 : Int32).toInt8.toInt32)), (.int (0 : Int32)), (.ref b1), (.ref b1)])
  rw [show ((42 : Int32).toInt8.toInt32) = (42 : Int32) from by decide]
  show own_Go _ _ _ _ T1 (mkF m 7 #[.val (.int (42 : Int32))] [(.int (42 : Int32)), (.int (0 : Int32)), (.ref b1), (.ref b1)])
  obtain ⟨T2, hp2, X2, e2, W2, Va2, st2⟩ := own_stB X1 hx hZ e1 Va1 (by decide) 0 (by decide) (Nat.le_of_ble_eq_true rfl) (g := (mkF m 7 #[.val (.int (42 : Int32))] [(.int (42 : Int32)), (.int (0 : Int32)), (.ref b1), (.ref b1)])) rfl rfl (hb hby own_d3_7)
  have O2 := own_extw O1 W2 s_b1
  have Va2 : Arv Z hp2 b1 kk1 .byte (1 : Int32) [(.int (42 : Int32))] (.int (0 : Int32)) := Va2
  have N2 := Fr.snoc X2 N0 g_b1
  refine own_st st2 ?_
  show own_Go _ _ _ _ T2 (mkF m 8 #[.val (.int (42 : Int32))] [(.ref b1)])
  exact own_retA X2 hx hret rfl hlk rfl (hb hby own_d3_8) ⟨b1, _, rfl, N2, by rw [e2]; exact O2, g_b1, s_b1, by rw [e2]; exact Va2⟩ (by decide) (by decide)
def own_vo42_Q (Z : State) (p1 cs : Int32) (h0 : Heap) (n0 : Nat) (v : Option Value) (h : Heap) (L : List Loc) : Prop := ∃ b bv k, v = some (.ref b) ∧ Fr n0 L ∧ Ext h0 h ∧ h0.size ≤ b ∧ Exa Z h b "java/lang/String" ∧ Fld Z h b "java/lang/String" "value" "[B" (.ref bv) ∧ Fld Z h b "java/lang/String" "coder" "B" (.int (0 : Int32)) ∧ Arv Z h bv k .byte 1 [(.int (42 : Int32))] (.int (0 : Int32))
set_option maxRecDepth 65536 in
set_option maxHeartbeats 40000000 in
theorem own_vo42 (l : Launch) {Z : State} {a0 : Array Value} (hw : own_W Z a0) (ws : List Jvm.Cond) (p1 cs : Int32) (h0 : Heap) (n0 : Nat) (Z0 : n0 ≤ h0.size) (hp1 : p1 = (42 : Int32)) (Scs : Sta Z h0 "java/lang/String" "COMPACT_STRINGS" "Z" (.int cs)) (hcs : ¬ cs = 0) :
    MetFree l (⟨"java/lang/String", "valueOf", "(C)Ljava/lang/String;"⟩ : MethodName) (head1 (Jvm.Cond.code (⟨"java/lang/String", "valueOf", "(C)Ljava/lang/String;"⟩ : MethodName) jdk_42_method_139_code 1 (some (.object "java/lang/String")) :: ws) ({ frames := 2, cells := 2, slots := 5, locals := 27 } : Room)) (fun a U => a = #[(.int p1)] ∧ Z.Warmed39 U.vm ∧ U.heap = h0) (fun _ _ _ _ _ => True) (fun _ U o U' => ∃ v L, o = .returned v ∧ own_vo42_Q Z p1 cs h0 n0 v U'.heap L ∧ FrameEnd U o U' L ({ frames := 2, cells := 2, slots := 5, locals := 27 } : Room).cells ({ frames := 2, cells := 2, slots := 5, locals := 27 } : Room).slots) := by
  refine own_enter (C := ({ frames := 2, cells := 2, slots := 5, locals := 27 } : Room).cells) (S := ({ frames := 2, cells := 2, slots := 5, locals := 27 } : Room).slots) (plainFor_of_name own_pn1) ?_
  intro p e s m below meth c T0 X0 I e0
  obtain ⟨hx, hby, hml, hown, hnm, hret, hlk, hZ⟩ := I
  have N0 := Fr.nil n0
  have O0 := own_extr h0
  refine own_cast (own_ef1 m p1) ?_
  show own_Go _ _ _ _ T0 (mkF m 0 #[.val (.int p1)] [])
  rw [hp1]
  show own_Go _ _ _ _ T0 (mkF m 0 #[.val (.int (42 : Int32))] [])
  obtain ⟨T1, X1, e1, st1⟩ := getS2 X0 hx hZ hown (host := "") (Or.inl (own_w5 hw)) Via.refl e0 (Scs.ext O0) (g := (mkF m 0 #[.val (.int (42 : Int32))] [])) rfl (hb hby own_d1_0)
  refine own_st st1 ?_
  show own_Go _ _ _ _ T1 (mkF m 3 #[.val (.int (42 : Int32))] [(.int cs)])
  refine own_st (fun _ k => XS.ifNo X1.here hx rfl (hb hby own_d1_3) rfl ((if0 _ _).trans (feq (hcs : ¬ (cs = (0 : Int32)))).1) k) ?_
  show own_Go _ _ _ _ T1 (mkF m 6 #[.val (.int (42 : Int32))] [])
  refine own_st (fun _ k => XS.iloadN X1.here hx rfl (hb hby own_d1_6) rfl k) ?_
  show own_Go _ _ _ _ T1 (mkF m 7 #[.val (.int (42 : Int32))] [(.int (42 : Int32))])
  obtain ⟨v2, T2, L2, hQ2, X2, st2⟩ := own_callS X1 hx hZ (y := (⟨"java/lang/StringLatin1", "canEncode", "(C)Z"⟩ : MethodName)) hown (own_w6 hw) (own_w7 hw) (own_w8 hw) (own_w9 hw) (by decide) (own_ce l hw [] (42 : Int32) h0 n0 (Nat.le_trans Z0 O0.1) (by decide)) e1 (g := (mkF m 7 #[.val (.int (42 : Int32))] [(.int (42 : Int32))])) rfl (by rw [hml]; rfl) (argsL := [(.int (42 : Int32))]) (rest := []) (lenOf own_pd0 rfl) rfl rfl (W := 0) (Nat.le_of_eq rfl) (hb hby own_d1_7) (by decide) (by decide) (by decide) (by decide)
  obtain ⟨rfl, N2, e2⟩ := hQ2
  have N2' := Fr.app N0 N2
  refine own_st st2 ?_
  show own_Go _ _ _ _ T2 (mkF m 10 #[.val (.int (42 : Int32))] [(.int (1 : Int32))])
  refine own_st (fun _ k => XS.ifNo X2.here hx rfl (hb hby own_d1_10) rfl ((if0 _ _).trans (feq (by decide : ¬ ((1 : Int32) = (0 : Int32)))).1) k) ?_
  show own_Go _ _ _ _ T2 (mkF m 13 #[.val (.int (42 : Int32))] [])
  obtain ⟨T3, hp3, X3, e3, Et3, A3, D3, -, st3⟩ := newO X2 hx hZ hown (own_w10 hw) (own_w11 hw) (own_w3 hw) e2 (g := (mkF m 13 #[.val (.int (42 : Int32))] [])) rfl (hb hby own_d1_13) (by decide) (by decide)
  obtain ⟨b3, g3⟩ : ∃ z, z = h0.size := ⟨_, rfl⟩
  rw [← g3] at A3 D3 st3
  have s_b3 : h0.size ≤ b3 := Nat.le_trans O0.1 (Nat.le_of_eq g3.symm)
  have g_b3 : n0 ≤ b3 := Nat.le_trans Z0 s_b3
  have O3 := own_extt O0 Et3
  have F_value_b3 : Fld Z hp3 b3 "java/lang/String" "value" "[B" .null := D3 (Or.inr (own_w24 hw)) (ty := (.array .byte)) (by decide)
  have F_coder_b3 : Fld Z hp3 b3 "java/lang/String" "coder" "B" (.int (0 : Int32)) := D3 (Or.inr (own_w26 hw)) (ty := .byte) (by decide)
  refine own_st st3 ?_
  show own_Go _ _ _ _ T3 (mkF m 16 #[.val (.int (42 : Int32))] [(.ref b3)])
  refine own_st (fun _ k => XS.dup X3.here hx rfl (hb hby own_d1_16) rfl rfl k) ?_
  show own_Go _ _ _ _ T3 (mkF m 17 #[.val (.int (42 : Int32))] [(.ref b3), (.ref b3)])
  refine own_st (fun _ k => XS.iloadN X3.here hx rfl (hb hby own_d1_17) rfl k) ?_
  show own_Go _ _ _ _ T3 (mkF m 18 #[.val (.int (42 : Int32))] [(.int (42 : Int32)), (.ref b3), (.ref b3)])
  obtain ⟨v4, T4, L4, hQ4, X4, st4⟩ := own_callS X3 hx hZ (y := (⟨"java/lang/StringLatin1", "toBytes", "(C)[B"⟩ : MethodName)) hown (own_w12 hw) (own_w13 hw) (own_w8 hw) (own_w14 hw) (by decide) (own_tb42 l hw [] (42 : Int32) hp3 n0 (Nat.le_trans Z0 O3.1) rfl) e3 (g := (mkF m 18 #[.val (.int (42 : Int32))] [(.int (42 : Int32)), (.ref b3), (.ref b3)])) rfl (by rw [hml]; rfl) (argsL := [(.int (42 : Int32))]) (rest := [(.ref b3), (.ref b3)]) (lenOf own_pd1 rfl) rfl rfl (W := 2) (Nat.le_of_eq rfl) (hb hby own_d1_18) (by decide) (by decide) (by decide) (by decide)
  obtain ⟨bv, kv, rfl, N4, Et4, gv, sv, Vb⟩ := hQ4
  have lt_b3_bv : b3 < bv := Nat.lt_of_lt_of_le A3.lt sv
  have O4 := own_extt O3 Et4
  have Ex_b3_4 := A3.ext Et4
  have F_value_b3_4 := F_value_b3.ext Et4
  have F_coder_b3_4 := F_coder_b3.ext Et4
  have N4' := Fr.app N2' N4
  refine own_st st4 ?_
  show own_Go _ _ _ _ T4 (mkF m 21 #[.val (.int (42 : Int32))] [(.ref bv), (.ref b3), (.ref b3)])
  refine own_st (fun _ k => XS.iconst X4.here hx rfl (hb hby own_d1_21) k) ?_
  show own_Go _ _ _ _ T4 (mkF m 22 #[.val (.int (42 : Int32))] [(.int (0 : Int32)), (.ref bv), (.ref b3), (.ref b3)])
  obtain ⟨v5, T5, L5, hQ5, X5, st5⟩ := own_callI X4 hx hZ (y := (⟨"java/lang/String", "<init>", "([BB)V"⟩ : MethodName)) rfl hown (own_w16 hw) (own_w17 hw) (own_w3 hw) (own_w19 hw) (by decide) (own_sini l hw [] b3 bv (0 : Int32) T4.heap n0 (Nat.le_trans Z0 O4.1) rfl g_b3 Ex_b3_4 F_value_b3_4 F_coder_b3_4) rfl (g := (mkF m 22 #[.val (.int (42 : Int32))] [(.int (0 : Int32)), (.ref bv), (.ref b3), (.ref b3)])) rfl (by rw [hml]; rfl) (argsL := [(.ref bv), (.int (0 : Int32))]) (rest := [(.ref b3)]) (lenOf own_pd2 rfl) rfl rfl (W := 1) (Nat.le_of_eq rfl) (hb hby own_d1_22) (by decide) (by decide) (by decide) (by decide)
  obtain ⟨rfl, N5, K5, Gv5, Gc5⟩ := hQ5
  have O5 := own_extk O4 K5 s_b3
  have V_bv_5 := Vb.keep K5 (ninS (Nat.ne_of_gt lt_b3_bv) nin0)
  have Ex_b3_5 := Ex_b3_4.keep K5
  have N5' := Fr.app N4' N5
  refine own_st st5 ?_
  show own_Go _ _ _ _ T5 (mkF m 25 #[.val (.int (42 : Int32))] [(.ref b3)])
  exact own_retA X5 hx hret rfl hlk rfl (hb hby own_d1_25) ⟨b3, bv, kv, rfl, N5', O5, s_b3, Ex_b3_5, Gv5, Gc5, V_bv_5⟩ (by decide) (by decide)
def own_tb47_Q (Z : State) (p1 : Int32) (h0 : Heap) (n0 : Nat) (v : Option Value) (h : Heap) (L : List Loc) : Prop := ∃ b k, v = some (.ref b) ∧ Fr n0 L ∧ Ext h0 h ∧ n0 ≤ b ∧ h0.size ≤ b ∧ Arv Z h b k .byte 1 [(.int (47 : Int32))] (.int (0 : Int32))
set_option maxRecDepth 65536 in
set_option maxHeartbeats 40000000 in
theorem own_tb47 (l : Launch) {Z : State} {a0 : Array Value} (hw : own_W Z a0) (ws : List Jvm.Cond) (p1 : Int32) (h0 : Heap) (n0 : Nat) (Z0 : n0 ≤ h0.size) (hp1 : p1 = (47 : Int32)) :
    MetFree l (⟨"java/lang/StringLatin1", "toBytes", "(C)[B"⟩ : MethodName) (head1 (Jvm.Cond.code (⟨"java/lang/StringLatin1", "toBytes", "(C)[B"⟩ : MethodName) jdk_43_method_46_code 1 (some (.array .byte)) :: ws) ({ frames := 0, cells := 1, slots := 1, locals := 0 } : Room)) (fun a U => a = #[(.int p1)] ∧ Z.Warmed39 U.vm ∧ U.heap = h0) (fun _ _ _ _ _ => True) (fun _ U o U' => ∃ v L, o = .returned v ∧ own_tb47_Q Z p1 h0 n0 v U'.heap L ∧ FrameEnd U o U' L ({ frames := 0, cells := 1, slots := 1, locals := 0 } : Room).cells ({ frames := 0, cells := 1, slots := 1, locals := 0 } : Room).slots) := by
  refine own_enter (C := ({ frames := 0, cells := 1, slots := 1, locals := 0 } : Room).cells) (S := ({ frames := 0, cells := 1, slots := 1, locals := 0 } : Room).slots) (plainFor_of_name own_pn0) ?_
  intro p e s m below meth c T0 X0 I e0
  obtain ⟨hx, hby, hml, hown, hnm, hret, hlk, hZ⟩ := I
  have N0 := Fr.nil n0
  have O0 := own_extr h0
  refine own_cast (own_ef3 m p1) ?_
  show own_Go _ _ _ _ T0 (mkF m 0 #[.val (.int p1)] [])
  rw [hp1]
  show own_Go _ _ _ _ T0 (mkF m 0 #[.val (.int (47 : Int32))] [])
  refine own_st (fun _ k => XS.iconst X0.here hx rfl (hb hby own_d3_0) k) ?_
  show own_Go _ _ _ _ T0 (mkF m 1 #[.val (.int (47 : Int32))] [(.int (1 : Int32))])
  obtain ⟨T1, hp1, kk1, X1, e1, Et1, A1, st1⟩ := newP X0 hx hZ (aty := .byte) (own_w15 hw) e0 (g := (mkF m 1 #[.val (.int (47 : Int32))] [(.int (1 : Int32))])) rfl (hb hby own_d3_1) rfl (by decide) (cap := 1) (by decide) (by decide) (by decide) (by decide)
  obtain ⟨b1, g1⟩ : ∃ z, z = h0.size := ⟨_, rfl⟩
  rw [← g1] at A1 st1
  have s_b1 : h0.size ≤ b1 := Nat.le_trans O0.1 (Nat.le_of_eq g1.symm)
  have g_b1 : n0 ≤ b1 := Nat.le_trans Z0 s_b1
  have O1 := own_extt O0 Et1
  have Va1 : Arv Z hp1 b1 kk1 .byte (1 : Int32) [(.int (0 : Int32))] (.int (0 : Int32)) := (Arv.new A1 (by decide)).pad (pad_rep [] (.int (0 : Int32)) 1)
  refine own_st st1 ?_
  show own_Go _ _ _ _ T1 (mkF m 3 #[.val (.int (47 : Int32))] [(.ref b1)])
  refine own_st (fun _ k => XS.dup X1.here hx rfl (hb hby own_d3_3) rfl rfl k) ?_
  show own_Go _ _ _ _ T1 (mkF m 4 #[.val (.int (47 : Int32))] [(.ref b1), (.ref b1)])
  refine own_st (fun _ k => XS.iconst X1.here hx rfl (hb hby own_d3_4) k) ?_
  show own_Go _ _ _ _ T1 (mkF m 5 #[.val (.int (47 : Int32))] [(.int (0 : Int32)), (.ref b1), (.ref b1)])
  refine own_st (fun _ k => XS.iloadN X1.here hx rfl (hb hby own_d3_5) rfl k) ?_
  show own_Go _ _ _ _ T1 (mkF m 6 #[.val (.int (47 : Int32))] [(.int (47 : Int32)), (.int (0 : Int32)), (.ref b1), (.ref b1)])
  refine own_st (fun _ k => XS.i2b X1.here hx rfl (hb hby own_d3_6) rfl k) ?_
  show own_Go _ _ _ _ T1 (mkF m 7 #[.val (.int (47 : Int32))] [(.int ((47 : Int32).toInt8.toInt32)), (.int (0 : Int32)), (.ref b1), (.ref b1)])
  rw [show ((47 : Int32).toInt8.toInt32) = (47 : Int32) from by decide]
  show own_Go _ _ _ _ T1 (mkF m 7 #[.val (.int (47 : Int32))] [(.int (47 : Int32)), (.int (0 : Int32)), (.ref b1), (.ref b1)])
  obtain ⟨T2, hp2, X2, e2, W2, Va2, st2⟩ := own_stB X1 hx hZ e1 Va1 (by decide) 0 (by decide) (Nat.le_of_ble_eq_true rfl) (g := (mkF m 7 #[.val (.int (47 : Int32))] [(.int (47 : Int32)), (.int (0 : Int32)), (.ref b1), (.ref b1)])) rfl rfl (hb hby own_d3_7)
  have O2 := own_extw O1 W2 s_b1
  have Va2 : Arv Z hp2 b1 kk1 .byte (1 : Int32) [(.int (47 : Int32))] (.int (0 : Int32)) := Va2
  have N2 := Fr.snoc X2 N0 g_b1
  refine own_st st2 ?_
  show own_Go _ _ _ _ T2 (mkF m 8 #[.val (.int (47 : Int32))] [(.ref b1)])
  exact own_retA X2 hx hret rfl hlk rfl (hb hby own_d3_8) ⟨b1, _, rfl, N2, by rw [e2]; exact O2, g_b1, s_b1, by rw [e2]; exact Va2⟩ (by decide) (by decide)
def own_vo47_Q (Z : State) (p1 cs : Int32) (h0 : Heap) (n0 : Nat) (v : Option Value) (h : Heap) (L : List Loc) : Prop := ∃ b bv k, v = some (.ref b) ∧ Fr n0 L ∧ Ext h0 h ∧ h0.size ≤ b ∧ Exa Z h b "java/lang/String" ∧ Fld Z h b "java/lang/String" "value" "[B" (.ref bv) ∧ Fld Z h b "java/lang/String" "coder" "B" (.int (0 : Int32)) ∧ Arv Z h bv k .byte 1 [(.int (47 : Int32))] (.int (0 : Int32))
set_option maxRecDepth 65536 in
set_option maxHeartbeats 40000000 in
theorem own_vo47 (l : Launch) {Z : State} {a0 : Array Value} (hw : own_W Z a0) (ws : List Jvm.Cond) (p1 cs : Int32) (h0 : Heap) (n0 : Nat) (Z0 : n0 ≤ h0.size) (hp1 : p1 = (47 : Int32)) (Scs : Sta Z h0 "java/lang/String" "COMPACT_STRINGS" "Z" (.int cs)) (hcs : ¬ cs = 0) :
    MetFree l (⟨"java/lang/String", "valueOf", "(C)Ljava/lang/String;"⟩ : MethodName) (head1 (Jvm.Cond.code (⟨"java/lang/String", "valueOf", "(C)Ljava/lang/String;"⟩ : MethodName) jdk_42_method_139_code 1 (some (.object "java/lang/String")) :: ws) ({ frames := 2, cells := 2, slots := 5, locals := 27 } : Room)) (fun a U => a = #[(.int p1)] ∧ Z.Warmed39 U.vm ∧ U.heap = h0) (fun _ _ _ _ _ => True) (fun _ U o U' => ∃ v L, o = .returned v ∧ own_vo47_Q Z p1 cs h0 n0 v U'.heap L ∧ FrameEnd U o U' L ({ frames := 2, cells := 2, slots := 5, locals := 27 } : Room).cells ({ frames := 2, cells := 2, slots := 5, locals := 27 } : Room).slots) := by
  refine own_enter (C := ({ frames := 2, cells := 2, slots := 5, locals := 27 } : Room).cells) (S := ({ frames := 2, cells := 2, slots := 5, locals := 27 } : Room).slots) (plainFor_of_name own_pn1) ?_
  intro p e s m below meth c T0 X0 I e0
  obtain ⟨hx, hby, hml, hown, hnm, hret, hlk, hZ⟩ := I
  have N0 := Fr.nil n0
  have O0 := own_extr h0
  refine own_cast (own_ef1 m p1) ?_
  show own_Go _ _ _ _ T0 (mkF m 0 #[.val (.int p1)] [])
  rw [hp1]
  show own_Go _ _ _ _ T0 (mkF m 0 #[.val (.int (47 : Int32))] [])
  obtain ⟨T1, X1, e1, st1⟩ := getS2 X0 hx hZ hown (host := "") (Or.inl (own_w5 hw)) Via.refl e0 (Scs.ext O0) (g := (mkF m 0 #[.val (.int (47 : Int32))] [])) rfl (hb hby own_d1_0)
  refine own_st st1 ?_
  show own_Go _ _ _ _ T1 (mkF m 3 #[.val (.int (47 : Int32))] [(.int cs)])
  refine own_st (fun _ k => XS.ifNo X1.here hx rfl (hb hby own_d1_3) rfl ((if0 _ _).trans (feq (hcs : ¬ (cs = (0 : Int32)))).1) k) ?_
  show own_Go _ _ _ _ T1 (mkF m 6 #[.val (.int (47 : Int32))] [])
  refine own_st (fun _ k => XS.iloadN X1.here hx rfl (hb hby own_d1_6) rfl k) ?_
  show own_Go _ _ _ _ T1 (mkF m 7 #[.val (.int (47 : Int32))] [(.int (47 : Int32))])
  obtain ⟨v2, T2, L2, hQ2, X2, st2⟩ := own_callS X1 hx hZ (y := (⟨"java/lang/StringLatin1", "canEncode", "(C)Z"⟩ : MethodName)) hown (own_w6 hw) (own_w7 hw) (own_w8 hw) (own_w9 hw) (by decide) (own_ce l hw [] (47 : Int32) h0 n0 (Nat.le_trans Z0 O0.1) (by decide)) e1 (g := (mkF m 7 #[.val (.int (47 : Int32))] [(.int (47 : Int32))])) rfl (by rw [hml]; rfl) (argsL := [(.int (47 : Int32))]) (rest := []) (lenOf own_pd0 rfl) rfl rfl (W := 0) (Nat.le_of_eq rfl) (hb hby own_d1_7) (by decide) (by decide) (by decide) (by decide)
  obtain ⟨rfl, N2, e2⟩ := hQ2
  have N2' := Fr.app N0 N2
  refine own_st st2 ?_
  show own_Go _ _ _ _ T2 (mkF m 10 #[.val (.int (47 : Int32))] [(.int (1 : Int32))])
  refine own_st (fun _ k => XS.ifNo X2.here hx rfl (hb hby own_d1_10) rfl ((if0 _ _).trans (feq (by decide : ¬ ((1 : Int32) = (0 : Int32)))).1) k) ?_
  show own_Go _ _ _ _ T2 (mkF m 13 #[.val (.int (47 : Int32))] [])
  obtain ⟨T3, hp3, X3, e3, Et3, A3, D3, -, st3⟩ := newO X2 hx hZ hown (own_w10 hw) (own_w11 hw) (own_w3 hw) e2 (g := (mkF m 13 #[.val (.int (47 : Int32))] [])) rfl (hb hby own_d1_13) (by decide) (by decide)
  obtain ⟨b3, g3⟩ : ∃ z, z = h0.size := ⟨_, rfl⟩
  rw [← g3] at A3 D3 st3
  have s_b3 : h0.size ≤ b3 := Nat.le_trans O0.1 (Nat.le_of_eq g3.symm)
  have g_b3 : n0 ≤ b3 := Nat.le_trans Z0 s_b3
  have O3 := own_extt O0 Et3
  have F_value_b3 : Fld Z hp3 b3 "java/lang/String" "value" "[B" .null := D3 (Or.inr (own_w24 hw)) (ty := (.array .byte)) (by decide)
  have F_coder_b3 : Fld Z hp3 b3 "java/lang/String" "coder" "B" (.int (0 : Int32)) := D3 (Or.inr (own_w26 hw)) (ty := .byte) (by decide)
  refine own_st st3 ?_
  show own_Go _ _ _ _ T3 (mkF m 16 #[.val (.int (47 : Int32))] [(.ref b3)])
  refine own_st (fun _ k => XS.dup X3.here hx rfl (hb hby own_d1_16) rfl rfl k) ?_
  show own_Go _ _ _ _ T3 (mkF m 17 #[.val (.int (47 : Int32))] [(.ref b3), (.ref b3)])
  refine own_st (fun _ k => XS.iloadN X3.here hx rfl (hb hby own_d1_17) rfl k) ?_
  show own_Go _ _ _ _ T3 (mkF m 18 #[.val (.int (47 : Int32))] [(.int (47 : Int32)), (.ref b3), (.ref b3)])
  obtain ⟨v4, T4, L4, hQ4, X4, st4⟩ := own_callS X3 hx hZ (y := (⟨"java/lang/StringLatin1", "toBytes", "(C)[B"⟩ : MethodName)) hown (own_w12 hw) (own_w13 hw) (own_w8 hw) (own_w14 hw) (by decide) (own_tb47 l hw [] (47 : Int32) hp3 n0 (Nat.le_trans Z0 O3.1) rfl) e3 (g := (mkF m 18 #[.val (.int (47 : Int32))] [(.int (47 : Int32)), (.ref b3), (.ref b3)])) rfl (by rw [hml]; rfl) (argsL := [(.int (47 : Int32))]) (rest := [(.ref b3), (.ref b3)]) (lenOf own_pd1 rfl) rfl rfl (W := 2) (Nat.le_of_eq rfl) (hb hby own_d1_18) (by decide) (by decide) (by decide) (by decide)
  obtain ⟨bv, kv, rfl, N4, Et4, gv, sv, Vb⟩ := hQ4
  have lt_b3_bv : b3 < bv := Nat.lt_of_lt_of_le A3.lt sv
  have O4 := own_extt O3 Et4
  have Ex_b3_4 := A3.ext Et4
  have F_value_b3_4 := F_value_b3.ext Et4
  have F_coder_b3_4 := F_coder_b3.ext Et4
  have N4' := Fr.app N2' N4
  refine own_st st4 ?_
  show own_Go _ _ _ _ T4 (mkF m 21 #[.val (.int (47 : Int32))] [(.ref bv), (.ref b3), (.ref b3)])
  refine own_st (fun _ k => XS.iconst X4.here hx rfl (hb hby own_d1_21) k) ?_
  show own_Go _ _ _ _ T4 (mkF m 22 #[.val (.int (47 : Int32))] [(.int (0 : Int32)), (.ref bv), (.ref b3), (.ref b3)])
  obtain ⟨v5, T5, L5, hQ5, X5, st5⟩ := own_callI X4 hx hZ (y := (⟨"java/lang/String", "<init>", "([BB)V"⟩ : MethodName)) rfl hown (own_w16 hw) (own_w17 hw) (own_w3 hw) (own_w19 hw) (by decide) (own_sini l hw [] b3 bv (0 : Int32) T4.heap n0 (Nat.le_trans Z0 O4.1) rfl g_b3 Ex_b3_4 F_value_b3_4 F_coder_b3_4) rfl (g := (mkF m 22 #[.val (.int (47 : Int32))] [(.int (0 : Int32)), (.ref bv), (.ref b3), (.ref b3)])) rfl (by rw [hml]; rfl) (argsL := [(.ref bv), (.int (0 : Int32))]) (rest := [(.ref b3)]) (lenOf own_pd2 rfl) rfl rfl (W := 1) (Nat.le_of_eq rfl) (hb hby own_d1_22) (by decide) (by decide) (by decide) (by decide)
  obtain ⟨rfl, N5, K5, Gv5, Gc5⟩ := hQ5
  have O5 := own_extk O4 K5 s_b3
  have V_bv_5 := Vb.keep K5 (ninS (Nat.ne_of_gt lt_b3_bv) nin0)
  have Ex_b3_5 := Ex_b3_4.keep K5
  have N5' := Fr.app N4' N5
  refine own_st st5 ?_
  show own_Go _ _ _ _ T5 (mkF m 25 #[.val (.int (47 : Int32))] [(.ref b3)])
  exact own_retA X5 hx hret rfl hlk rfl (hb hby own_d1_25) ⟨b3, bv, kv, rfl, N5', O5, s_b3, Ex_b3_5, Gv5, Gc5, V_bv_5⟩ (by decide) (by decide)
def own_le_Q (Z : State) (a1 a2 : Addr) (k1 k2 : ClassId) (x y : Int32) (h0 : Heap) (n0 : Nat) (v : Option Value) (h : Heap) (L : List Loc) : Prop := v = some (.int (own_eq1 x y)) ∧ Fr n0 L ∧ h = h0
set_option maxRecDepth 65536 in
set_option maxHeartbeats 40000000 in
theorem own_le (l : Launch) {Z : State} {a0 : Array Value} (hw : own_W Z a0) (ws : List Jvm.Cond) (a1 a2 : Addr) (k1 k2 : ClassId) (x y : Int32) (h0 : Heap) (n0 : Nat) (Z0 : n0 ≤ h0.size) (V1 : Arv Z h0 a1 k1 .byte 1 [(.int x)] (.int (0 : Int32))) (V2 : Arv Z h0 a2 k2 .byte 1 [(.int y)] (.int (0 : Int32))) :
    MetFree l (⟨"java/lang/StringLatin1", "equals", "([B[B)Z"⟩ : MethodName) (head1 (Jvm.Cond.code (⟨"java/lang/StringLatin1", "equals", "([B[B)Z"⟩ : MethodName) jdk_43_method_13_code 3 (some .boolean) :: ws) ({ frames := 0, cells := 0, slots := 0, locals := 0 } : Room)) (fun a U => a = #[(.ref a1), (.ref a2)] ∧ Z.Warmed39 U.vm ∧ U.heap = h0) (fun _ _ _ _ _ => True) (fun _ U o U' => ∃ v L, o = .returned v ∧ own_le_Q Z a1 a2 k1 k2 x y h0 n0 v U'.heap L ∧ FrameEnd U o U' L ({ frames := 0, cells := 0, slots := 0, locals := 0 } : Room).cells ({ frames := 0, cells := 0, slots := 0, locals := 0 } : Room).slots) := by
  refine own_enter (C := ({ frames := 0, cells := 0, slots := 0, locals := 0 } : Room).cells) (S := ({ frames := 0, cells := 0, slots := 0, locals := 0 } : Room).slots) (plainFor_of_name own_pn0) ?_
  intro p e s m below meth c T0 X0 I e0
  obtain ⟨hx, hby, hml, hown, hnm, hret, hlk, hZ⟩ := I
  have N0 := Fr.nil n0
  have O0 := own_extr h0
  refine own_cast (own_ef9 m a1 a2) ?_
  show own_Go _ _ _ _ T0 (mkF m 0 #[.val (.ref a1), .val (.ref a2), .unset] [])
  refine own_st (fun _ k => XS.aloadN X0.here hx rfl (hb hby own_d9_0) rfl rfl k) ?_
  show own_Go _ _ _ _ T0 (mkF m 1 #[.val (.ref a1), .val (.ref a2), .unset] [(.ref a1)])
  refine own_st (own_len X0 hx hZ e0 (V1.ext O0) (g := (mkF m 1 #[.val (.ref a1), .val (.ref a2), .unset] [(.ref a1)])) rfl rfl (hb hby own_d9_1)) ?_
  show own_Go _ _ _ _ T0 (mkF m 2 #[.val (.ref a1), .val (.ref a2), .unset] [(.int (1 : Int32))])
  refine own_st (fun _ k => XS.aloadN X0.here hx rfl (hb hby own_d9_2) rfl rfl k) ?_
  show own_Go _ _ _ _ T0 (mkF m 3 #[.val (.ref a1), .val (.ref a2), .unset] [(.ref a2), (.int (1 : Int32))])
  refine own_st (own_len X0 hx hZ e0 (V2.ext O0) (g := (mkF m 3 #[.val (.ref a1), .val (.ref a2), .unset] [(.ref a2), (.int (1 : Int32))])) rfl rfl (hb hby own_d9_3)) ?_
  show own_Go _ _ _ _ T0 (mkF m 4 #[.val (.ref a1), .val (.ref a2), .unset] [(.int (1 : Int32)), (.int (1 : Int32))])
  refine own_st (fun _ k => XS.icmpNo X0.here hx rfl (hb hby own_d9_4) rfl (teq (by decide : (1 : Int32) = (1 : Int32))).2 k) ?_
  show own_Go _ _ _ _ T0 (mkF m 7 #[.val (.ref a1), .val (.ref a2), .unset] [])
  refine own_st (fun _ k => XS.iconst X0.here hx rfl (hb hby own_d9_7) k) ?_
  show own_Go _ _ _ _ T0 (mkF m 8 #[.val (.ref a1), .val (.ref a2), .unset] [(.int (0 : Int32))])
  refine own_st (fun _ k => XS.istoreN X0.here hx rfl (hb hby own_d9_8) rfl (l' := #[.val (.ref a1), .val (.ref a2), .val (.int (0 : Int32))]) rfl k) ?_
  show own_Go _ _ _ _ T0 (mkF m 9 #[.val (.ref a1), .val (.ref a2), .val (.int (0 : Int32))] [])
  refine own_st (fun _ k => XS.iloadN X0.here hx rfl (hb hby own_d9_9) rfl k) ?_
  show own_Go _ _ _ _ T0 (mkF m 10 #[.val (.ref a1), .val (.ref a2), .val (.int (0 : Int32))] [(.int (0 : Int32))])
  refine own_st (fun _ k => XS.aloadN X0.here hx rfl (hb hby own_d9_10) rfl rfl k) ?_
  show own_Go _ _ _ _ T0 (mkF m 11 #[.val (.ref a1), .val (.ref a2), .val (.int (0 : Int32))] [(.ref a1), (.int (0 : Int32))])
  refine own_st (own_len X0 hx hZ e0 (V1.ext O0) (g := (mkF m 11 #[.val (.ref a1), .val (.ref a2), .val (.int (0 : Int32))] [(.ref a1), (.int (0 : Int32))])) rfl rfl (hb hby own_d9_11)) ?_
  show own_Go _ _ _ _ T0 (mkF m 12 #[.val (.ref a1), .val (.ref a2), .val (.int (0 : Int32))] [(.int (1 : Int32)), (.int (0 : Int32))])
  refine own_st (fun _ k => XS.icmpNo X0.here hx rfl (hb hby own_d9_12) rfl (tlt (by decide : (0 : Int32) < (1 : Int32))).2.1 k) ?_
  show own_Go _ _ _ _ T0 (mkF m 15 #[.val (.ref a1), .val (.ref a2), .val (.int (0 : Int32))] [])
  refine own_st (fun _ k => XS.aloadN X0.here hx rfl (hb hby own_d9_15) rfl rfl k) ?_
  show own_Go _ _ _ _ T0 (mkF m 16 #[.val (.ref a1), .val (.ref a2), .val (.int (0 : Int32))] [(.ref a1)])
  refine own_st (fun _ k => XS.iloadN X0.here hx rfl (hb hby own_d9_16) rfl k) ?_
  show own_Go _ _ _ _ T0 (mkF m 17 #[.val (.ref a1), .val (.ref a2), .val (.int (0 : Int32))] [(.int (0 : Int32)), (.ref a1)])
  refine own_st (own_ldB X0 hx hZ e0 (V1.ext O0) (j := (0 : Int32)) (by decide) (v := (.int x)) rfl (g := (mkF m 17 #[.val (.ref a1), .val (.ref a2), .val (.int (0 : Int32))] [(.int (0 : Int32)), (.ref a1)])) rfl rfl (hb hby own_d9_17)) ?_
  show own_Go _ _ _ _ T0 (mkF m 18 #[.val (.ref a1), .val (.ref a2), .val (.int (0 : Int32))] [(.int x)])
  refine own_st (fun _ k => XS.aloadN X0.here hx rfl (hb hby own_d9_18) rfl rfl k) ?_
  show own_Go _ _ _ _ T0 (mkF m 19 #[.val (.ref a1), .val (.ref a2), .val (.int (0 : Int32))] [(.ref a2), (.int x)])
  refine own_st (fun _ k => XS.iloadN X0.here hx rfl (hb hby own_d9_19) rfl k) ?_
  show own_Go _ _ _ _ T0 (mkF m 20 #[.val (.ref a1), .val (.ref a2), .val (.int (0 : Int32))] [(.int (0 : Int32)), (.ref a2), (.int x)])
  refine own_st (own_ldB X0 hx hZ e0 (V2.ext O0) (j := (0 : Int32)) (by decide) (v := (.int y)) rfl (g := (mkF m 20 #[.val (.ref a1), .val (.ref a2), .val (.int (0 : Int32))] [(.int (0 : Int32)), (.ref a2), (.int x)])) rfl rfl (hb hby own_d9_20)) ?_
  show own_Go _ _ _ _ T0 (mkF m 21 #[.val (.ref a1), .val (.ref a2), .val (.int (0 : Int32))] [(.int y), (.int x)])
  by_cases hc : x = y
  · refine own_st (fun _ k => XS.icmpYes X0.here hx rfl (pc0 := 21) (pc' := 26) rfl (hb hby own_d9_21) rfl (teq (hc : x = y)).1 (by decide) (by decide) k) ?_
    show own_Go _ _ _ _ T0 (mkF m 26 #[.val (.ref a1), .val (.ref a2), .val (.int (0 : Int32))] [])
    refine own_st (fun _ k => XS.iinc X0.here hx rfl (hb hby own_d9_26) rfl (l' := #[.val (.ref a1), .val (.ref a2), .val (.int ((0 : Int32) + (1 : Int32)))]) rfl k) ?_
    show own_Go _ _ _ _ T0 (mkF m 29 #[.val (.ref a1), .val (.ref a2), .val (.int ((0 : Int32) + (1 : Int32)))] [])
    rw [show ((0 : Int32) + (1 : Int32)) = (1 : Int32) from by decide]
    show own_Go _ _ _ _ T0 (mkF m 29 #[.val (.ref a1), .val (.ref a2), .val (.int (1 : Int32))] [])
    refine own_st (fun _ k => XS.goto X0.here hx rfl (pc0 := 29) (pc' := 9) rfl (hb hby own_d9_29) (by decide) (by decide) k) ?_
    show own_Go _ _ _ _ T0 (mkF m 9 #[.val (.ref a1), .val (.ref a2), .val (.int (1 : Int32))] [])
    refine own_st (fun _ k => XS.iloadN X0.here hx rfl (hb hby own_d9_9) rfl k) ?_
    show own_Go _ _ _ _ T0 (mkF m 10 #[.val (.ref a1), .val (.ref a2), .val (.int (1 : Int32))] [(.int (1 : Int32))])
    refine own_st (fun _ k => XS.aloadN X0.here hx rfl (hb hby own_d9_10) rfl rfl k) ?_
    show own_Go _ _ _ _ T0 (mkF m 11 #[.val (.ref a1), .val (.ref a2), .val (.int (1 : Int32))] [(.ref a1), (.int (1 : Int32))])
    refine own_st (own_len X0 hx hZ e0 (V1.ext O0) (g := (mkF m 11 #[.val (.ref a1), .val (.ref a2), .val (.int (1 : Int32))] [(.ref a1), (.int (1 : Int32))])) rfl rfl (hb hby own_d9_11)) ?_
    show own_Go _ _ _ _ T0 (mkF m 12 #[.val (.ref a1), .val (.ref a2), .val (.int (1 : Int32))] [(.int (1 : Int32)), (.int (1 : Int32))])
    refine own_st (fun _ k => XS.icmpYes X0.here hx rfl (pc0 := 12) (pc' := 32) rfl (hb hby own_d9_12) rfl (flt (by decide : ¬ ((1 : Int32) < (1 : Int32)))).2.1 (by decide) (by decide) k) ?_
    show own_Go _ _ _ _ T0 (mkF m 32 #[.val (.ref a1), .val (.ref a2), .val (.int (1 : Int32))] [])
    refine own_st (fun _ k => XS.iconst X0.here hx rfl (hb hby own_d9_32) k) ?_
    show own_Go _ _ _ _ T0 (mkF m 33 #[.val (.ref a1), .val (.ref a2), .val (.int (1 : Int32))] [(.int (1 : Int32))])
    exact own_retN X0 hx hret (by simp) hlk (hb hby own_d9_33) ⟨by simp [own_eq1, nar, hc], N0, e0⟩ (by decide) (by decide)
  · refine own_st (fun _ k => XS.icmpNo X0.here hx rfl (hb hby own_d9_21) rfl (feq (hc : ¬ (x = y))).1 k) ?_
    show own_Go _ _ _ _ T0 (mkF m 24 #[.val (.ref a1), .val (.ref a2), .val (.int (0 : Int32))] [])
    refine own_st (fun _ k => XS.iconst X0.here hx rfl (hb hby own_d9_24) k) ?_
    show own_Go _ _ _ _ T0 (mkF m 25 #[.val (.ref a1), .val (.ref a2), .val (.int (0 : Int32))] [(.int (0 : Int32))])
    exact own_retN X0 hx hret (by simp) hlk (hb hby own_d9_25) ⟨by simp [own_eq1, nar, hc], N0, e0⟩ (by decide) (by decide)
def own_se_Q (Z : State) (a1 a2 b1 b2 : Addr) (k1 k2 : ClassId) (x y cs : Int32) (h0 : Heap) (n0 : Nat) (v : Option Value) (h : Heap) (L : List Loc) : Prop := v = some (.int (own_eq1 x y)) ∧ Fr n0 L ∧ h = h0
set_option maxRecDepth 65536 in
set_option maxHeartbeats 40000000 in
theorem own_se (l : Launch) {Z : State} {a0 : Array Value} (hw : own_W Z a0) (ws : List Jvm.Cond) (a1 a2 b1 b2 : Addr) (k1 k2 : ClassId) (x y cs : Int32) (h0 : Heap) (n0 : Nat) (Z0 : n0 ≤ h0.size) (Scs : Sta Z h0 "java/lang/String" "COMPACT_STRINGS" "Z" (.int cs)) (hcs : ¬ cs = 0) (hne : ¬ a1 = a2) (E2 : Exa Z h0 a2 "java/lang/String") (Fv1 : Fld Z h0 a1 "java/lang/String" "value" "[B" (.ref b1)) (Fc1 : Fld Z h0 a1 "java/lang/String" "coder" "B" (.int (0 : Int32))) (V1 : Arv Z h0 b1 k1 .byte 1 [(.int x)] (.int (0 : Int32))) (Fv2 : Fld Z h0 a2 "java/lang/String" "value" "[B" (.ref b2)) (Fc2 : Fld Z h0 a2 "java/lang/String" "coder" "B" (.int (0 : Int32))) (V2 : Arv Z h0 b2 k2 .byte 1 [(.int y)] (.int (0 : Int32))) :
    MetFree l (⟨"java/lang/String", "equals", "(Ljava/lang/Object;)Z"⟩ : MethodName) (head1 (Jvm.Cond.code (⟨"java/lang/String", "equals", "(Ljava/lang/Object;)Z"⟩ : MethodName) jdk_42_method_66_code 3 (some .boolean) :: ws) ({ frames := 1, cells := 0, slots := 0, locals := 14 } : Room)) (fun a U => a = #[(.ref a1), (.ref a2)] ∧ Z.Warmed39 U.vm ∧ U.heap = h0) (fun _ _ _ _ _ => True) (fun _ U o U' => ∃ v L, o = .returned v ∧ own_se_Q Z a1 a2 b1 b2 k1 k2 x y cs h0 n0 v U'.heap L ∧ FrameEnd U o U' L ({ frames := 1, cells := 0, slots := 0, locals := 14 } : Room).cells ({ frames := 1, cells := 0, slots := 0, locals := 14 } : Room).slots) := by
  refine own_enter (C := ({ frames := 1, cells := 0, slots := 0, locals := 14 } : Room).cells) (S := ({ frames := 1, cells := 0, slots := 0, locals := 14 } : Room).slots) (plainFor_of_name own_pn1) ?_
  intro p e s m below meth c T0 X0 I e0
  obtain ⟨hx, hby, hml, hown, hnm, hret, hlk, hZ⟩ := I
  have N0 := Fr.nil n0
  have O0 := own_extr h0
  refine own_cast (own_ef8 m a1 a2) ?_
  show own_Go _ _ _ _ T0 (mkF m 0 #[.val (.ref a1), .val (.ref a2), .unset] [])
  refine own_st (fun _ k => XS.aloadN X0.here hx rfl (hb hby own_d8_0) rfl rfl k) ?_
  show own_Go _ _ _ _ T0 (mkF m 1 #[.val (.ref a1), .val (.ref a2), .unset] [(.ref a1)])
  refine own_st (fun _ k => XS.aloadN X0.here hx rfl (hb hby own_d8_1) rfl rfl k) ?_
  show own_Go _ _ _ _ T0 (mkF m 2 #[.val (.ref a1), .val (.ref a2), .unset] [(.ref a2), (.ref a1)])
  refine own_st (fun _ k => Jvm.RoadKit.acmp (g := (mkF m 2 #[.val (.ref a1), .val (.ref a2), .unset] [(.ref a2), (.ref a1)])) X0 hx rfl rfl rfl (pc0 := 2) (pc' := 7) (same := false) rfl (hb hby own_d8_2) rfl (decide_eq_false fun q => hne (Value.ref.inj q)) (by decide) (by decide) k) ?_
  show own_Go _ _ _ _ T0 (mkF m 7 #[.val (.ref a1), .val (.ref a2), .unset] [])
  refine own_st (fun _ k => XS.aloadN X0.here hx rfl (hb hby own_d8_7) rfl rfl k) ?_
  show own_Go _ _ _ _ T0 (mkF m 8 #[.val (.ref a1), .val (.ref a2), .unset] [(.ref a2)])
  obtain ⟨T1, X1, e1, st1⟩ := instY X0 hx hZ hown (own_w10 hw) e0 (Ins.self (E2.ext O0)) (g := (mkF m 8 #[.val (.ref a1), .val (.ref a2), .unset] [(.ref a2)])) rfl rfl (hb hby own_d8_8)
  refine own_st st1 ?_
  show own_Go _ _ _ _ T1 (mkF m 11 #[.val (.ref a1), .val (.ref a2), .unset] [(.int (1 : Int32))])
  refine own_st (fun _ k => XS.ifNo X1.here hx rfl (hb hby own_d8_11) rfl ((if0 _ _).trans (feq (by decide : ¬ ((1 : Int32) = (0 : Int32)))).1) k) ?_
  show own_Go _ _ _ _ T1 (mkF m 14 #[.val (.ref a1), .val (.ref a2), .unset] [])
  refine own_st (fun _ k => XS.aloadN X1.here hx rfl (hb hby own_d8_14) rfl rfl k) ?_
  show own_Go _ _ _ _ T1 (mkF m 15 #[.val (.ref a1), .val (.ref a2), .unset] [(.ref a2)])
  obtain ⟨T2, X2, e2, st2⟩ := castY X1 hx hZ hown (own_w10 hw) e1 (Ins.self (E2.ext O0)) (g := (mkF m 15 #[.val (.ref a1), .val (.ref a2), .unset] [(.ref a2)])) rfl rfl (hb hby own_d8_15)
  refine own_st st2 ?_
  show own_Go _ _ _ _ T2 (mkF m 18 #[.val (.ref a1), .val (.ref a2), .unset] [(.ref a2)])
  refine own_st (fun _ k => XS.astoreN X2.here hx rfl (hb hby own_d8_18) rfl rfl (l' := #[.val (.ref a1), .val (.ref a2), .val (.ref a2)]) rfl k) ?_
  show own_Go _ _ _ _ T2 (mkF m 19 #[.val (.ref a1), .val (.ref a2), .val (.ref a2)] [])
  obtain ⟨T3, X3, e3, st3⟩ := getS2 X2 hx hZ hown (host := "") (Or.inl (own_w5 hw)) Via.refl e2 (Scs.ext O0) (g := (mkF m 19 #[.val (.ref a1), .val (.ref a2), .val (.ref a2)] [])) rfl (hb hby own_d8_19)
  refine own_st st3 ?_
  show own_Go _ _ _ _ T3 (mkF m 22 #[.val (.ref a1), .val (.ref a2), .val (.ref a2)] [(.int cs)])
  refine own_st (fun _ k => XS.ifNo X3.here hx rfl (hb hby own_d8_22) rfl ((if0 _ _).trans (feq (hcs : ¬ (cs = (0 : Int32)))).1) k) ?_
  show own_Go _ _ _ _ T3 (mkF m 25 #[.val (.ref a1), .val (.ref a2), .val (.ref a2)] [])
  refine own_st (fun _ k => XS.aloadN X3.here hx rfl (hb hby own_d8_25) rfl rfl k) ?_
  show own_Go _ _ _ _ T3 (mkF m 26 #[.val (.ref a1), .val (.ref a2), .val (.ref a2)] [(.ref a1)])
  obtain ⟨T4, X4, e4, st4⟩ := getF X3 hx hZ hown (host := "") (Or.inl (own_w25 hw)) Via.refl e3 (Fc1.ext O0) (g := (mkF m 26 #[.val (.ref a1), .val (.ref a2), .val (.ref a2)] [(.ref a1)])) rfl rfl (hb hby own_d8_26)
  refine own_st st4 ?_
  show own_Go _ _ _ _ T4 (mkF m 29 #[.val (.ref a1), .val (.ref a2), .val (.ref a2)] [(.int (0 : Int32))])
  refine own_st (fun _ k => XS.aloadN X4.here hx rfl (hb hby own_d8_29) rfl rfl k) ?_
  show own_Go _ _ _ _ T4 (mkF m 30 #[.val (.ref a1), .val (.ref a2), .val (.ref a2)] [(.ref a2), (.int (0 : Int32))])
  obtain ⟨T5, X5, e5, st5⟩ := getF X4 hx hZ hown (host := "") (Or.inl (own_w25 hw)) Via.refl e4 (Fc2.ext O0) (g := (mkF m 30 #[.val (.ref a1), .val (.ref a2), .val (.ref a2)] [(.ref a2), (.int (0 : Int32))])) rfl rfl (hb hby own_d8_30)
  refine own_st st5 ?_
  show own_Go _ _ _ _ T5 (mkF m 33 #[.val (.ref a1), .val (.ref a2), .val (.ref a2)] [(.int (0 : Int32)), (.int (0 : Int32))])
  refine own_st (fun _ k => XS.icmpNo X5.here hx rfl (hb hby own_d8_33) rfl (teq (by decide : (0 : Int32) = (0 : Int32))).2 k) ?_
  show own_Go _ _ _ _ T5 (mkF m 36 #[.val (.ref a1), .val (.ref a2), .val (.ref a2)] [])
  refine own_st (fun _ k => XS.aloadN X5.here hx rfl (hb hby own_d8_36) rfl rfl k) ?_
  show own_Go _ _ _ _ T5 (mkF m 37 #[.val (.ref a1), .val (.ref a2), .val (.ref a2)] [(.ref a1)])
  obtain ⟨T6, X6, e6, st6⟩ := getF X5 hx hZ hown (host := "") (Or.inl (own_w23 hw)) Via.refl e5 (Fv1.ext O0) (g := (mkF m 37 #[.val (.ref a1), .val (.ref a2), .val (.ref a2)] [(.ref a1)])) rfl rfl (hb hby own_d8_37)
  refine own_st st6 ?_
  show own_Go _ _ _ _ T6 (mkF m 40 #[.val (.ref a1), .val (.ref a2), .val (.ref a2)] [(.ref b1)])
  refine own_st (fun _ k => XS.aloadN X6.here hx rfl (hb hby own_d8_40) rfl rfl k) ?_
  show own_Go _ _ _ _ T6 (mkF m 41 #[.val (.ref a1), .val (.ref a2), .val (.ref a2)] [(.ref a2), (.ref b1)])
  obtain ⟨T7, X7, e7, st7⟩ := getF X6 hx hZ hown (host := "") (Or.inl (own_w23 hw)) Via.refl e6 (Fv2.ext O0) (g := (mkF m 41 #[.val (.ref a1), .val (.ref a2), .val (.ref a2)] [(.ref a2), (.ref b1)])) rfl rfl (hb hby own_d8_41)
  refine own_st st7 ?_
  show own_Go _ _ _ _ T7 (mkF m 44 #[.val (.ref a1), .val (.ref a2), .val (.ref a2)] [(.ref b2), (.ref b1)])
  obtain ⟨v8, T8, L8, hQ8, X8, st8⟩ := own_callS X7 hx hZ (y := (⟨"java/lang/StringLatin1", "equals", "([B[B)Z"⟩ : MethodName)) hown (own_w57 hw) (own_w58 hw) (own_w8 hw) (own_w59 hw) (by decide) (own_le l hw [] b1 b2 k1 k2 x y h0 n0 (Nat.le_trans Z0 O0.1) (V1.ext O0) (V2.ext O0)) e7 (g := (mkF m 44 #[.val (.ref a1), .val (.ref a2), .val (.ref a2)] [(.ref b2), (.ref b1)])) rfl (by rw [hml]; rfl) (argsL := [(.ref b1), (.ref b2)]) (rest := []) (lenOf own_pd3 rfl) rfl rfl (W := 0) (Nat.le_of_eq rfl) (hb hby own_d8_44) (by decide) (by decide) (by decide) (by decide)
  obtain ⟨rfl, N8, e8⟩ := hQ8
  have N8' := Fr.app N0 N8
  refine own_st st8 ?_
  show own_Go _ _ _ _ T8 (mkF m 47 #[.val (.ref a1), .val (.ref a2), .val (.ref a2)] [(.int (own_eq1 x y))])
  by_cases hc : (own_eq1 x y) = (0 : Int32)
  · refine own_st (fun _ k => XS.ifYes X8.here hx rfl (pc0 := 47) (pc' := 54) rfl (hb hby own_d8_47) rfl ((if0 _ _).trans (teq (hc : (own_eq1 x y) = (0 : Int32))).1) (by decide) (by decide) k) ?_
    show own_Go _ _ _ _ T8 (mkF m 54 #[.val (.ref a1), .val (.ref a2), .val (.ref a2)] [])
    refine own_st (fun _ k => XS.iconst X8.here hx rfl (hb hby own_d8_54) k) ?_
    show own_Go _ _ _ _ T8 (mkF m 55 #[.val (.ref a1), .val (.ref a2), .val (.ref a2)] [(.int (0 : Int32))])
    exact own_retN X8 hx hret (by simp) hlk (hb hby own_d8_55) ⟨by rw [hc]; rfl, N8', e8⟩ (by decide) (by decide)
  · refine own_st (fun _ k => XS.ifNo X8.here hx rfl (hb hby own_d8_47) rfl ((if0 _ _).trans (feq (hc : ¬ ((own_eq1 x y) = (0 : Int32)))).1) k) ?_
    show own_Go _ _ _ _ T8 (mkF m 50 #[.val (.ref a1), .val (.ref a2), .val (.ref a2)] [])
    refine own_st (fun _ k => XS.iconst X8.here hx rfl (hb hby own_d8_50) k) ?_
    show own_Go _ _ _ _ T8 (mkF m 51 #[.val (.ref a1), .val (.ref a2), .val (.ref a2)] [(.int (1 : Int32))])
    refine own_st (fun _ k => XS.goto X8.here hx rfl (pc0 := 51) (pc' := 55) rfl (hb hby own_d8_51) (by decide) (by decide) k) ?_
    show own_Go _ _ _ _ T8 (mkF m 55 #[.val (.ref a1), .val (.ref a2), .val (.ref a2)] [(.int (1 : Int32))])
    exact own_retN X8 hx hret (by simp) hlk (hb hby own_d8_55) ⟨by rw [(own_eq01 x y).resolve_left hc]; rfl, N8', e8⟩ (by decide) (by decide)
def own_vals_Q (Z : State) (wv w0 w1 w2 w3 : Addr) (kv : ClassId) (h0 : Heap) (n0 : Nat) (v : Option Value) (h : Heap) (L : List Loc) : Prop := ∃ b k, v = some (.ref b) ∧ Fr n0 L ∧ Ext h0 h ∧ n0 ≤ b ∧ h0.size ≤ b ∧ Arv Z h b k (.object "holdtrue/Operand$ArithmeticOperator") 4 [(.ref w0), (.ref w1), (.ref w2), (.ref w3)] .null
set_option maxRecDepth 65536 in
set_option maxHeartbeats 40000000 in
theorem own_vals (l : Launch) {Z : State} {a0 : Array Value} (hw : own_W Z a0) (ws : List Jvm.Cond) (wv w0 w1 w2 w3 : Addr) (kv : ClassId) (h0 : Heap) (n0 : Nat) (Z0 : n0 ≤ h0.size) (Sv : Sta Z h0 "holdtrue/Operand$ArithmeticOperator" "$VALUES" "[Lholdtrue/Operand$ArithmeticOperator;" (.ref wv)) (Vv : Arv Z h0 wv kv (.object "holdtrue/Operand$ArithmeticOperator") 4 [(.ref w0), (.ref w1), (.ref w2), (.ref w3)] .null) (Ev : Exa Z h0 wv "[Lholdtrue/Operand$ArithmeticOperator;") :
    MetFree l (⟨"holdtrue/Operand$ArithmeticOperator", "values", "()[Lholdtrue/Operand$ArithmeticOperator;"⟩ : MethodName) (head1 (Jvm.Cond.code (⟨"holdtrue/Operand$ArithmeticOperator", "values", "()[Lholdtrue/Operand$ArithmeticOperator;"⟩ : MethodName) prog_55_method_1_code 0 (some (.array (.object "holdtrue/Operand$ArithmeticOperator"))) :: ws) ({ frames := 1, cells := 1, slots := 4, locals := 14 } : Room)) (fun a U => a = #[] ∧ Z.Warmed39 U.vm ∧ U.heap = h0) (fun _ _ _ _ _ => True) (fun _ U o U' => ∃ v L, o = .returned v ∧ own_vals_Q Z wv w0 w1 w2 w3 kv h0 n0 v U'.heap L ∧ FrameEnd U o U' L ({ frames := 1, cells := 1, slots := 4, locals := 14 } : Room).cells ({ frames := 1, cells := 1, slots := 4, locals := 14 } : Room).slots) := by
  refine own_enter (C := ({ frames := 1, cells := 1, slots := 4, locals := 14 } : Room).cells) (S := ({ frames := 1, cells := 1, slots := 4, locals := 14 } : Room).slots) (plainFor_of_name own_pn2) ?_
  intro p e s m below meth c T0 X0 I e0
  obtain ⟨hx, hby, hml, hown, hnm, hret, hlk, hZ⟩ := I
  have N0 := Fr.nil n0
  have O0 := own_extr h0
  refine own_cast (own_ef7 m ) ?_
  show own_Go _ _ _ _ T0 (mkF m 0 #[] [])
  obtain ⟨T1, X1, e1, st1⟩ := getS2 X0 hx hZ hown (host := "") (Or.inl (own_w34 hw)) Via.refl e0 (Sv.ext O0) (g := (mkF m 0 #[] [])) rfl (hb hby own_d7_0)
  refine own_st st1 ?_
  show own_Go _ _ _ _ T1 (mkF m 3 #[] [(.ref wv)])
  obtain ⟨T2, hp2, X2, e2, Et2, A2, Ax2, st2⟩ := cloneH X1 hx hZ hown (own_w36 hw) (own_w37 hw) (own_w41 hw) (own_w39 hw) (own_w40 hw) (own_w42 hw) e1 (Vv.ext O0).arh (Ev.ext O0) (g := (mkF m 3 #[] [(.ref wv)])) rfl (by rw [hml]; rfl) rfl (hb hby own_d7_3) (by decide) (W := 0) (cap := 4) (Nat.le_of_eq rfl) (by decide) (by decide) (by decide) (by decide)
  obtain ⟨b2, g2⟩ : ∃ z, z = h0.size := ⟨_, rfl⟩
  rw [← g2] at A2 Ax2 st2
  have s_b2 : h0.size ≤ b2 := Nat.le_trans O0.1 (Nat.le_of_eq g2.symm)
  have g_b2 : n0 ≤ b2 := Nat.le_trans Z0 s_b2
  have O2 := own_extt O0 Et2
  have Va2 : Arv Z hp2 b2 kv (.object "holdtrue/Operand$ArithmeticOperator") (4 : Int32) [(.ref w0), (.ref w1), (.ref w2), (.ref w3)] .null := A2
  refine own_st st2 ?_
  show own_Go _ _ _ _ T2 (mkF m 6 #[] [(.ref b2)])
  obtain ⟨T3, X3, e3, st3⟩ := castY X2 hx hZ hown (own_w48 hw) e2 (Ins.self Ax2) (g := (mkF m 6 #[] [(.ref b2)])) rfl rfl (hb hby own_d7_6)
  refine own_st st3 ?_
  show own_Go _ _ _ _ T3 (mkF m 9 #[] [(.ref b2)])
  exact own_retA X3 hx hret rfl hlk rfl (hb hby own_d7_9) ⟨b2, _, rfl, N0, by rw [e3]; exact O2, g_b2, s_b2, by rw [e3]; exact Va2⟩ (by decide) (by decide)
def own_of43_Q (Z : State) (a1 ba : Addr) (ka : ClassId) (wv w0 w1 w2 w3 u0 u1 u2 u3 y0 y1 y2 y3 : Addr) (kv k0 k1 k2 k3 : ClassId) (cs : Int32) (h0 : Heap) (n0 : Nat) (v : Option Value) (h : Heap) (L : List Loc) : Prop := v = some (.ref w0) ∧ Fr n0 L ∧ Ext h0 h
set_option maxRecDepth 65536 in
set_option maxHeartbeats 40000000 in
theorem own_of43 (l : Launch) {Z : State} {a0 : Array Value} (hw : own_W Z a0) (ws : List Jvm.Cond) (a1 ba : Addr) (ka : ClassId) (wv w0 w1 w2 w3 u0 u1 u2 u3 y0 y1 y2 y3 : Addr) (kv k0 k1 k2 k3 : ClassId) (cs : Int32) (h0 : Heap) (n0 : Nat) (Z0 : n0 ≤ h0.size) (Scs : Sta Z h0 "java/lang/String" "COMPACT_STRINGS" "Z" (.int cs)) (hcs : ¬ cs = 0) (Sv : Sta Z h0 "holdtrue/Operand$ArithmeticOperator" "$VALUES" "[Lholdtrue/Operand$ArithmeticOperator;" (.ref wv)) (Vv : Arv Z h0 wv kv (.object "holdtrue/Operand$ArithmeticOperator") 4 [(.ref w0), (.ref w1), (.ref w2), (.ref w3)] .null) (Ev : Exa Z h0 wv "[Lholdtrue/Operand$ArithmeticOperator;") (Fs0 : Fld Z h0 w0 "holdtrue/Operand$ArithmeticOperator" "symbol" "Ljava/lang/String;" (.ref u0)) (Eu0 : Exa Z h0 u0 "java/lang/String") (Gv0 : Fld Z h0 u0 "java/lang/String" "value" "[B" (.ref y0)) (Gc0 : Fld Z h0 u0 "java/lang/String" "coder" "B" (.int (0 : Int32))) (Vy0 : Arv Z h0 y0 k0 .byte 1 [(.int (43 : Int32))] (.int (0 : Int32))) (Fs1 : Fld Z h0 w1 "holdtrue/Operand$ArithmeticOperator" "symbol" "Ljava/lang/String;" (.ref u1)) (Eu1 : Exa Z h0 u1 "java/lang/String") (Gv1 : Fld Z h0 u1 "java/lang/String" "value" "[B" (.ref y1)) (Gc1 : Fld Z h0 u1 "java/lang/String" "coder" "B" (.int (0 : Int32))) (Vy1 : Arv Z h0 y1 k1 .byte 1 [(.int (45 : Int32))] (.int (0 : Int32))) (Fs2 : Fld Z h0 w2 "holdtrue/Operand$ArithmeticOperator" "symbol" "Ljava/lang/String;" (.ref u2)) (Eu2 : Exa Z h0 u2 "java/lang/String") (Gv2 : Fld Z h0 u2 "java/lang/String" "value" "[B" (.ref y2)) (Gc2 : Fld Z h0 u2 "java/lang/String" "coder" "B" (.int (0 : Int32))) (Vy2 : Arv Z h0 y2 k2 .byte 1 [(.int (42 : Int32))] (.int (0 : Int32))) (Fs3 : Fld Z h0 w3 "holdtrue/Operand$ArithmeticOperator" "symbol" "Ljava/lang/String;" (.ref u3)) (Eu3 : Exa Z h0 u3 "java/lang/String") (Gv3 : Fld Z h0 u3 "java/lang/String" "value" "[B" (.ref y3)) (Gc3 : Fld Z h0 u3 "java/lang/String" "coder" "B" (.int (0 : Int32))) (Vy3 : Arv Z h0 y3 k3 .byte 1 [(.int (47 : Int32))] (.int (0 : Int32))) (dn0 : ¬ u0 = a1) (dn1 : ¬ u1 = a1) (dn2 : ¬ u2 = a1) (dn3 : ¬ u3 = a1) (Ea : Exa Z h0 a1 "java/lang/String") (Fva : Fld Z h0 a1 "java/lang/String" "value" "[B" (.ref ba)) (Fca : Fld Z h0 a1 "java/lang/String" "coder" "B" (.int (0 : Int32))) (Va : Arv Z h0 ba ka .byte 1 [(.int (43 : Int32))] (.int (0 : Int32))) :
    MetFree l (⟨"holdtrue/Operand$ArithmeticOperator", "of", "(Ljava/lang/String;)Lholdtrue/Operand$ArithmeticOperator;"⟩ : MethodName) (head1 (Jvm.Cond.code (⟨"holdtrue/Operand$ArithmeticOperator", "of", "(Ljava/lang/String;)Lholdtrue/Operand$ArithmeticOperator;"⟩ : MethodName) prog_55_method_4_code 5 (some (.object "holdtrue/Operand$ArithmeticOperator")) :: ws) ({ frames := 2, cells := 1, slots := 4, locals := 28 } : Room)) (fun a U => a = #[(.ref a1)] ∧ Z.Warmed39 U.vm ∧ U.heap = h0) (fun _ _ _ _ _ => True) (fun _ U o U' => ∃ v L, o = .returned v ∧ own_of43_Q Z a1 ba ka wv w0 w1 w2 w3 u0 u1 u2 u3 y0 y1 y2 y3 kv k0 k1 k2 k3 cs h0 n0 v U'.heap L ∧ FrameEnd U o U' L ({ frames := 2, cells := 1, slots := 4, locals := 28 } : Room).cells ({ frames := 2, cells := 1, slots := 4, locals := 28 } : Room).slots) := by
  refine own_enter (C := ({ frames := 2, cells := 1, slots := 4, locals := 28 } : Room).cells) (S := ({ frames := 2, cells := 1, slots := 4, locals := 28 } : Room).slots) (plainFor_of_name own_pn2) ?_
  intro p e s m below meth c T0 X0 I e0
  obtain ⟨hx, hby, hml, hown, hnm, hret, hlk, hZ⟩ := I
  have N0 := Fr.nil n0
  have O0 := own_extr h0
  refine own_cast (own_ef6 m a1) ?_
  show own_Go _ _ _ _ T0 (mkF m 0 #[.val (.ref a1), .unset, .unset, .unset, .unset] [])
  obtain ⟨v1, T1, L1, hQ1, X1, st1⟩ := own_callS X0 hx hZ (y := (⟨"holdtrue/Operand$ArithmeticOperator", "values", "()[Lholdtrue/Operand$ArithmeticOperator;"⟩ : MethodName)) hown (own_w31 hw) (own_w32 hw) (own_w29 hw) (own_w33 hw) (by decide) (own_vals l hw [] wv w0 w1 w2 w3 kv h0 n0 (Nat.le_trans Z0 O0.1) (Sv.ext O0) (Vv.ext O0) (Ev.ext O0)) e0 (g := (mkF m 0 #[.val (.ref a1), .unset, .unset, .unset, .unset] [])) rfl (by rw [hml]; rfl) (argsL := []) (rest := []) (lenOf own_pd4 rfl) rfl rfl (W := 0) (Nat.le_of_eq rfl) (hb hby own_d6_0) (by decide) (by decide) (by decide) (by decide)
  obtain ⟨bv, kb, rfl, N1, Et1, gb, sb, Vb⟩ := hQ1
  have O1 := own_extt O0 Et1
  have N1' := Fr.app N0 N1
  refine own_st st1 ?_
  show own_Go _ _ _ _ T1 (mkF m 3 #[.val (.ref a1), .unset, .unset, .unset, .unset] [(.ref bv)])
  refine own_st (fun _ k => XS.astoreN X1.here hx rfl (hb hby own_d6_3) rfl rfl (l' := #[.val (.ref a1), .val (.ref bv), .unset, .unset, .unset]) rfl k) ?_
  show own_Go _ _ _ _ T1 (mkF m 4 #[.val (.ref a1), .val (.ref bv), .unset, .unset, .unset] [])
  refine own_st (fun _ k => XS.aloadN X1.here hx rfl (hb hby own_d6_4) rfl rfl k) ?_
  show own_Go _ _ _ _ T1 (mkF m 5 #[.val (.ref a1), .val (.ref bv), .unset, .unset, .unset] [(.ref bv)])
  refine own_st (own_len X1 hx hZ rfl Vb (g := (mkF m 5 #[.val (.ref a1), .val (.ref bv), .unset, .unset, .unset] [(.ref bv)])) rfl rfl (hb hby own_d6_5)) ?_
  show own_Go _ _ _ _ T1 (mkF m 6 #[.val (.ref a1), .val (.ref bv), .unset, .unset, .unset] [(.int (4 : Int32))])
  refine own_st (fun _ k => XS.istoreN X1.here hx rfl (hb hby own_d6_6) rfl (l' := #[.val (.ref a1), .val (.ref bv), .val (.int (4 : Int32)), .unset, .unset]) rfl k) ?_
  show own_Go _ _ _ _ T1 (mkF m 7 #[.val (.ref a1), .val (.ref bv), .val (.int (4 : Int32)), .unset, .unset] [])
  refine own_st (fun _ k => XS.iconst X1.here hx rfl (hb hby own_d6_7) k) ?_
  show own_Go _ _ _ _ T1 (mkF m 8 #[.val (.ref a1), .val (.ref bv), .val (.int (4 : Int32)), .unset, .unset] [(.int (0 : Int32))])
  refine own_st (fun _ k => XS.istoreN X1.here hx rfl (hb hby own_d6_8) rfl (l' := #[.val (.ref a1), .val (.ref bv), .val (.int (4 : Int32)), .val (.int (0 : Int32)), .unset]) rfl k) ?_
  show own_Go _ _ _ _ T1 (mkF m 9 #[.val (.ref a1), .val (.ref bv), .val (.int (4 : Int32)), .val (.int (0 : Int32)), .unset] [])
  refine own_st (fun _ k => XS.iloadN X1.here hx rfl (hb hby own_d6_9) rfl k) ?_
  show own_Go _ _ _ _ T1 (mkF m 10 #[.val (.ref a1), .val (.ref bv), .val (.int (4 : Int32)), .val (.int (0 : Int32)), .unset] [(.int (0 : Int32))])
  refine own_st (fun _ k => XS.iloadN X1.here hx rfl (hb hby own_d6_10) rfl k) ?_
  show own_Go _ _ _ _ T1 (mkF m 11 #[.val (.ref a1), .val (.ref bv), .val (.int (4 : Int32)), .val (.int (0 : Int32)), .unset] [(.int (4 : Int32)), (.int (0 : Int32))])
  refine own_st (fun _ k => XS.icmpNo X1.here hx rfl (hb hby own_d6_11) rfl (tlt (by decide : (0 : Int32) < (4 : Int32))).2.1 k) ?_
  show own_Go _ _ _ _ T1 (mkF m 14 #[.val (.ref a1), .val (.ref bv), .val (.int (4 : Int32)), .val (.int (0 : Int32)), .unset] [])
  refine own_st (fun _ k => XS.aloadN X1.here hx rfl (hb hby own_d6_14) rfl rfl k) ?_
  show own_Go _ _ _ _ T1 (mkF m 15 #[.val (.ref a1), .val (.ref bv), .val (.int (4 : Int32)), .val (.int (0 : Int32)), .unset] [(.ref bv)])
  refine own_st (fun _ k => XS.iloadN X1.here hx rfl (hb hby own_d6_15) rfl k) ?_
  show own_Go _ _ _ _ T1 (mkF m 16 #[.val (.ref a1), .val (.ref bv), .val (.int (4 : Int32)), .val (.int (0 : Int32)), .unset] [(.int (0 : Int32)), (.ref bv)])
  refine own_st (own_ldR X1 hx hZ rfl Vb rfl (j := (0 : Int32)) (by decide) (v := (.ref w0)) rfl (g := (mkF m 16 #[.val (.ref a1), .val (.ref bv), .val (.int (4 : Int32)), .val (.int (0 : Int32)), .unset] [(.int (0 : Int32)), (.ref bv)])) rfl rfl (hb hby own_d6_16)) ?_
  show own_Go _ _ _ _ T1 (mkF m 17 #[.val (.ref a1), .val (.ref bv), .val (.int (4 : Int32)), .val (.int (0 : Int32)), .unset] [(.ref w0)])
  refine own_st (fun _ k => XS.astore X1.here hx rfl (hb hby own_d6_17) rfl rfl (l' := #[.val (.ref a1), .val (.ref bv), .val (.int (4 : Int32)), .val (.int (0 : Int32)), .val (.ref w0)]) rfl k) ?_
  show own_Go _ _ _ _ T1 (mkF m 19 #[.val (.ref a1), .val (.ref bv), .val (.int (4 : Int32)), .val (.int (0 : Int32)), .val (.ref w0)] [])
  refine own_st (fun _ k => XS.aload X1.here hx rfl (hb hby own_d6_19) rfl rfl k) ?_
  show own_Go _ _ _ _ T1 (mkF m 21 #[.val (.ref a1), .val (.ref bv), .val (.int (4 : Int32)), .val (.int (0 : Int32)), .val (.ref w0)] [(.ref w0)])
  obtain ⟨T2, X2, e2, st2⟩ := getF X1 hx hZ hown (host := "") (Or.inl (own_w50 hw)) Via.refl rfl (Fs0.ext O1) (g := (mkF m 21 #[.val (.ref a1), .val (.ref bv), .val (.int (4 : Int32)), .val (.int (0 : Int32)), .val (.ref w0)] [(.ref w0)])) rfl rfl (hb hby own_d6_21)
  refine own_st st2 ?_
  show own_Go _ _ _ _ T2 (mkF m 24 #[.val (.ref a1), .val (.ref bv), .val (.int (4 : Int32)), .val (.int (0 : Int32)), .val (.ref w0)] [(.ref u0)])
  refine own_st (fun _ k => XS.aloadN X2.here hx rfl (hb hby own_d6_24) rfl rfl k) ?_
  show own_Go _ _ _ _ T2 (mkF m 25 #[.val (.ref a1), .val (.ref bv), .val (.int (4 : Int32)), .val (.int (0 : Int32)), .val (.ref w0)] [(.ref a1), (.ref u0)])
  obtain ⟨v3, T3, L3, hQ3, X3, st3⟩ := own_callV X2 hx hZ (y := (⟨"java/lang/String", "equals", "(Ljava/lang/Object;)Z"⟩ : MethodName)) hown (own_w52 hw) (own_w53 hw) (own_w55 hw) (own_w54 hw) (own_w3 hw) (own_w56 hw) (by decide) (own_se l hw [] u0 a1 y0 ba k0 ka (43 : Int32) (43 : Int32) cs T1.heap n0 (Nat.le_trans Z0 O1.1) (Scs.ext O1) hcs dn0 (Ea.ext O1) (Gv0.ext O1) (Gc0.ext O1) (Vy0.ext O1) (Fva.ext O1) (Fca.ext O1) (Va.ext O1)) e2 (Eu0.ext O1) (g := (mkF m 25 #[.val (.ref a1), .val (.ref bv), .val (.int (4 : Int32)), .val (.int (0 : Int32)), .val (.ref w0)] [(.ref a1), (.ref u0)])) rfl (by rw [hml]; rfl) (argsL := [(.ref a1)]) (rest := []) (lenOf own_pd5 rfl) rfl rfl (W := 0) (Nat.le_of_eq rfl) (hb hby own_d6_25) (by decide) (by decide) (by decide) (by decide)
  obtain ⟨rfl, N3, e3⟩ := hQ3
  have N3' := Fr.app N1' N3
  refine own_st st3 ?_
  show own_Go _ _ _ _ T3 (mkF m 28 #[.val (.ref a1), .val (.ref bv), .val (.int (4 : Int32)), .val (.int (0 : Int32)), .val (.ref w0)] [(.int (own_eq1 (43 : Int32) (43 : Int32)))])
  rw [show (own_eq1 (43 : Int32) (43 : Int32)) = (1 : Int32) from by decide]
  show own_Go _ _ _ _ T3 (mkF m 28 #[.val (.ref a1), .val (.ref bv), .val (.int (4 : Int32)), .val (.int (0 : Int32)), .val (.ref w0)] [(.int (1 : Int32))])
  refine own_st (fun _ k => XS.ifNo X3.here hx rfl (hb hby own_d6_28) rfl ((if0 _ _).trans (feq (by decide : ¬ ((1 : Int32) = (0 : Int32)))).1) k) ?_
  show own_Go _ _ _ _ T3 (mkF m 31 #[.val (.ref a1), .val (.ref bv), .val (.int (4 : Int32)), .val (.int (0 : Int32)), .val (.ref w0)] [])
  refine own_st (fun _ k => XS.aload X3.here hx rfl (hb hby own_d6_31) rfl rfl k) ?_
  show own_Go _ _ _ _ T3 (mkF m 33 #[.val (.ref a1), .val (.ref bv), .val (.int (4 : Int32)), .val (.int (0 : Int32)), .val (.ref w0)] [(.ref w0)])
  exact own_retA X3 hx hret rfl hlk rfl (hb hby own_d6_33) ⟨rfl, N3', by rw [e3]; exact O1⟩ (by decide) (by decide)
def own_of45_Q (Z : State) (a1 ba : Addr) (ka : ClassId) (wv w0 w1 w2 w3 u0 u1 u2 u3 y0 y1 y2 y3 : Addr) (kv k0 k1 k2 k3 : ClassId) (cs : Int32) (h0 : Heap) (n0 : Nat) (v : Option Value) (h : Heap) (L : List Loc) : Prop := v = some (.ref w1) ∧ Fr n0 L ∧ Ext h0 h
set_option maxRecDepth 65536 in
set_option maxHeartbeats 40000000 in
theorem own_of45 (l : Launch) {Z : State} {a0 : Array Value} (hw : own_W Z a0) (ws : List Jvm.Cond) (a1 ba : Addr) (ka : ClassId) (wv w0 w1 w2 w3 u0 u1 u2 u3 y0 y1 y2 y3 : Addr) (kv k0 k1 k2 k3 : ClassId) (cs : Int32) (h0 : Heap) (n0 : Nat) (Z0 : n0 ≤ h0.size) (Scs : Sta Z h0 "java/lang/String" "COMPACT_STRINGS" "Z" (.int cs)) (hcs : ¬ cs = 0) (Sv : Sta Z h0 "holdtrue/Operand$ArithmeticOperator" "$VALUES" "[Lholdtrue/Operand$ArithmeticOperator;" (.ref wv)) (Vv : Arv Z h0 wv kv (.object "holdtrue/Operand$ArithmeticOperator") 4 [(.ref w0), (.ref w1), (.ref w2), (.ref w3)] .null) (Ev : Exa Z h0 wv "[Lholdtrue/Operand$ArithmeticOperator;") (Fs0 : Fld Z h0 w0 "holdtrue/Operand$ArithmeticOperator" "symbol" "Ljava/lang/String;" (.ref u0)) (Eu0 : Exa Z h0 u0 "java/lang/String") (Gv0 : Fld Z h0 u0 "java/lang/String" "value" "[B" (.ref y0)) (Gc0 : Fld Z h0 u0 "java/lang/String" "coder" "B" (.int (0 : Int32))) (Vy0 : Arv Z h0 y0 k0 .byte 1 [(.int (43 : Int32))] (.int (0 : Int32))) (Fs1 : Fld Z h0 w1 "holdtrue/Operand$ArithmeticOperator" "symbol" "Ljava/lang/String;" (.ref u1)) (Eu1 : Exa Z h0 u1 "java/lang/String") (Gv1 : Fld Z h0 u1 "java/lang/String" "value" "[B" (.ref y1)) (Gc1 : Fld Z h0 u1 "java/lang/String" "coder" "B" (.int (0 : Int32))) (Vy1 : Arv Z h0 y1 k1 .byte 1 [(.int (45 : Int32))] (.int (0 : Int32))) (Fs2 : Fld Z h0 w2 "holdtrue/Operand$ArithmeticOperator" "symbol" "Ljava/lang/String;" (.ref u2)) (Eu2 : Exa Z h0 u2 "java/lang/String") (Gv2 : Fld Z h0 u2 "java/lang/String" "value" "[B" (.ref y2)) (Gc2 : Fld Z h0 u2 "java/lang/String" "coder" "B" (.int (0 : Int32))) (Vy2 : Arv Z h0 y2 k2 .byte 1 [(.int (42 : Int32))] (.int (0 : Int32))) (Fs3 : Fld Z h0 w3 "holdtrue/Operand$ArithmeticOperator" "symbol" "Ljava/lang/String;" (.ref u3)) (Eu3 : Exa Z h0 u3 "java/lang/String") (Gv3 : Fld Z h0 u3 "java/lang/String" "value" "[B" (.ref y3)) (Gc3 : Fld Z h0 u3 "java/lang/String" "coder" "B" (.int (0 : Int32))) (Vy3 : Arv Z h0 y3 k3 .byte 1 [(.int (47 : Int32))] (.int (0 : Int32))) (dn0 : ¬ u0 = a1) (dn1 : ¬ u1 = a1) (dn2 : ¬ u2 = a1) (dn3 : ¬ u3 = a1) (Ea : Exa Z h0 a1 "java/lang/String") (Fva : Fld Z h0 a1 "java/lang/String" "value" "[B" (.ref ba)) (Fca : Fld Z h0 a1 "java/lang/String" "coder" "B" (.int (0 : Int32))) (Va : Arv Z h0 ba ka .byte 1 [(.int (45 : Int32))] (.int (0 : Int32))) :
    MetFree l (⟨"holdtrue/Operand$ArithmeticOperator", "of", "(Ljava/lang/String;)Lholdtrue/Operand$ArithmeticOperator;"⟩ : MethodName) (head1 (Jvm.Cond.code (⟨"holdtrue/Operand$ArithmeticOperator", "of", "(Ljava/lang/String;)Lholdtrue/Operand$ArithmeticOperator;"⟩ : MethodName) prog_55_method_4_code 5 (some (.object "holdtrue/Operand$ArithmeticOperator")) :: ws) ({ frames := 2, cells := 1, slots := 4, locals := 28 } : Room)) (fun a U => a = #[(.ref a1)] ∧ Z.Warmed39 U.vm ∧ U.heap = h0) (fun _ _ _ _ _ => True) (fun _ U o U' => ∃ v L, o = .returned v ∧ own_of45_Q Z a1 ba ka wv w0 w1 w2 w3 u0 u1 u2 u3 y0 y1 y2 y3 kv k0 k1 k2 k3 cs h0 n0 v U'.heap L ∧ FrameEnd U o U' L ({ frames := 2, cells := 1, slots := 4, locals := 28 } : Room).cells ({ frames := 2, cells := 1, slots := 4, locals := 28 } : Room).slots) := by
  refine own_enter (C := ({ frames := 2, cells := 1, slots := 4, locals := 28 } : Room).cells) (S := ({ frames := 2, cells := 1, slots := 4, locals := 28 } : Room).slots) (plainFor_of_name own_pn2) ?_
  intro p e s m below meth c T0 X0 I e0
  obtain ⟨hx, hby, hml, hown, hnm, hret, hlk, hZ⟩ := I
  have N0 := Fr.nil n0
  have O0 := own_extr h0
  refine own_cast (own_ef6 m a1) ?_
  show own_Go _ _ _ _ T0 (mkF m 0 #[.val (.ref a1), .unset, .unset, .unset, .unset] [])
  obtain ⟨v1, T1, L1, hQ1, X1, st1⟩ := own_callS X0 hx hZ (y := (⟨"holdtrue/Operand$ArithmeticOperator", "values", "()[Lholdtrue/Operand$ArithmeticOperator;"⟩ : MethodName)) hown (own_w31 hw) (own_w32 hw) (own_w29 hw) (own_w33 hw) (by decide) (own_vals l hw [] wv w0 w1 w2 w3 kv h0 n0 (Nat.le_trans Z0 O0.1) (Sv.ext O0) (Vv.ext O0) (Ev.ext O0)) e0 (g := (mkF m 0 #[.val (.ref a1), .unset, .unset, .unset, .unset] [])) rfl (by rw [hml]; rfl) (argsL := []) (rest := []) (lenOf own_pd4 rfl) rfl rfl (W := 0) (Nat.le_of_eq rfl) (hb hby own_d6_0) (by decide) (by decide) (by decide) (by decide)
  obtain ⟨bv, kb, rfl, N1, Et1, gb, sb, Vb⟩ := hQ1
  have O1 := own_extt O0 Et1
  have N1' := Fr.app N0 N1
  refine own_st st1 ?_
  show own_Go _ _ _ _ T1 (mkF m 3 #[.val (.ref a1), .unset, .unset, .unset, .unset] [(.ref bv)])
  refine own_st (fun _ k => XS.astoreN X1.here hx rfl (hb hby own_d6_3) rfl rfl (l' := #[.val (.ref a1), .val (.ref bv), .unset, .unset, .unset]) rfl k) ?_
  show own_Go _ _ _ _ T1 (mkF m 4 #[.val (.ref a1), .val (.ref bv), .unset, .unset, .unset] [])
  refine own_st (fun _ k => XS.aloadN X1.here hx rfl (hb hby own_d6_4) rfl rfl k) ?_
  show own_Go _ _ _ _ T1 (mkF m 5 #[.val (.ref a1), .val (.ref bv), .unset, .unset, .unset] [(.ref bv)])
  refine own_st (own_len X1 hx hZ rfl Vb (g := (mkF m 5 #[.val (.ref a1), .val (.ref bv), .unset, .unset, .unset] [(.ref bv)])) rfl rfl (hb hby own_d6_5)) ?_
  show own_Go _ _ _ _ T1 (mkF m 6 #[.val (.ref a1), .val (.ref bv), .unset, .unset, .unset] [(.int (4 : Int32))])
  refine own_st (fun _ k => XS.istoreN X1.here hx rfl (hb hby own_d6_6) rfl (l' := #[.val (.ref a1), .val (.ref bv), .val (.int (4 : Int32)), .unset, .unset]) rfl k) ?_
  show own_Go _ _ _ _ T1 (mkF m 7 #[.val (.ref a1), .val (.ref bv), .val (.int (4 : Int32)), .unset, .unset] [])
  refine own_st (fun _ k => XS.iconst X1.here hx rfl (hb hby own_d6_7) k) ?_
  show own_Go _ _ _ _ T1 (mkF m 8 #[.val (.ref a1), .val (.ref bv), .val (.int (4 : Int32)), .unset, .unset] [(.int (0 : Int32))])
  refine own_st (fun _ k => XS.istoreN X1.here hx rfl (hb hby own_d6_8) rfl (l' := #[.val (.ref a1), .val (.ref bv), .val (.int (4 : Int32)), .val (.int (0 : Int32)), .unset]) rfl k) ?_
  show own_Go _ _ _ _ T1 (mkF m 9 #[.val (.ref a1), .val (.ref bv), .val (.int (4 : Int32)), .val (.int (0 : Int32)), .unset] [])
  refine own_st (fun _ k => XS.iloadN X1.here hx rfl (hb hby own_d6_9) rfl k) ?_
  show own_Go _ _ _ _ T1 (mkF m 10 #[.val (.ref a1), .val (.ref bv), .val (.int (4 : Int32)), .val (.int (0 : Int32)), .unset] [(.int (0 : Int32))])
  refine own_st (fun _ k => XS.iloadN X1.here hx rfl (hb hby own_d6_10) rfl k) ?_
  show own_Go _ _ _ _ T1 (mkF m 11 #[.val (.ref a1), .val (.ref bv), .val (.int (4 : Int32)), .val (.int (0 : Int32)), .unset] [(.int (4 : Int32)), (.int (0 : Int32))])
  refine own_st (fun _ k => XS.icmpNo X1.here hx rfl (hb hby own_d6_11) rfl (tlt (by decide : (0 : Int32) < (4 : Int32))).2.1 k) ?_
  show own_Go _ _ _ _ T1 (mkF m 14 #[.val (.ref a1), .val (.ref bv), .val (.int (4 : Int32)), .val (.int (0 : Int32)), .unset] [])
  refine own_st (fun _ k => XS.aloadN X1.here hx rfl (hb hby own_d6_14) rfl rfl k) ?_
  show own_Go _ _ _ _ T1 (mkF m 15 #[.val (.ref a1), .val (.ref bv), .val (.int (4 : Int32)), .val (.int (0 : Int32)), .unset] [(.ref bv)])
  refine own_st (fun _ k => XS.iloadN X1.here hx rfl (hb hby own_d6_15) rfl k) ?_
  show own_Go _ _ _ _ T1 (mkF m 16 #[.val (.ref a1), .val (.ref bv), .val (.int (4 : Int32)), .val (.int (0 : Int32)), .unset] [(.int (0 : Int32)), (.ref bv)])
  refine own_st (own_ldR X1 hx hZ rfl Vb rfl (j := (0 : Int32)) (by decide) (v := (.ref w0)) rfl (g := (mkF m 16 #[.val (.ref a1), .val (.ref bv), .val (.int (4 : Int32)), .val (.int (0 : Int32)), .unset] [(.int (0 : Int32)), (.ref bv)])) rfl rfl (hb hby own_d6_16)) ?_
  show own_Go _ _ _ _ T1 (mkF m 17 #[.val (.ref a1), .val (.ref bv), .val (.int (4 : Int32)), .val (.int (0 : Int32)), .unset] [(.ref w0)])
  refine own_st (fun _ k => XS.astore X1.here hx rfl (hb hby own_d6_17) rfl rfl (l' := #[.val (.ref a1), .val (.ref bv), .val (.int (4 : Int32)), .val (.int (0 : Int32)), .val (.ref w0)]) rfl k) ?_
  show own_Go _ _ _ _ T1 (mkF m 19 #[.val (.ref a1), .val (.ref bv), .val (.int (4 : Int32)), .val (.int (0 : Int32)), .val (.ref w0)] [])
  refine own_st (fun _ k => XS.aload X1.here hx rfl (hb hby own_d6_19) rfl rfl k) ?_
  show own_Go _ _ _ _ T1 (mkF m 21 #[.val (.ref a1), .val (.ref bv), .val (.int (4 : Int32)), .val (.int (0 : Int32)), .val (.ref w0)] [(.ref w0)])
  obtain ⟨T2, X2, e2, st2⟩ := getF X1 hx hZ hown (host := "") (Or.inl (own_w50 hw)) Via.refl rfl (Fs0.ext O1) (g := (mkF m 21 #[.val (.ref a1), .val (.ref bv), .val (.int (4 : Int32)), .val (.int (0 : Int32)), .val (.ref w0)] [(.ref w0)])) rfl rfl (hb hby own_d6_21)
  refine own_st st2 ?_
  show own_Go _ _ _ _ T2 (mkF m 24 #[.val (.ref a1), .val (.ref bv), .val (.int (4 : Int32)), .val (.int (0 : Int32)), .val (.ref w0)] [(.ref u0)])
  refine own_st (fun _ k => XS.aloadN X2.here hx rfl (hb hby own_d6_24) rfl rfl k) ?_
  show own_Go _ _ _ _ T2 (mkF m 25 #[.val (.ref a1), .val (.ref bv), .val (.int (4 : Int32)), .val (.int (0 : Int32)), .val (.ref w0)] [(.ref a1), (.ref u0)])
  obtain ⟨v3, T3, L3, hQ3, X3, st3⟩ := own_callV X2 hx hZ (y := (⟨"java/lang/String", "equals", "(Ljava/lang/Object;)Z"⟩ : MethodName)) hown (own_w52 hw) (own_w53 hw) (own_w55 hw) (own_w54 hw) (own_w3 hw) (own_w56 hw) (by decide) (own_se l hw [] u0 a1 y0 ba k0 ka (43 : Int32) (45 : Int32) cs T1.heap n0 (Nat.le_trans Z0 O1.1) (Scs.ext O1) hcs dn0 (Ea.ext O1) (Gv0.ext O1) (Gc0.ext O1) (Vy0.ext O1) (Fva.ext O1) (Fca.ext O1) (Va.ext O1)) e2 (Eu0.ext O1) (g := (mkF m 25 #[.val (.ref a1), .val (.ref bv), .val (.int (4 : Int32)), .val (.int (0 : Int32)), .val (.ref w0)] [(.ref a1), (.ref u0)])) rfl (by rw [hml]; rfl) (argsL := [(.ref a1)]) (rest := []) (lenOf own_pd5 rfl) rfl rfl (W := 0) (Nat.le_of_eq rfl) (hb hby own_d6_25) (by decide) (by decide) (by decide) (by decide)
  obtain ⟨rfl, N3, e3⟩ := hQ3
  have N3' := Fr.app N1' N3
  refine own_st st3 ?_
  show own_Go _ _ _ _ T3 (mkF m 28 #[.val (.ref a1), .val (.ref bv), .val (.int (4 : Int32)), .val (.int (0 : Int32)), .val (.ref w0)] [(.int (own_eq1 (43 : Int32) (45 : Int32)))])
  rw [show (own_eq1 (43 : Int32) (45 : Int32)) = (0 : Int32) from by decide]
  show own_Go _ _ _ _ T3 (mkF m 28 #[.val (.ref a1), .val (.ref bv), .val (.int (4 : Int32)), .val (.int (0 : Int32)), .val (.ref w0)] [(.int (0 : Int32))])
  refine own_st (fun _ k => XS.ifYes X3.here hx rfl (pc0 := 28) (pc' := 34) rfl (hb hby own_d6_28) rfl ((if0 _ _).trans (teq (by decide : (0 : Int32) = (0 : Int32))).1) (by decide) (by decide) k) ?_
  show own_Go _ _ _ _ T3 (mkF m 34 #[.val (.ref a1), .val (.ref bv), .val (.int (4 : Int32)), .val (.int (0 : Int32)), .val (.ref w0)] [])
  refine own_st (fun _ k => XS.iinc X3.here hx rfl (hb hby own_d6_34) rfl (l' := #[.val (.ref a1), .val (.ref bv), .val (.int (4 : Int32)), .val (.int ((0 : Int32) + (1 : Int32))), .val (.ref w0)]) rfl k) ?_
  show own_Go _ _ _ _ T3 (mkF m 37 #[.val (.ref a1), .val (.ref bv), .val (.int (4 : Int32)), .val (.int ((0 : Int32) + (1 : Int32))), .val (.ref w0)] [])
  rw [show ((0 : Int32) + (1 : Int32)) = (1 : Int32) from by decide]
  show own_Go _ _ _ _ T3 (mkF m 37 #[.val (.ref a1), .val (.ref bv), .val (.int (4 : Int32)), .val (.int (1 : Int32)), .val (.ref w0)] [])
  refine own_st (fun _ k => XS.goto X3.here hx rfl (pc0 := 37) (pc' := 9) rfl (hb hby own_d6_37) (by decide) (by decide) k) ?_
  show own_Go _ _ _ _ T3 (mkF m 9 #[.val (.ref a1), .val (.ref bv), .val (.int (4 : Int32)), .val (.int (1 : Int32)), .val (.ref w0)] [])
  refine own_st (fun _ k => XS.iloadN X3.here hx rfl (hb hby own_d6_9) rfl k) ?_
  show own_Go _ _ _ _ T3 (mkF m 10 #[.val (.ref a1), .val (.ref bv), .val (.int (4 : Int32)), .val (.int (1 : Int32)), .val (.ref w0)] [(.int (1 : Int32))])
  refine own_st (fun _ k => XS.iloadN X3.here hx rfl (hb hby own_d6_10) rfl k) ?_
  show own_Go _ _ _ _ T3 (mkF m 11 #[.val (.ref a1), .val (.ref bv), .val (.int (4 : Int32)), .val (.int (1 : Int32)), .val (.ref w0)] [(.int (4 : Int32)), (.int (1 : Int32))])
  refine own_st (fun _ k => XS.icmpNo X3.here hx rfl (hb hby own_d6_11) rfl (tlt (by decide : (1 : Int32) < (4 : Int32))).2.1 k) ?_
  show own_Go _ _ _ _ T3 (mkF m 14 #[.val (.ref a1), .val (.ref bv), .val (.int (4 : Int32)), .val (.int (1 : Int32)), .val (.ref w0)] [])
  refine own_st (fun _ k => XS.aloadN X3.here hx rfl (hb hby own_d6_14) rfl rfl k) ?_
  show own_Go _ _ _ _ T3 (mkF m 15 #[.val (.ref a1), .val (.ref bv), .val (.int (4 : Int32)), .val (.int (1 : Int32)), .val (.ref w0)] [(.ref bv)])
  refine own_st (fun _ k => XS.iloadN X3.here hx rfl (hb hby own_d6_15) rfl k) ?_
  show own_Go _ _ _ _ T3 (mkF m 16 #[.val (.ref a1), .val (.ref bv), .val (.int (4 : Int32)), .val (.int (1 : Int32)), .val (.ref w0)] [(.int (1 : Int32)), (.ref bv)])
  refine own_st (own_ldR X3 hx hZ e3 Vb rfl (j := (1 : Int32)) (by decide) (v := (.ref w1)) rfl (g := (mkF m 16 #[.val (.ref a1), .val (.ref bv), .val (.int (4 : Int32)), .val (.int (1 : Int32)), .val (.ref w0)] [(.int (1 : Int32)), (.ref bv)])) rfl rfl (hb hby own_d6_16)) ?_
  show own_Go _ _ _ _ T3 (mkF m 17 #[.val (.ref a1), .val (.ref bv), .val (.int (4 : Int32)), .val (.int (1 : Int32)), .val (.ref w0)] [(.ref w1)])
  refine own_st (fun _ k => XS.astore X3.here hx rfl (hb hby own_d6_17) rfl rfl (l' := #[.val (.ref a1), .val (.ref bv), .val (.int (4 : Int32)), .val (.int (1 : Int32)), .val (.ref w1)]) rfl k) ?_
  show own_Go _ _ _ _ T3 (mkF m 19 #[.val (.ref a1), .val (.ref bv), .val (.int (4 : Int32)), .val (.int (1 : Int32)), .val (.ref w1)] [])
  refine own_st (fun _ k => XS.aload X3.here hx rfl (hb hby own_d6_19) rfl rfl k) ?_
  show own_Go _ _ _ _ T3 (mkF m 21 #[.val (.ref a1), .val (.ref bv), .val (.int (4 : Int32)), .val (.int (1 : Int32)), .val (.ref w1)] [(.ref w1)])
  obtain ⟨T4, X4, e4, st4⟩ := getF X3 hx hZ hown (host := "") (Or.inl (own_w50 hw)) Via.refl e3 (Fs1.ext O1) (g := (mkF m 21 #[.val (.ref a1), .val (.ref bv), .val (.int (4 : Int32)), .val (.int (1 : Int32)), .val (.ref w1)] [(.ref w1)])) rfl rfl (hb hby own_d6_21)
  refine own_st st4 ?_
  show own_Go _ _ _ _ T4 (mkF m 24 #[.val (.ref a1), .val (.ref bv), .val (.int (4 : Int32)), .val (.int (1 : Int32)), .val (.ref w1)] [(.ref u1)])
  refine own_st (fun _ k => XS.aloadN X4.here hx rfl (hb hby own_d6_24) rfl rfl k) ?_
  show own_Go _ _ _ _ T4 (mkF m 25 #[.val (.ref a1), .val (.ref bv), .val (.int (4 : Int32)), .val (.int (1 : Int32)), .val (.ref w1)] [(.ref a1), (.ref u1)])
  obtain ⟨v5, T5, L5, hQ5, X5, st5⟩ := own_callV X4 hx hZ (y := (⟨"java/lang/String", "equals", "(Ljava/lang/Object;)Z"⟩ : MethodName)) hown (own_w52 hw) (own_w53 hw) (own_w55 hw) (own_w54 hw) (own_w3 hw) (own_w56 hw) (by decide) (own_se l hw [] u1 a1 y1 ba k1 ka (45 : Int32) (45 : Int32) cs T1.heap n0 (Nat.le_trans Z0 O1.1) (Scs.ext O1) hcs dn1 (Ea.ext O1) (Gv1.ext O1) (Gc1.ext O1) (Vy1.ext O1) (Fva.ext O1) (Fca.ext O1) (Va.ext O1)) e4 (Eu1.ext O1) (g := (mkF m 25 #[.val (.ref a1), .val (.ref bv), .val (.int (4 : Int32)), .val (.int (1 : Int32)), .val (.ref w1)] [(.ref a1), (.ref u1)])) rfl (by rw [hml]; rfl) (argsL := [(.ref a1)]) (rest := []) (lenOf own_pd5 rfl) rfl rfl (W := 0) (Nat.le_of_eq rfl) (hb hby own_d6_25) (by decide) (by decide) (by decide) (by decide)
  obtain ⟨rfl, N5, e5⟩ := hQ5
  have N5' := Fr.app N3' N5
  refine own_st st5 ?_
  show own_Go _ _ _ _ T5 (mkF m 28 #[.val (.ref a1), .val (.ref bv), .val (.int (4 : Int32)), .val (.int (1 : Int32)), .val (.ref w1)] [(.int (own_eq1 (45 : Int32) (45 : Int32)))])
  rw [show (own_eq1 (45 : Int32) (45 : Int32)) = (1 : Int32) from by decide]
  show own_Go _ _ _ _ T5 (mkF m 28 #[.val (.ref a1), .val (.ref bv), .val (.int (4 : Int32)), .val (.int (1 : Int32)), .val (.ref w1)] [(.int (1 : Int32))])
  refine own_st (fun _ k => XS.ifNo X5.here hx rfl (hb hby own_d6_28) rfl ((if0 _ _).trans (feq (by decide : ¬ ((1 : Int32) = (0 : Int32)))).1) k) ?_
  show own_Go _ _ _ _ T5 (mkF m 31 #[.val (.ref a1), .val (.ref bv), .val (.int (4 : Int32)), .val (.int (1 : Int32)), .val (.ref w1)] [])
  refine own_st (fun _ k => XS.aload X5.here hx rfl (hb hby own_d6_31) rfl rfl k) ?_
  show own_Go _ _ _ _ T5 (mkF m 33 #[.val (.ref a1), .val (.ref bv), .val (.int (4 : Int32)), .val (.int (1 : Int32)), .val (.ref w1)] [(.ref w1)])
  exact own_retA X5 hx hret rfl hlk rfl (hb hby own_d6_33) ⟨rfl, N5', by rw [e5]; exact O1⟩ (by decide) (by decide)
def own_of42_Q (Z : State) (a1 ba : Addr) (ka : ClassId) (wv w0 w1 w2 w3 u0 u1 u2 u3 y0 y1 y2 y3 : Addr) (kv k0 k1 k2 k3 : ClassId) (cs : Int32) (h0 : Heap) (n0 : Nat) (v : Option Value) (h : Heap) (L : List Loc) : Prop := v = some (.ref w2) ∧ Fr n0 L ∧ Ext h0 h
set_option maxRecDepth 65536 in
set_option maxHeartbeats 40000000 in
theorem own_of42 (l : Launch) {Z : State} {a0 : Array Value} (hw : own_W Z a0) (ws : List Jvm.Cond) (a1 ba : Addr) (ka : ClassId) (wv w0 w1 w2 w3 u0 u1 u2 u3 y0 y1 y2 y3 : Addr) (kv k0 k1 k2 k3 : ClassId) (cs : Int32) (h0 : Heap) (n0 : Nat) (Z0 : n0 ≤ h0.size) (Scs : Sta Z h0 "java/lang/String" "COMPACT_STRINGS" "Z" (.int cs)) (hcs : ¬ cs = 0) (Sv : Sta Z h0 "holdtrue/Operand$ArithmeticOperator" "$VALUES" "[Lholdtrue/Operand$ArithmeticOperator;" (.ref wv)) (Vv : Arv Z h0 wv kv (.object "holdtrue/Operand$ArithmeticOperator") 4 [(.ref w0), (.ref w1), (.ref w2), (.ref w3)] .null) (Ev : Exa Z h0 wv "[Lholdtrue/Operand$ArithmeticOperator;") (Fs0 : Fld Z h0 w0 "holdtrue/Operand$ArithmeticOperator" "symbol" "Ljava/lang/String;" (.ref u0)) (Eu0 : Exa Z h0 u0 "java/lang/String") (Gv0 : Fld Z h0 u0 "java/lang/String" "value" "[B" (.ref y0)) (Gc0 : Fld Z h0 u0 "java/lang/String" "coder" "B" (.int (0 : Int32))) (Vy0 : Arv Z h0 y0 k0 .byte 1 [(.int (43 : Int32))] (.int (0 : Int32))) (Fs1 : Fld Z h0 w1 "holdtrue/Operand$ArithmeticOperator" "symbol" "Ljava/lang/String;" (.ref u1)) (Eu1 : Exa Z h0 u1 "java/lang/String") (Gv1 : Fld Z h0 u1 "java/lang/String" "value" "[B" (.ref y1)) (Gc1 : Fld Z h0 u1 "java/lang/String" "coder" "B" (.int (0 : Int32))) (Vy1 : Arv Z h0 y1 k1 .byte 1 [(.int (45 : Int32))] (.int (0 : Int32))) (Fs2 : Fld Z h0 w2 "holdtrue/Operand$ArithmeticOperator" "symbol" "Ljava/lang/String;" (.ref u2)) (Eu2 : Exa Z h0 u2 "java/lang/String") (Gv2 : Fld Z h0 u2 "java/lang/String" "value" "[B" (.ref y2)) (Gc2 : Fld Z h0 u2 "java/lang/String" "coder" "B" (.int (0 : Int32))) (Vy2 : Arv Z h0 y2 k2 .byte 1 [(.int (42 : Int32))] (.int (0 : Int32))) (Fs3 : Fld Z h0 w3 "holdtrue/Operand$ArithmeticOperator" "symbol" "Ljava/lang/String;" (.ref u3)) (Eu3 : Exa Z h0 u3 "java/lang/String") (Gv3 : Fld Z h0 u3 "java/lang/String" "value" "[B" (.ref y3)) (Gc3 : Fld Z h0 u3 "java/lang/String" "coder" "B" (.int (0 : Int32))) (Vy3 : Arv Z h0 y3 k3 .byte 1 [(.int (47 : Int32))] (.int (0 : Int32))) (dn0 : ¬ u0 = a1) (dn1 : ¬ u1 = a1) (dn2 : ¬ u2 = a1) (dn3 : ¬ u3 = a1) (Ea : Exa Z h0 a1 "java/lang/String") (Fva : Fld Z h0 a1 "java/lang/String" "value" "[B" (.ref ba)) (Fca : Fld Z h0 a1 "java/lang/String" "coder" "B" (.int (0 : Int32))) (Va : Arv Z h0 ba ka .byte 1 [(.int (42 : Int32))] (.int (0 : Int32))) :
    MetFree l (⟨"holdtrue/Operand$ArithmeticOperator", "of", "(Ljava/lang/String;)Lholdtrue/Operand$ArithmeticOperator;"⟩ : MethodName) (head1 (Jvm.Cond.code (⟨"holdtrue/Operand$ArithmeticOperator", "of", "(Ljava/lang/String;)Lholdtrue/Operand$ArithmeticOperator;"⟩ : MethodName) prog_55_method_4_code 5 (some (.object "holdtrue/Operand$ArithmeticOperator")) :: ws) ({ frames := 2, cells := 1, slots := 4, locals := 28 } : Room)) (fun a U => a = #[(.ref a1)] ∧ Z.Warmed39 U.vm ∧ U.heap = h0) (fun _ _ _ _ _ => True) (fun _ U o U' => ∃ v L, o = .returned v ∧ own_of42_Q Z a1 ba ka wv w0 w1 w2 w3 u0 u1 u2 u3 y0 y1 y2 y3 kv k0 k1 k2 k3 cs h0 n0 v U'.heap L ∧ FrameEnd U o U' L ({ frames := 2, cells := 1, slots := 4, locals := 28 } : Room).cells ({ frames := 2, cells := 1, slots := 4, locals := 28 } : Room).slots) := by
  refine own_enter (C := ({ frames := 2, cells := 1, slots := 4, locals := 28 } : Room).cells) (S := ({ frames := 2, cells := 1, slots := 4, locals := 28 } : Room).slots) (plainFor_of_name own_pn2) ?_
  intro p e s m below meth c T0 X0 I e0
  obtain ⟨hx, hby, hml, hown, hnm, hret, hlk, hZ⟩ := I
  have N0 := Fr.nil n0
  have O0 := own_extr h0
  refine own_cast (own_ef6 m a1) ?_
  show own_Go _ _ _ _ T0 (mkF m 0 #[.val (.ref a1), .unset, .unset, .unset, .unset] [])
  obtain ⟨v1, T1, L1, hQ1, X1, st1⟩ := own_callS X0 hx hZ (y := (⟨"holdtrue/Operand$ArithmeticOperator", "values", "()[Lholdtrue/Operand$ArithmeticOperator;"⟩ : MethodName)) hown (own_w31 hw) (own_w32 hw) (own_w29 hw) (own_w33 hw) (by decide) (own_vals l hw [] wv w0 w1 w2 w3 kv h0 n0 (Nat.le_trans Z0 O0.1) (Sv.ext O0) (Vv.ext O0) (Ev.ext O0)) e0 (g := (mkF m 0 #[.val (.ref a1), .unset, .unset, .unset, .unset] [])) rfl (by rw [hml]; rfl) (argsL := []) (rest := []) (lenOf own_pd4 rfl) rfl rfl (W := 0) (Nat.le_of_eq rfl) (hb hby own_d6_0) (by decide) (by decide) (by decide) (by decide)
  obtain ⟨bv, kb, rfl, N1, Et1, gb, sb, Vb⟩ := hQ1
  have O1 := own_extt O0 Et1
  have N1' := Fr.app N0 N1
  refine own_st st1 ?_
  show own_Go _ _ _ _ T1 (mkF m 3 #[.val (.ref a1), .unset, .unset, .unset, .unset] [(.ref bv)])
  refine own_st (fun _ k => XS.astoreN X1.here hx rfl (hb hby own_d6_3) rfl rfl (l' := #[.val (.ref a1), .val (.ref bv), .unset, .unset, .unset]) rfl k) ?_
  show own_Go _ _ _ _ T1 (mkF m 4 #[.val (.ref a1), .val (.ref bv), .unset, .unset, .unset] [])
  refine own_st (fun _ k => XS.aloadN X1.here hx rfl (hb hby own_d6_4) rfl rfl k) ?_
  show own_Go _ _ _ _ T1 (mkF m 5 #[.val (.ref a1), .val (.ref bv), .unset, .unset, .unset] [(.ref bv)])
  refine own_st (own_len X1 hx hZ rfl Vb (g := (mkF m 5 #[.val (.ref a1), .val (.ref bv), .unset, .unset, .unset] [(.ref bv)])) rfl rfl (hb hby own_d6_5)) ?_
  show own_Go _ _ _ _ T1 (mkF m 6 #[.val (.ref a1), .val (.ref bv), .unset, .unset, .unset] [(.int (4 : Int32))])
  refine own_st (fun _ k => XS.istoreN X1.here hx rfl (hb hby own_d6_6) rfl (l' := #[.val (.ref a1), .val (.ref bv), .val (.int (4 : Int32)), .unset, .unset]) rfl k) ?_
  show own_Go _ _ _ _ T1 (mkF m 7 #[.val (.ref a1), .val (.ref bv), .val (.int (4 : Int32)), .unset, .unset] [])
  refine own_st (fun _ k => XS.iconst X1.here hx rfl (hb hby own_d6_7) k) ?_
  show own_Go _ _ _ _ T1 (mkF m 8 #[.val (.ref a1), .val (.ref bv), .val (.int (4 : Int32)), .unset, .unset] [(.int (0 : Int32))])
  refine own_st (fun _ k => XS.istoreN X1.here hx rfl (hb hby own_d6_8) rfl (l' := #[.val (.ref a1), .val (.ref bv), .val (.int (4 : Int32)), .val (.int (0 : Int32)), .unset]) rfl k) ?_
  show own_Go _ _ _ _ T1 (mkF m 9 #[.val (.ref a1), .val (.ref bv), .val (.int (4 : Int32)), .val (.int (0 : Int32)), .unset] [])
  refine own_st (fun _ k => XS.iloadN X1.here hx rfl (hb hby own_d6_9) rfl k) ?_
  show own_Go _ _ _ _ T1 (mkF m 10 #[.val (.ref a1), .val (.ref bv), .val (.int (4 : Int32)), .val (.int (0 : Int32)), .unset] [(.int (0 : Int32))])
  refine own_st (fun _ k => XS.iloadN X1.here hx rfl (hb hby own_d6_10) rfl k) ?_
  show own_Go _ _ _ _ T1 (mkF m 11 #[.val (.ref a1), .val (.ref bv), .val (.int (4 : Int32)), .val (.int (0 : Int32)), .unset] [(.int (4 : Int32)), (.int (0 : Int32))])
  refine own_st (fun _ k => XS.icmpNo X1.here hx rfl (hb hby own_d6_11) rfl (tlt (by decide : (0 : Int32) < (4 : Int32))).2.1 k) ?_
  show own_Go _ _ _ _ T1 (mkF m 14 #[.val (.ref a1), .val (.ref bv), .val (.int (4 : Int32)), .val (.int (0 : Int32)), .unset] [])
  refine own_st (fun _ k => XS.aloadN X1.here hx rfl (hb hby own_d6_14) rfl rfl k) ?_
  show own_Go _ _ _ _ T1 (mkF m 15 #[.val (.ref a1), .val (.ref bv), .val (.int (4 : Int32)), .val (.int (0 : Int32)), .unset] [(.ref bv)])
  refine own_st (fun _ k => XS.iloadN X1.here hx rfl (hb hby own_d6_15) rfl k) ?_
  show own_Go _ _ _ _ T1 (mkF m 16 #[.val (.ref a1), .val (.ref bv), .val (.int (4 : Int32)), .val (.int (0 : Int32)), .unset] [(.int (0 : Int32)), (.ref bv)])
  refine own_st (own_ldR X1 hx hZ rfl Vb rfl (j := (0 : Int32)) (by decide) (v := (.ref w0)) rfl (g := (mkF m 16 #[.val (.ref a1), .val (.ref bv), .val (.int (4 : Int32)), .val (.int (0 : Int32)), .unset] [(.int (0 : Int32)), (.ref bv)])) rfl rfl (hb hby own_d6_16)) ?_
  show own_Go _ _ _ _ T1 (mkF m 17 #[.val (.ref a1), .val (.ref bv), .val (.int (4 : Int32)), .val (.int (0 : Int32)), .unset] [(.ref w0)])
  refine own_st (fun _ k => XS.astore X1.here hx rfl (hb hby own_d6_17) rfl rfl (l' := #[.val (.ref a1), .val (.ref bv), .val (.int (4 : Int32)), .val (.int (0 : Int32)), .val (.ref w0)]) rfl k) ?_
  show own_Go _ _ _ _ T1 (mkF m 19 #[.val (.ref a1), .val (.ref bv), .val (.int (4 : Int32)), .val (.int (0 : Int32)), .val (.ref w0)] [])
  refine own_st (fun _ k => XS.aload X1.here hx rfl (hb hby own_d6_19) rfl rfl k) ?_
  show own_Go _ _ _ _ T1 (mkF m 21 #[.val (.ref a1), .val (.ref bv), .val (.int (4 : Int32)), .val (.int (0 : Int32)), .val (.ref w0)] [(.ref w0)])
  obtain ⟨T2, X2, e2, st2⟩ := getF X1 hx hZ hown (host := "") (Or.inl (own_w50 hw)) Via.refl rfl (Fs0.ext O1) (g := (mkF m 21 #[.val (.ref a1), .val (.ref bv), .val (.int (4 : Int32)), .val (.int (0 : Int32)), .val (.ref w0)] [(.ref w0)])) rfl rfl (hb hby own_d6_21)
  refine own_st st2 ?_
  show own_Go _ _ _ _ T2 (mkF m 24 #[.val (.ref a1), .val (.ref bv), .val (.int (4 : Int32)), .val (.int (0 : Int32)), .val (.ref w0)] [(.ref u0)])
  refine own_st (fun _ k => XS.aloadN X2.here hx rfl (hb hby own_d6_24) rfl rfl k) ?_
  show own_Go _ _ _ _ T2 (mkF m 25 #[.val (.ref a1), .val (.ref bv), .val (.int (4 : Int32)), .val (.int (0 : Int32)), .val (.ref w0)] [(.ref a1), (.ref u0)])
  obtain ⟨v3, T3, L3, hQ3, X3, st3⟩ := own_callV X2 hx hZ (y := (⟨"java/lang/String", "equals", "(Ljava/lang/Object;)Z"⟩ : MethodName)) hown (own_w52 hw) (own_w53 hw) (own_w55 hw) (own_w54 hw) (own_w3 hw) (own_w56 hw) (by decide) (own_se l hw [] u0 a1 y0 ba k0 ka (43 : Int32) (42 : Int32) cs T1.heap n0 (Nat.le_trans Z0 O1.1) (Scs.ext O1) hcs dn0 (Ea.ext O1) (Gv0.ext O1) (Gc0.ext O1) (Vy0.ext O1) (Fva.ext O1) (Fca.ext O1) (Va.ext O1)) e2 (Eu0.ext O1) (g := (mkF m 25 #[.val (.ref a1), .val (.ref bv), .val (.int (4 : Int32)), .val (.int (0 : Int32)), .val (.ref w0)] [(.ref a1), (.ref u0)])) rfl (by rw [hml]; rfl) (argsL := [(.ref a1)]) (rest := []) (lenOf own_pd5 rfl) rfl rfl (W := 0) (Nat.le_of_eq rfl) (hb hby own_d6_25) (by decide) (by decide) (by decide) (by decide)
  obtain ⟨rfl, N3, e3⟩ := hQ3
  have N3' := Fr.app N1' N3
  refine own_st st3 ?_
  show own_Go _ _ _ _ T3 (mkF m 28 #[.val (.ref a1), .val (.ref bv), .val (.int (4 : Int32)), .val (.int (0 : Int32)), .val (.ref w0)] [(.int (own_eq1 (43 : Int32) (42 : Int32)))])
  rw [show (own_eq1 (43 : Int32) (42 : Int32)) = (0 : Int32) from by decide]
  show own_Go _ _ _ _ T3 (mkF m 28 #[.val (.ref a1), .val (.ref bv), .val (.int (4 : Int32)), .val (.int (0 : Int32)), .val (.ref w0)] [(.int (0 : Int32))])
  refine own_st (fun _ k => XS.ifYes X3.here hx rfl (pc0 := 28) (pc' := 34) rfl (hb hby own_d6_28) rfl ((if0 _ _).trans (teq (by decide : (0 : Int32) = (0 : Int32))).1) (by decide) (by decide) k) ?_
  show own_Go _ _ _ _ T3 (mkF m 34 #[.val (.ref a1), .val (.ref bv), .val (.int (4 : Int32)), .val (.int (0 : Int32)), .val (.ref w0)] [])
  refine own_st (fun _ k => XS.iinc X3.here hx rfl (hb hby own_d6_34) rfl (l' := #[.val (.ref a1), .val (.ref bv), .val (.int (4 : Int32)), .val (.int ((0 : Int32) + (1 : Int32))), .val (.ref w0)]) rfl k) ?_
  show own_Go _ _ _ _ T3 (mkF m 37 #[.val (.ref a1), .val (.ref bv), .val (.int (4 : Int32)), .val (.int ((0 : Int32) + (1 : Int32))), .val (.ref w0)] [])
  rw [show ((0 : Int32) + (1 : Int32)) = (1 : Int32) from by decide]
  show own_Go _ _ _ _ T3 (mkF m 37 #[.val (.ref a1), .val (.ref bv), .val (.int (4 : Int32)), .val (.int (1 : Int32)), .val (.ref w0)] [])
  refine own_st (fun _ k => XS.goto X3.here hx rfl (pc0 := 37) (pc' := 9) rfl (hb hby own_d6_37) (by decide) (by decide) k) ?_
  show own_Go _ _ _ _ T3 (mkF m 9 #[.val (.ref a1), .val (.ref bv), .val (.int (4 : Int32)), .val (.int (1 : Int32)), .val (.ref w0)] [])
  refine own_st (fun _ k => XS.iloadN X3.here hx rfl (hb hby own_d6_9) rfl k) ?_
  show own_Go _ _ _ _ T3 (mkF m 10 #[.val (.ref a1), .val (.ref bv), .val (.int (4 : Int32)), .val (.int (1 : Int32)), .val (.ref w0)] [(.int (1 : Int32))])
  refine own_st (fun _ k => XS.iloadN X3.here hx rfl (hb hby own_d6_10) rfl k) ?_
  show own_Go _ _ _ _ T3 (mkF m 11 #[.val (.ref a1), .val (.ref bv), .val (.int (4 : Int32)), .val (.int (1 : Int32)), .val (.ref w0)] [(.int (4 : Int32)), (.int (1 : Int32))])
  refine own_st (fun _ k => XS.icmpNo X3.here hx rfl (hb hby own_d6_11) rfl (tlt (by decide : (1 : Int32) < (4 : Int32))).2.1 k) ?_
  show own_Go _ _ _ _ T3 (mkF m 14 #[.val (.ref a1), .val (.ref bv), .val (.int (4 : Int32)), .val (.int (1 : Int32)), .val (.ref w0)] [])
  refine own_st (fun _ k => XS.aloadN X3.here hx rfl (hb hby own_d6_14) rfl rfl k) ?_
  show own_Go _ _ _ _ T3 (mkF m 15 #[.val (.ref a1), .val (.ref bv), .val (.int (4 : Int32)), .val (.int (1 : Int32)), .val (.ref w0)] [(.ref bv)])
  refine own_st (fun _ k => XS.iloadN X3.here hx rfl (hb hby own_d6_15) rfl k) ?_
  show own_Go _ _ _ _ T3 (mkF m 16 #[.val (.ref a1), .val (.ref bv), .val (.int (4 : Int32)), .val (.int (1 : Int32)), .val (.ref w0)] [(.int (1 : Int32)), (.ref bv)])
  refine own_st (own_ldR X3 hx hZ e3 Vb rfl (j := (1 : Int32)) (by decide) (v := (.ref w1)) rfl (g := (mkF m 16 #[.val (.ref a1), .val (.ref bv), .val (.int (4 : Int32)), .val (.int (1 : Int32)), .val (.ref w0)] [(.int (1 : Int32)), (.ref bv)])) rfl rfl (hb hby own_d6_16)) ?_
  show own_Go _ _ _ _ T3 (mkF m 17 #[.val (.ref a1), .val (.ref bv), .val (.int (4 : Int32)), .val (.int (1 : Int32)), .val (.ref w0)] [(.ref w1)])
  refine own_st (fun _ k => XS.astore X3.here hx rfl (hb hby own_d6_17) rfl rfl (l' := #[.val (.ref a1), .val (.ref bv), .val (.int (4 : Int32)), .val (.int (1 : Int32)), .val (.ref w1)]) rfl k) ?_
  show own_Go _ _ _ _ T3 (mkF m 19 #[.val (.ref a1), .val (.ref bv), .val (.int (4 : Int32)), .val (.int (1 : Int32)), .val (.ref w1)] [])
  refine own_st (fun _ k => XS.aload X3.here hx rfl (hb hby own_d6_19) rfl rfl k) ?_
  show own_Go _ _ _ _ T3 (mkF m 21 #[.val (.ref a1), .val (.ref bv), .val (.int (4 : Int32)), .val (.int (1 : Int32)), .val (.ref w1)] [(.ref w1)])
  obtain ⟨T4, X4, e4, st4⟩ := getF X3 hx hZ hown (host := "") (Or.inl (own_w50 hw)) Via.refl e3 (Fs1.ext O1) (g := (mkF m 21 #[.val (.ref a1), .val (.ref bv), .val (.int (4 : Int32)), .val (.int (1 : Int32)), .val (.ref w1)] [(.ref w1)])) rfl rfl (hb hby own_d6_21)
  refine own_st st4 ?_
  show own_Go _ _ _ _ T4 (mkF m 24 #[.val (.ref a1), .val (.ref bv), .val (.int (4 : Int32)), .val (.int (1 : Int32)), .val (.ref w1)] [(.ref u1)])
  refine own_st (fun _ k => XS.aloadN X4.here hx rfl (hb hby own_d6_24) rfl rfl k) ?_
  show own_Go _ _ _ _ T4 (mkF m 25 #[.val (.ref a1), .val (.ref bv), .val (.int (4 : Int32)), .val (.int (1 : Int32)), .val (.ref w1)] [(.ref a1), (.ref u1)])
  obtain ⟨v5, T5, L5, hQ5, X5, st5⟩ := own_callV X4 hx hZ (y := (⟨"java/lang/String", "equals", "(Ljava/lang/Object;)Z"⟩ : MethodName)) hown (own_w52 hw) (own_w53 hw) (own_w55 hw) (own_w54 hw) (own_w3 hw) (own_w56 hw) (by decide) (own_se l hw [] u1 a1 y1 ba k1 ka (45 : Int32) (42 : Int32) cs T1.heap n0 (Nat.le_trans Z0 O1.1) (Scs.ext O1) hcs dn1 (Ea.ext O1) (Gv1.ext O1) (Gc1.ext O1) (Vy1.ext O1) (Fva.ext O1) (Fca.ext O1) (Va.ext O1)) e4 (Eu1.ext O1) (g := (mkF m 25 #[.val (.ref a1), .val (.ref bv), .val (.int (4 : Int32)), .val (.int (1 : Int32)), .val (.ref w1)] [(.ref a1), (.ref u1)])) rfl (by rw [hml]; rfl) (argsL := [(.ref a1)]) (rest := []) (lenOf own_pd5 rfl) rfl rfl (W := 0) (Nat.le_of_eq rfl) (hb hby own_d6_25) (by decide) (by decide) (by decide) (by decide)
  obtain ⟨rfl, N5, e5⟩ := hQ5
  have N5' := Fr.app N3' N5
  refine own_st st5 ?_
  show own_Go _ _ _ _ T5 (mkF m 28 #[.val (.ref a1), .val (.ref bv), .val (.int (4 : Int32)), .val (.int (1 : Int32)), .val (.ref w1)] [(.int (own_eq1 (45 : Int32) (42 : Int32)))])
  rw [show (own_eq1 (45 : Int32) (42 : Int32)) = (0 : Int32) from by decide]
  show own_Go _ _ _ _ T5 (mkF m 28 #[.val (.ref a1), .val (.ref bv), .val (.int (4 : Int32)), .val (.int (1 : Int32)), .val (.ref w1)] [(.int (0 : Int32))])
  refine own_st (fun _ k => XS.ifYes X5.here hx rfl (pc0 := 28) (pc' := 34) rfl (hb hby own_d6_28) rfl ((if0 _ _).trans (teq (by decide : (0 : Int32) = (0 : Int32))).1) (by decide) (by decide) k) ?_
  show own_Go _ _ _ _ T5 (mkF m 34 #[.val (.ref a1), .val (.ref bv), .val (.int (4 : Int32)), .val (.int (1 : Int32)), .val (.ref w1)] [])
  refine own_st (fun _ k => XS.iinc X5.here hx rfl (hb hby own_d6_34) rfl (l' := #[.val (.ref a1), .val (.ref bv), .val (.int (4 : Int32)), .val (.int ((1 : Int32) + (1 : Int32))), .val (.ref w1)]) rfl k) ?_
  show own_Go _ _ _ _ T5 (mkF m 37 #[.val (.ref a1), .val (.ref bv), .val (.int (4 : Int32)), .val (.int ((1 : Int32) + (1 : Int32))), .val (.ref w1)] [])
  rw [show ((1 : Int32) + (1 : Int32)) = (2 : Int32) from by decide]
  show own_Go _ _ _ _ T5 (mkF m 37 #[.val (.ref a1), .val (.ref bv), .val (.int (4 : Int32)), .val (.int (2 : Int32)), .val (.ref w1)] [])
  refine own_st (fun _ k => XS.goto X5.here hx rfl (pc0 := 37) (pc' := 9) rfl (hb hby own_d6_37) (by decide) (by decide) k) ?_
  show own_Go _ _ _ _ T5 (mkF m 9 #[.val (.ref a1), .val (.ref bv), .val (.int (4 : Int32)), .val (.int (2 : Int32)), .val (.ref w1)] [])
  refine own_st (fun _ k => XS.iloadN X5.here hx rfl (hb hby own_d6_9) rfl k) ?_
  show own_Go _ _ _ _ T5 (mkF m 10 #[.val (.ref a1), .val (.ref bv), .val (.int (4 : Int32)), .val (.int (2 : Int32)), .val (.ref w1)] [(.int (2 : Int32))])
  refine own_st (fun _ k => XS.iloadN X5.here hx rfl (hb hby own_d6_10) rfl k) ?_
  show own_Go _ _ _ _ T5 (mkF m 11 #[.val (.ref a1), .val (.ref bv), .val (.int (4 : Int32)), .val (.int (2 : Int32)), .val (.ref w1)] [(.int (4 : Int32)), (.int (2 : Int32))])
  refine own_st (fun _ k => XS.icmpNo X5.here hx rfl (hb hby own_d6_11) rfl (tlt (by decide : (2 : Int32) < (4 : Int32))).2.1 k) ?_
  show own_Go _ _ _ _ T5 (mkF m 14 #[.val (.ref a1), .val (.ref bv), .val (.int (4 : Int32)), .val (.int (2 : Int32)), .val (.ref w1)] [])
  refine own_st (fun _ k => XS.aloadN X5.here hx rfl (hb hby own_d6_14) rfl rfl k) ?_
  show own_Go _ _ _ _ T5 (mkF m 15 #[.val (.ref a1), .val (.ref bv), .val (.int (4 : Int32)), .val (.int (2 : Int32)), .val (.ref w1)] [(.ref bv)])
  refine own_st (fun _ k => XS.iloadN X5.here hx rfl (hb hby own_d6_15) rfl k) ?_
  show own_Go _ _ _ _ T5 (mkF m 16 #[.val (.ref a1), .val (.ref bv), .val (.int (4 : Int32)), .val (.int (2 : Int32)), .val (.ref w1)] [(.int (2 : Int32)), (.ref bv)])
  refine own_st (own_ldR X5 hx hZ e5 Vb rfl (j := (2 : Int32)) (by decide) (v := (.ref w2)) rfl (g := (mkF m 16 #[.val (.ref a1), .val (.ref bv), .val (.int (4 : Int32)), .val (.int (2 : Int32)), .val (.ref w1)] [(.int (2 : Int32)), (.ref bv)])) rfl rfl (hb hby own_d6_16)) ?_
  show own_Go _ _ _ _ T5 (mkF m 17 #[.val (.ref a1), .val (.ref bv), .val (.int (4 : Int32)), .val (.int (2 : Int32)), .val (.ref w1)] [(.ref w2)])
  refine own_st (fun _ k => XS.astore X5.here hx rfl (hb hby own_d6_17) rfl rfl (l' := #[.val (.ref a1), .val (.ref bv), .val (.int (4 : Int32)), .val (.int (2 : Int32)), .val (.ref w2)]) rfl k) ?_
  show own_Go _ _ _ _ T5 (mkF m 19 #[.val (.ref a1), .val (.ref bv), .val (.int (4 : Int32)), .val (.int (2 : Int32)), .val (.ref w2)] [])
  refine own_st (fun _ k => XS.aload X5.here hx rfl (hb hby own_d6_19) rfl rfl k) ?_
  show own_Go _ _ _ _ T5 (mkF m 21 #[.val (.ref a1), .val (.ref bv), .val (.int (4 : Int32)), .val (.int (2 : Int32)), .val (.ref w2)] [(.ref w2)])
  obtain ⟨T6, X6, e6, st6⟩ := getF X5 hx hZ hown (host := "") (Or.inl (own_w50 hw)) Via.refl e5 (Fs2.ext O1) (g := (mkF m 21 #[.val (.ref a1), .val (.ref bv), .val (.int (4 : Int32)), .val (.int (2 : Int32)), .val (.ref w2)] [(.ref w2)])) rfl rfl (hb hby own_d6_21)
  refine own_st st6 ?_
  show own_Go _ _ _ _ T6 (mkF m 24 #[.val (.ref a1), .val (.ref bv), .val (.int (4 : Int32)), .val (.int (2 : Int32)), .val (.ref w2)] [(.ref u2)])
  refine own_st (fun _ k => XS.aloadN X6.here hx rfl (hb hby own_d6_24) rfl rfl k) ?_
  show own_Go _ _ _ _ T6 (mkF m 25 #[.val (.ref a1), .val (.ref bv), .val (.int (4 : Int32)), .val (.int (2 : Int32)), .val (.ref w2)] [(.ref a1), (.ref u2)])
  obtain ⟨v7, T7, L7, hQ7, X7, st7⟩ := own_callV X6 hx hZ (y := (⟨"java/lang/String", "equals", "(Ljava/lang/Object;)Z"⟩ : MethodName)) hown (own_w52 hw) (own_w53 hw) (own_w55 hw) (own_w54 hw) (own_w3 hw) (own_w56 hw) (by decide) (own_se l hw [] u2 a1 y2 ba k2 ka (42 : Int32) (42 : Int32) cs T1.heap n0 (Nat.le_trans Z0 O1.1) (Scs.ext O1) hcs dn2 (Ea.ext O1) (Gv2.ext O1) (Gc2.ext O1) (Vy2.ext O1) (Fva.ext O1) (Fca.ext O1) (Va.ext O1)) e6 (Eu2.ext O1) (g := (mkF m 25 #[.val (.ref a1), .val (.ref bv), .val (.int (4 : Int32)), .val (.int (2 : Int32)), .val (.ref w2)] [(.ref a1), (.ref u2)])) rfl (by rw [hml]; rfl) (argsL := [(.ref a1)]) (rest := []) (lenOf own_pd5 rfl) rfl rfl (W := 0) (Nat.le_of_eq rfl) (hb hby own_d6_25) (by decide) (by decide) (by decide) (by decide)
  obtain ⟨rfl, N7, e7⟩ := hQ7
  have N7' := Fr.app N5' N7
  refine own_st st7 ?_
  show own_Go _ _ _ _ T7 (mkF m 28 #[.val (.ref a1), .val (.ref bv), .val (.int (4 : Int32)), .val (.int (2 : Int32)), .val (.ref w2)] [(.int (own_eq1 (42 : Int32) (42 : Int32)))])
  rw [show (own_eq1 (42 : Int32) (42 : Int32)) = (1 : Int32) from by decide]
  show own_Go _ _ _ _ T7 (mkF m 28 #[.val (.ref a1), .val (.ref bv), .val (.int (4 : Int32)), .val (.int (2 : Int32)), .val (.ref w2)] [(.int (1 : Int32))])
  refine own_st (fun _ k => XS.ifNo X7.here hx rfl (hb hby own_d6_28) rfl ((if0 _ _).trans (feq (by decide : ¬ ((1 : Int32) = (0 : Int32)))).1) k) ?_
  show own_Go _ _ _ _ T7 (mkF m 31 #[.val (.ref a1), .val (.ref bv), .val (.int (4 : Int32)), .val (.int (2 : Int32)), .val (.ref w2)] [])
  refine own_st (fun _ k => XS.aload X7.here hx rfl (hb hby own_d6_31) rfl rfl k) ?_
  show own_Go _ _ _ _ T7 (mkF m 33 #[.val (.ref a1), .val (.ref bv), .val (.int (4 : Int32)), .val (.int (2 : Int32)), .val (.ref w2)] [(.ref w2)])
  exact own_retA X7 hx hret rfl hlk rfl (hb hby own_d6_33) ⟨rfl, N7', by rw [e7]; exact O1⟩ (by decide) (by decide)
def own_of47_Q (Z : State) (a1 ba : Addr) (ka : ClassId) (wv w0 w1 w2 w3 u0 u1 u2 u3 y0 y1 y2 y3 : Addr) (kv k0 k1 k2 k3 : ClassId) (cs : Int32) (h0 : Heap) (n0 : Nat) (v : Option Value) (h : Heap) (L : List Loc) : Prop := v = some (.ref w3) ∧ Fr n0 L ∧ Ext h0 h
set_option maxRecDepth 65536 in
set_option maxHeartbeats 40000000 in
theorem own_of47 (l : Launch) {Z : State} {a0 : Array Value} (hw : own_W Z a0) (ws : List Jvm.Cond) (a1 ba : Addr) (ka : ClassId) (wv w0 w1 w2 w3 u0 u1 u2 u3 y0 y1 y2 y3 : Addr) (kv k0 k1 k2 k3 : ClassId) (cs : Int32) (h0 : Heap) (n0 : Nat) (Z0 : n0 ≤ h0.size) (Scs : Sta Z h0 "java/lang/String" "COMPACT_STRINGS" "Z" (.int cs)) (hcs : ¬ cs = 0) (Sv : Sta Z h0 "holdtrue/Operand$ArithmeticOperator" "$VALUES" "[Lholdtrue/Operand$ArithmeticOperator;" (.ref wv)) (Vv : Arv Z h0 wv kv (.object "holdtrue/Operand$ArithmeticOperator") 4 [(.ref w0), (.ref w1), (.ref w2), (.ref w3)] .null) (Ev : Exa Z h0 wv "[Lholdtrue/Operand$ArithmeticOperator;") (Fs0 : Fld Z h0 w0 "holdtrue/Operand$ArithmeticOperator" "symbol" "Ljava/lang/String;" (.ref u0)) (Eu0 : Exa Z h0 u0 "java/lang/String") (Gv0 : Fld Z h0 u0 "java/lang/String" "value" "[B" (.ref y0)) (Gc0 : Fld Z h0 u0 "java/lang/String" "coder" "B" (.int (0 : Int32))) (Vy0 : Arv Z h0 y0 k0 .byte 1 [(.int (43 : Int32))] (.int (0 : Int32))) (Fs1 : Fld Z h0 w1 "holdtrue/Operand$ArithmeticOperator" "symbol" "Ljava/lang/String;" (.ref u1)) (Eu1 : Exa Z h0 u1 "java/lang/String") (Gv1 : Fld Z h0 u1 "java/lang/String" "value" "[B" (.ref y1)) (Gc1 : Fld Z h0 u1 "java/lang/String" "coder" "B" (.int (0 : Int32))) (Vy1 : Arv Z h0 y1 k1 .byte 1 [(.int (45 : Int32))] (.int (0 : Int32))) (Fs2 : Fld Z h0 w2 "holdtrue/Operand$ArithmeticOperator" "symbol" "Ljava/lang/String;" (.ref u2)) (Eu2 : Exa Z h0 u2 "java/lang/String") (Gv2 : Fld Z h0 u2 "java/lang/String" "value" "[B" (.ref y2)) (Gc2 : Fld Z h0 u2 "java/lang/String" "coder" "B" (.int (0 : Int32))) (Vy2 : Arv Z h0 y2 k2 .byte 1 [(.int (42 : Int32))] (.int (0 : Int32))) (Fs3 : Fld Z h0 w3 "holdtrue/Operand$ArithmeticOperator" "symbol" "Ljava/lang/String;" (.ref u3)) (Eu3 : Exa Z h0 u3 "java/lang/String") (Gv3 : Fld Z h0 u3 "java/lang/String" "value" "[B" (.ref y3)) (Gc3 : Fld Z h0 u3 "java/lang/String" "coder" "B" (.int (0 : Int32))) (Vy3 : Arv Z h0 y3 k3 .byte 1 [(.int (47 : Int32))] (.int (0 : Int32))) (dn0 : ¬ u0 = a1) (dn1 : ¬ u1 = a1) (dn2 : ¬ u2 = a1) (dn3 : ¬ u3 = a1) (Ea : Exa Z h0 a1 "java/lang/String") (Fva : Fld Z h0 a1 "java/lang/String" "value" "[B" (.ref ba)) (Fca : Fld Z h0 a1 "java/lang/String" "coder" "B" (.int (0 : Int32))) (Va : Arv Z h0 ba ka .byte 1 [(.int (47 : Int32))] (.int (0 : Int32))) :
    MetFree l (⟨"holdtrue/Operand$ArithmeticOperator", "of", "(Ljava/lang/String;)Lholdtrue/Operand$ArithmeticOperator;"⟩ : MethodName) (head1 (Jvm.Cond.code (⟨"holdtrue/Operand$ArithmeticOperator", "of", "(Ljava/lang/String;)Lholdtrue/Operand$ArithmeticOperator;"⟩ : MethodName) prog_55_method_4_code 5 (some (.object "holdtrue/Operand$ArithmeticOperator")) :: ws) ({ frames := 2, cells := 1, slots := 4, locals := 28 } : Room)) (fun a U => a = #[(.ref a1)] ∧ Z.Warmed39 U.vm ∧ U.heap = h0) (fun _ _ _ _ _ => True) (fun _ U o U' => ∃ v L, o = .returned v ∧ own_of47_Q Z a1 ba ka wv w0 w1 w2 w3 u0 u1 u2 u3 y0 y1 y2 y3 kv k0 k1 k2 k3 cs h0 n0 v U'.heap L ∧ FrameEnd U o U' L ({ frames := 2, cells := 1, slots := 4, locals := 28 } : Room).cells ({ frames := 2, cells := 1, slots := 4, locals := 28 } : Room).slots) := by
  refine own_enter (C := ({ frames := 2, cells := 1, slots := 4, locals := 28 } : Room).cells) (S := ({ frames := 2, cells := 1, slots := 4, locals := 28 } : Room).slots) (plainFor_of_name own_pn2) ?_
  intro p e s m below meth c T0 X0 I e0
  obtain ⟨hx, hby, hml, hown, hnm, hret, hlk, hZ⟩ := I
  have N0 := Fr.nil n0
  have O0 := own_extr h0
  refine own_cast (own_ef6 m a1) ?_
  show own_Go _ _ _ _ T0 (mkF m 0 #[.val (.ref a1), .unset, .unset, .unset, .unset] [])
  obtain ⟨v1, T1, L1, hQ1, X1, st1⟩ := own_callS X0 hx hZ (y := (⟨"holdtrue/Operand$ArithmeticOperator", "values", "()[Lholdtrue/Operand$ArithmeticOperator;"⟩ : MethodName)) hown (own_w31 hw) (own_w32 hw) (own_w29 hw) (own_w33 hw) (by decide) (own_vals l hw [] wv w0 w1 w2 w3 kv h0 n0 (Nat.le_trans Z0 O0.1) (Sv.ext O0) (Vv.ext O0) (Ev.ext O0)) e0 (g := (mkF m 0 #[.val (.ref a1), .unset, .unset, .unset, .unset] [])) rfl (by rw [hml]; rfl) (argsL := []) (rest := []) (lenOf own_pd4 rfl) rfl rfl (W := 0) (Nat.le_of_eq rfl) (hb hby own_d6_0) (by decide) (by decide) (by decide) (by decide)
  obtain ⟨bv, kb, rfl, N1, Et1, gb, sb, Vb⟩ := hQ1
  have O1 := own_extt O0 Et1
  have N1' := Fr.app N0 N1
  refine own_st st1 ?_
  show own_Go _ _ _ _ T1 (mkF m 3 #[.val (.ref a1), .unset, .unset, .unset, .unset] [(.ref bv)])
  refine own_st (fun _ k => XS.astoreN X1.here hx rfl (hb hby own_d6_3) rfl rfl (l' := #[.val (.ref a1), .val (.ref bv), .unset, .unset, .unset]) rfl k) ?_
  show own_Go _ _ _ _ T1 (mkF m 4 #[.val (.ref a1), .val (.ref bv), .unset, .unset, .unset] [])
  refine own_st (fun _ k => XS.aloadN X1.here hx rfl (hb hby own_d6_4) rfl rfl k) ?_
  show own_Go _ _ _ _ T1 (mkF m 5 #[.val (.ref a1), .val (.ref bv), .unset, .unset, .unset] [(.ref bv)])
  refine own_st (own_len X1 hx hZ rfl Vb (g := (mkF m 5 #[.val (.ref a1), .val (.ref bv), .unset, .unset, .unset] [(.ref bv)])) rfl rfl (hb hby own_d6_5)) ?_
  show own_Go _ _ _ _ T1 (mkF m 6 #[.val (.ref a1), .val (.ref bv), .unset, .unset, .unset] [(.int (4 : Int32))])
  refine own_st (fun _ k => XS.istoreN X1.here hx rfl (hb hby own_d6_6) rfl (l' := #[.val (.ref a1), .val (.ref bv), .val (.int (4 : Int32)), .unset, .unset]) rfl k) ?_
  show own_Go _ _ _ _ T1 (mkF m 7 #[.val (.ref a1), .val (.ref bv), .val (.int (4 : Int32)), .unset, .unset] [])
  refine own_st (fun _ k => XS.iconst X1.here hx rfl (hb hby own_d6_7) k) ?_
  show own_Go _ _ _ _ T1 (mkF m 8 #[.val (.ref a1), .val (.ref bv), .val (.int (4 : Int32)), .unset, .unset] [(.int (0 : Int32))])
  refine own_st (fun _ k => XS.istoreN X1.here hx rfl (hb hby own_d6_8) rfl (l' := #[.val (.ref a1), .val (.ref bv), .val (.int (4 : Int32)), .val (.int (0 : Int32)), .unset]) rfl k) ?_
  show own_Go _ _ _ _ T1 (mkF m 9 #[.val (.ref a1), .val (.ref bv), .val (.int (4 : Int32)), .val (.int (0 : Int32)), .unset] [])
  refine own_st (fun _ k => XS.iloadN X1.here hx rfl (hb hby own_d6_9) rfl k) ?_
  show own_Go _ _ _ _ T1 (mkF m 10 #[.val (.ref a1), .val (.ref bv), .val (.int (4 : Int32)), .val (.int (0 : Int32)), .unset] [(.int (0 : Int32))])
  refine own_st (fun _ k => XS.iloadN X1.here hx rfl (hb hby own_d6_10) rfl k) ?_
  show own_Go _ _ _ _ T1 (mkF m 11 #[.val (.ref a1), .val (.ref bv), .val (.int (4 : Int32)), .val (.int (0 : Int32)), .unset] [(.int (4 : Int32)), (.int (0 : Int32))])
  refine own_st (fun _ k => XS.icmpNo X1.here hx rfl (hb hby own_d6_11) rfl (tlt (by decide : (0 : Int32) < (4 : Int32))).2.1 k) ?_
  show own_Go _ _ _ _ T1 (mkF m 14 #[.val (.ref a1), .val (.ref bv), .val (.int (4 : Int32)), .val (.int (0 : Int32)), .unset] [])
  refine own_st (fun _ k => XS.aloadN X1.here hx rfl (hb hby own_d6_14) rfl rfl k) ?_
  show own_Go _ _ _ _ T1 (mkF m 15 #[.val (.ref a1), .val (.ref bv), .val (.int (4 : Int32)), .val (.int (0 : Int32)), .unset] [(.ref bv)])
  refine own_st (fun _ k => XS.iloadN X1.here hx rfl (hb hby own_d6_15) rfl k) ?_
  show own_Go _ _ _ _ T1 (mkF m 16 #[.val (.ref a1), .val (.ref bv), .val (.int (4 : Int32)), .val (.int (0 : Int32)), .unset] [(.int (0 : Int32)), (.ref bv)])
  refine own_st (own_ldR X1 hx hZ rfl Vb rfl (j := (0 : Int32)) (by decide) (v := (.ref w0)) rfl (g := (mkF m 16 #[.val (.ref a1), .val (.ref bv), .val (.int (4 : Int32)), .val (.int (0 : Int32)), .unset] [(.int (0 : Int32)), (.ref bv)])) rfl rfl (hb hby own_d6_16)) ?_
  show own_Go _ _ _ _ T1 (mkF m 17 #[.val (.ref a1), .val (.ref bv), .val (.int (4 : Int32)), .val (.int (0 : Int32)), .unset] [(.ref w0)])
  refine own_st (fun _ k => XS.astore X1.here hx rfl (hb hby own_d6_17) rfl rfl (l' := #[.val (.ref a1), .val (.ref bv), .val (.int (4 : Int32)), .val (.int (0 : Int32)), .val (.ref w0)]) rfl k) ?_
  show own_Go _ _ _ _ T1 (mkF m 19 #[.val (.ref a1), .val (.ref bv), .val (.int (4 : Int32)), .val (.int (0 : Int32)), .val (.ref w0)] [])
  refine own_st (fun _ k => XS.aload X1.here hx rfl (hb hby own_d6_19) rfl rfl k) ?_
  show own_Go _ _ _ _ T1 (mkF m 21 #[.val (.ref a1), .val (.ref bv), .val (.int (4 : Int32)), .val (.int (0 : Int32)), .val (.ref w0)] [(.ref w0)])
  obtain ⟨T2, X2, e2, st2⟩ := getF X1 hx hZ hown (host := "") (Or.inl (own_w50 hw)) Via.refl rfl (Fs0.ext O1) (g := (mkF m 21 #[.val (.ref a1), .val (.ref bv), .val (.int (4 : Int32)), .val (.int (0 : Int32)), .val (.ref w0)] [(.ref w0)])) rfl rfl (hb hby own_d6_21)
  refine own_st st2 ?_
  show own_Go _ _ _ _ T2 (mkF m 24 #[.val (.ref a1), .val (.ref bv), .val (.int (4 : Int32)), .val (.int (0 : Int32)), .val (.ref w0)] [(.ref u0)])
  refine own_st (fun _ k => XS.aloadN X2.here hx rfl (hb hby own_d6_24) rfl rfl k) ?_
  show own_Go _ _ _ _ T2 (mkF m 25 #[.val (.ref a1), .val (.ref bv), .val (.int (4 : Int32)), .val (.int (0 : Int32)), .val (.ref w0)] [(.ref a1), (.ref u0)])
  obtain ⟨v3, T3, L3, hQ3, X3, st3⟩ := own_callV X2 hx hZ (y := (⟨"java/lang/String", "equals", "(Ljava/lang/Object;)Z"⟩ : MethodName)) hown (own_w52 hw) (own_w53 hw) (own_w55 hw) (own_w54 hw) (own_w3 hw) (own_w56 hw) (by decide) (own_se l hw [] u0 a1 y0 ba k0 ka (43 : Int32) (47 : Int32) cs T1.heap n0 (Nat.le_trans Z0 O1.1) (Scs.ext O1) hcs dn0 (Ea.ext O1) (Gv0.ext O1) (Gc0.ext O1) (Vy0.ext O1) (Fva.ext O1) (Fca.ext O1) (Va.ext O1)) e2 (Eu0.ext O1) (g := (mkF m 25 #[.val (.ref a1), .val (.ref bv), .val (.int (4 : Int32)), .val (.int (0 : Int32)), .val (.ref w0)] [(.ref a1), (.ref u0)])) rfl (by rw [hml]; rfl) (argsL := [(.ref a1)]) (rest := []) (lenOf own_pd5 rfl) rfl rfl (W := 0) (Nat.le_of_eq rfl) (hb hby own_d6_25) (by decide) (by decide) (by decide) (by decide)
  obtain ⟨rfl, N3, e3⟩ := hQ3
  have N3' := Fr.app N1' N3
  refine own_st st3 ?_
  show own_Go _ _ _ _ T3 (mkF m 28 #[.val (.ref a1), .val (.ref bv), .val (.int (4 : Int32)), .val (.int (0 : Int32)), .val (.ref w0)] [(.int (own_eq1 (43 : Int32) (47 : Int32)))])
  rw [show (own_eq1 (43 : Int32) (47 : Int32)) = (0 : Int32) from by decide]
  show own_Go _ _ _ _ T3 (mkF m 28 #[.val (.ref a1), .val (.ref bv), .val (.int (4 : Int32)), .val (.int (0 : Int32)), .val (.ref w0)] [(.int (0 : Int32))])
  refine own_st (fun _ k => XS.ifYes X3.here hx rfl (pc0 := 28) (pc' := 34) rfl (hb hby own_d6_28) rfl ((if0 _ _).trans (teq (by decide : (0 : Int32) = (0 : Int32))).1) (by decide) (by decide) k) ?_
  show own_Go _ _ _ _ T3 (mkF m 34 #[.val (.ref a1), .val (.ref bv), .val (.int (4 : Int32)), .val (.int (0 : Int32)), .val (.ref w0)] [])
  refine own_st (fun _ k => XS.iinc X3.here hx rfl (hb hby own_d6_34) rfl (l' := #[.val (.ref a1), .val (.ref bv), .val (.int (4 : Int32)), .val (.int ((0 : Int32) + (1 : Int32))), .val (.ref w0)]) rfl k) ?_
  show own_Go _ _ _ _ T3 (mkF m 37 #[.val (.ref a1), .val (.ref bv), .val (.int (4 : Int32)), .val (.int ((0 : Int32) + (1 : Int32))), .val (.ref w0)] [])
  rw [show ((0 : Int32) + (1 : Int32)) = (1 : Int32) from by decide]
  show own_Go _ _ _ _ T3 (mkF m 37 #[.val (.ref a1), .val (.ref bv), .val (.int (4 : Int32)), .val (.int (1 : Int32)), .val (.ref w0)] [])
  refine own_st (fun _ k => XS.goto X3.here hx rfl (pc0 := 37) (pc' := 9) rfl (hb hby own_d6_37) (by decide) (by decide) k) ?_
  show own_Go _ _ _ _ T3 (mkF m 9 #[.val (.ref a1), .val (.ref bv), .val (.int (4 : Int32)), .val (.int (1 : Int32)), .val (.ref w0)] [])
  refine own_st (fun _ k => XS.iloadN X3.here hx rfl (hb hby own_d6_9) rfl k) ?_
  show own_Go _ _ _ _ T3 (mkF m 10 #[.val (.ref a1), .val (.ref bv), .val (.int (4 : Int32)), .val (.int (1 : Int32)), .val (.ref w0)] [(.int (1 : Int32))])
  refine own_st (fun _ k => XS.iloadN X3.here hx rfl (hb hby own_d6_10) rfl k) ?_
  show own_Go _ _ _ _ T3 (mkF m 11 #[.val (.ref a1), .val (.ref bv), .val (.int (4 : Int32)), .val (.int (1 : Int32)), .val (.ref w0)] [(.int (4 : Int32)), (.int (1 : Int32))])
  refine own_st (fun _ k => XS.icmpNo X3.here hx rfl (hb hby own_d6_11) rfl (tlt (by decide : (1 : Int32) < (4 : Int32))).2.1 k) ?_
  show own_Go _ _ _ _ T3 (mkF m 14 #[.val (.ref a1), .val (.ref bv), .val (.int (4 : Int32)), .val (.int (1 : Int32)), .val (.ref w0)] [])
  refine own_st (fun _ k => XS.aloadN X3.here hx rfl (hb hby own_d6_14) rfl rfl k) ?_
  show own_Go _ _ _ _ T3 (mkF m 15 #[.val (.ref a1), .val (.ref bv), .val (.int (4 : Int32)), .val (.int (1 : Int32)), .val (.ref w0)] [(.ref bv)])
  refine own_st (fun _ k => XS.iloadN X3.here hx rfl (hb hby own_d6_15) rfl k) ?_
  show own_Go _ _ _ _ T3 (mkF m 16 #[.val (.ref a1), .val (.ref bv), .val (.int (4 : Int32)), .val (.int (1 : Int32)), .val (.ref w0)] [(.int (1 : Int32)), (.ref bv)])
  refine own_st (own_ldR X3 hx hZ e3 Vb rfl (j := (1 : Int32)) (by decide) (v := (.ref w1)) rfl (g := (mkF m 16 #[.val (.ref a1), .val (.ref bv), .val (.int (4 : Int32)), .val (.int (1 : Int32)), .val (.ref w0)] [(.int (1 : Int32)), (.ref bv)])) rfl rfl (hb hby own_d6_16)) ?_
  show own_Go _ _ _ _ T3 (mkF m 17 #[.val (.ref a1), .val (.ref bv), .val (.int (4 : Int32)), .val (.int (1 : Int32)), .val (.ref w0)] [(.ref w1)])
  refine own_st (fun _ k => XS.astore X3.here hx rfl (hb hby own_d6_17) rfl rfl (l' := #[.val (.ref a1), .val (.ref bv), .val (.int (4 : Int32)), .val (.int (1 : Int32)), .val (.ref w1)]) rfl k) ?_
  show own_Go _ _ _ _ T3 (mkF m 19 #[.val (.ref a1), .val (.ref bv), .val (.int (4 : Int32)), .val (.int (1 : Int32)), .val (.ref w1)] [])
  refine own_st (fun _ k => XS.aload X3.here hx rfl (hb hby own_d6_19) rfl rfl k) ?_
  show own_Go _ _ _ _ T3 (mkF m 21 #[.val (.ref a1), .val (.ref bv), .val (.int (4 : Int32)), .val (.int (1 : Int32)), .val (.ref w1)] [(.ref w1)])
  obtain ⟨T4, X4, e4, st4⟩ := getF X3 hx hZ hown (host := "") (Or.inl (own_w50 hw)) Via.refl e3 (Fs1.ext O1) (g := (mkF m 21 #[.val (.ref a1), .val (.ref bv), .val (.int (4 : Int32)), .val (.int (1 : Int32)), .val (.ref w1)] [(.ref w1)])) rfl rfl (hb hby own_d6_21)
  refine own_st st4 ?_
  show own_Go _ _ _ _ T4 (mkF m 24 #[.val (.ref a1), .val (.ref bv), .val (.int (4 : Int32)), .val (.int (1 : Int32)), .val (.ref w1)] [(.ref u1)])
  refine own_st (fun _ k => XS.aloadN X4.here hx rfl (hb hby own_d6_24) rfl rfl k) ?_
  show own_Go _ _ _ _ T4 (mkF m 25 #[.val (.ref a1), .val (.ref bv), .val (.int (4 : Int32)), .val (.int (1 : Int32)), .val (.ref w1)] [(.ref a1), (.ref u1)])
  obtain ⟨v5, T5, L5, hQ5, X5, st5⟩ := own_callV X4 hx hZ (y := (⟨"java/lang/String", "equals", "(Ljava/lang/Object;)Z"⟩ : MethodName)) hown (own_w52 hw) (own_w53 hw) (own_w55 hw) (own_w54 hw) (own_w3 hw) (own_w56 hw) (by decide) (own_se l hw [] u1 a1 y1 ba k1 ka (45 : Int32) (47 : Int32) cs T1.heap n0 (Nat.le_trans Z0 O1.1) (Scs.ext O1) hcs dn1 (Ea.ext O1) (Gv1.ext O1) (Gc1.ext O1) (Vy1.ext O1) (Fva.ext O1) (Fca.ext O1) (Va.ext O1)) e4 (Eu1.ext O1) (g := (mkF m 25 #[.val (.ref a1), .val (.ref bv), .val (.int (4 : Int32)), .val (.int (1 : Int32)), .val (.ref w1)] [(.ref a1), (.ref u1)])) rfl (by rw [hml]; rfl) (argsL := [(.ref a1)]) (rest := []) (lenOf own_pd5 rfl) rfl rfl (W := 0) (Nat.le_of_eq rfl) (hb hby own_d6_25) (by decide) (by decide) (by decide) (by decide)
  obtain ⟨rfl, N5, e5⟩ := hQ5
  have N5' := Fr.app N3' N5
  refine own_st st5 ?_
  show own_Go _ _ _ _ T5 (mkF m 28 #[.val (.ref a1), .val (.ref bv), .val (.int (4 : Int32)), .val (.int (1 : Int32)), .val (.ref w1)] [(.int (own_eq1 (45 : Int32) (47 : Int32)))])
  rw [show (own_eq1 (45 : Int32) (47 : Int32)) = (0 : Int32) from by decide]
  show own_Go _ _ _ _ T5 (mkF m 28 #[.val (.ref a1), .val (.ref bv), .val (.int (4 : Int32)), .val (.int (1 : Int32)), .val (.ref w1)] [(.int (0 : Int32))])
  refine own_st (fun _ k => XS.ifYes X5.here hx rfl (pc0 := 28) (pc' := 34) rfl (hb hby own_d6_28) rfl ((if0 _ _).trans (teq (by decide : (0 : Int32) = (0 : Int32))).1) (by decide) (by decide) k) ?_
  show own_Go _ _ _ _ T5 (mkF m 34 #[.val (.ref a1), .val (.ref bv), .val (.int (4 : Int32)), .val (.int (1 : Int32)), .val (.ref w1)] [])
  refine own_st (fun _ k => XS.iinc X5.here hx rfl (hb hby own_d6_34) rfl (l' := #[.val (.ref a1), .val (.ref bv), .val (.int (4 : Int32)), .val (.int ((1 : Int32) + (1 : Int32))), .val (.ref w1)]) rfl k) ?_
  show own_Go _ _ _ _ T5 (mkF m 37 #[.val (.ref a1), .val (.ref bv), .val (.int (4 : Int32)), .val (.int ((1 : Int32) + (1 : Int32))), .val (.ref w1)] [])
  rw [show ((1 : Int32) + (1 : Int32)) = (2 : Int32) from by decide]
  show own_Go _ _ _ _ T5 (mkF m 37 #[.val (.ref a1), .val (.ref bv), .val (.int (4 : Int32)), .val (.int (2 : Int32)), .val (.ref w1)] [])
  refine own_st (fun _ k => XS.goto X5.here hx rfl (pc0 := 37) (pc' := 9) rfl (hb hby own_d6_37) (by decide) (by decide) k) ?_
  show own_Go _ _ _ _ T5 (mkF m 9 #[.val (.ref a1), .val (.ref bv), .val (.int (4 : Int32)), .val (.int (2 : Int32)), .val (.ref w1)] [])
  refine own_st (fun _ k => XS.iloadN X5.here hx rfl (hb hby own_d6_9) rfl k) ?_
  show own_Go _ _ _ _ T5 (mkF m 10 #[.val (.ref a1), .val (.ref bv), .val (.int (4 : Int32)), .val (.int (2 : Int32)), .val (.ref w1)] [(.int (2 : Int32))])
  refine own_st (fun _ k => XS.iloadN X5.here hx rfl (hb hby own_d6_10) rfl k) ?_
  show own_Go _ _ _ _ T5 (mkF m 11 #[.val (.ref a1), .val (.ref bv), .val (.int (4 : Int32)), .val (.int (2 : Int32)), .val (.ref w1)] [(.int (4 : Int32)), (.int (2 : Int32))])
  refine own_st (fun _ k => XS.icmpNo X5.here hx rfl (hb hby own_d6_11) rfl (tlt (by decide : (2 : Int32) < (4 : Int32))).2.1 k) ?_
  show own_Go _ _ _ _ T5 (mkF m 14 #[.val (.ref a1), .val (.ref bv), .val (.int (4 : Int32)), .val (.int (2 : Int32)), .val (.ref w1)] [])
  refine own_st (fun _ k => XS.aloadN X5.here hx rfl (hb hby own_d6_14) rfl rfl k) ?_
  show own_Go _ _ _ _ T5 (mkF m 15 #[.val (.ref a1), .val (.ref bv), .val (.int (4 : Int32)), .val (.int (2 : Int32)), .val (.ref w1)] [(.ref bv)])
  refine own_st (fun _ k => XS.iloadN X5.here hx rfl (hb hby own_d6_15) rfl k) ?_
  show own_Go _ _ _ _ T5 (mkF m 16 #[.val (.ref a1), .val (.ref bv), .val (.int (4 : Int32)), .val (.int (2 : Int32)), .val (.ref w1)] [(.int (2 : Int32)), (.ref bv)])
  refine own_st (own_ldR X5 hx hZ e5 Vb rfl (j := (2 : Int32)) (by decide) (v := (.ref w2)) rfl (g := (mkF m 16 #[.val (.ref a1), .val (.ref bv), .val (.int (4 : Int32)), .val (.int (2 : Int32)), .val (.ref w1)] [(.int (2 : Int32)), (.ref bv)])) rfl rfl (hb hby own_d6_16)) ?_
  show own_Go _ _ _ _ T5 (mkF m 17 #[.val (.ref a1), .val (.ref bv), .val (.int (4 : Int32)), .val (.int (2 : Int32)), .val (.ref w1)] [(.ref w2)])
  refine own_st (fun _ k => XS.astore X5.here hx rfl (hb hby own_d6_17) rfl rfl (l' := #[.val (.ref a1), .val (.ref bv), .val (.int (4 : Int32)), .val (.int (2 : Int32)), .val (.ref w2)]) rfl k) ?_
  show own_Go _ _ _ _ T5 (mkF m 19 #[.val (.ref a1), .val (.ref bv), .val (.int (4 : Int32)), .val (.int (2 : Int32)), .val (.ref w2)] [])
  refine own_st (fun _ k => XS.aload X5.here hx rfl (hb hby own_d6_19) rfl rfl k) ?_
  show own_Go _ _ _ _ T5 (mkF m 21 #[.val (.ref a1), .val (.ref bv), .val (.int (4 : Int32)), .val (.int (2 : Int32)), .val (.ref w2)] [(.ref w2)])
  obtain ⟨T6, X6, e6, st6⟩ := getF X5 hx hZ hown (host := "") (Or.inl (own_w50 hw)) Via.refl e5 (Fs2.ext O1) (g := (mkF m 21 #[.val (.ref a1), .val (.ref bv), .val (.int (4 : Int32)), .val (.int (2 : Int32)), .val (.ref w2)] [(.ref w2)])) rfl rfl (hb hby own_d6_21)
  refine own_st st6 ?_
  show own_Go _ _ _ _ T6 (mkF m 24 #[.val (.ref a1), .val (.ref bv), .val (.int (4 : Int32)), .val (.int (2 : Int32)), .val (.ref w2)] [(.ref u2)])
  refine own_st (fun _ k => XS.aloadN X6.here hx rfl (hb hby own_d6_24) rfl rfl k) ?_
  show own_Go _ _ _ _ T6 (mkF m 25 #[.val (.ref a1), .val (.ref bv), .val (.int (4 : Int32)), .val (.int (2 : Int32)), .val (.ref w2)] [(.ref a1), (.ref u2)])
  obtain ⟨v7, T7, L7, hQ7, X7, st7⟩ := own_callV X6 hx hZ (y := (⟨"java/lang/String", "equals", "(Ljava/lang/Object;)Z"⟩ : MethodName)) hown (own_w52 hw) (own_w53 hw) (own_w55 hw) (own_w54 hw) (own_w3 hw) (own_w56 hw) (by decide) (own_se l hw [] u2 a1 y2 ba k2 ka (42 : Int32) (47 : Int32) cs T1.heap n0 (Nat.le_trans Z0 O1.1) (Scs.ext O1) hcs dn2 (Ea.ext O1) (Gv2.ext O1) (Gc2.ext O1) (Vy2.ext O1) (Fva.ext O1) (Fca.ext O1) (Va.ext O1)) e6 (Eu2.ext O1) (g := (mkF m 25 #[.val (.ref a1), .val (.ref bv), .val (.int (4 : Int32)), .val (.int (2 : Int32)), .val (.ref w2)] [(.ref a1), (.ref u2)])) rfl (by rw [hml]; rfl) (argsL := [(.ref a1)]) (rest := []) (lenOf own_pd5 rfl) rfl rfl (W := 0) (Nat.le_of_eq rfl) (hb hby own_d6_25) (by decide) (by decide) (by decide) (by decide)
  obtain ⟨rfl, N7, e7⟩ := hQ7
  have N7' := Fr.app N5' N7
  refine own_st st7 ?_
  show own_Go _ _ _ _ T7 (mkF m 28 #[.val (.ref a1), .val (.ref bv), .val (.int (4 : Int32)), .val (.int (2 : Int32)), .val (.ref w2)] [(.int (own_eq1 (42 : Int32) (47 : Int32)))])
  rw [show (own_eq1 (42 : Int32) (47 : Int32)) = (0 : Int32) from by decide]
  show own_Go _ _ _ _ T7 (mkF m 28 #[.val (.ref a1), .val (.ref bv), .val (.int (4 : Int32)), .val (.int (2 : Int32)), .val (.ref w2)] [(.int (0 : Int32))])
  refine own_st (fun _ k => XS.ifYes X7.here hx rfl (pc0 := 28) (pc' := 34) rfl (hb hby own_d6_28) rfl ((if0 _ _).trans (teq (by decide : (0 : Int32) = (0 : Int32))).1) (by decide) (by decide) k) ?_
  show own_Go _ _ _ _ T7 (mkF m 34 #[.val (.ref a1), .val (.ref bv), .val (.int (4 : Int32)), .val (.int (2 : Int32)), .val (.ref w2)] [])
  refine own_st (fun _ k => XS.iinc X7.here hx rfl (hb hby own_d6_34) rfl (l' := #[.val (.ref a1), .val (.ref bv), .val (.int (4 : Int32)), .val (.int ((2 : Int32) + (1 : Int32))), .val (.ref w2)]) rfl k) ?_
  show own_Go _ _ _ _ T7 (mkF m 37 #[.val (.ref a1), .val (.ref bv), .val (.int (4 : Int32)), .val (.int ((2 : Int32) + (1 : Int32))), .val (.ref w2)] [])
  rw [show ((2 : Int32) + (1 : Int32)) = (3 : Int32) from by decide]
  show own_Go _ _ _ _ T7 (mkF m 37 #[.val (.ref a1), .val (.ref bv), .val (.int (4 : Int32)), .val (.int (3 : Int32)), .val (.ref w2)] [])
  refine own_st (fun _ k => XS.goto X7.here hx rfl (pc0 := 37) (pc' := 9) rfl (hb hby own_d6_37) (by decide) (by decide) k) ?_
  show own_Go _ _ _ _ T7 (mkF m 9 #[.val (.ref a1), .val (.ref bv), .val (.int (4 : Int32)), .val (.int (3 : Int32)), .val (.ref w2)] [])
  refine own_st (fun _ k => XS.iloadN X7.here hx rfl (hb hby own_d6_9) rfl k) ?_
  show own_Go _ _ _ _ T7 (mkF m 10 #[.val (.ref a1), .val (.ref bv), .val (.int (4 : Int32)), .val (.int (3 : Int32)), .val (.ref w2)] [(.int (3 : Int32))])
  refine own_st (fun _ k => XS.iloadN X7.here hx rfl (hb hby own_d6_10) rfl k) ?_
  show own_Go _ _ _ _ T7 (mkF m 11 #[.val (.ref a1), .val (.ref bv), .val (.int (4 : Int32)), .val (.int (3 : Int32)), .val (.ref w2)] [(.int (4 : Int32)), (.int (3 : Int32))])
  refine own_st (fun _ k => XS.icmpNo X7.here hx rfl (hb hby own_d6_11) rfl (tlt (by decide : (3 : Int32) < (4 : Int32))).2.1 k) ?_
  show own_Go _ _ _ _ T7 (mkF m 14 #[.val (.ref a1), .val (.ref bv), .val (.int (4 : Int32)), .val (.int (3 : Int32)), .val (.ref w2)] [])
  refine own_st (fun _ k => XS.aloadN X7.here hx rfl (hb hby own_d6_14) rfl rfl k) ?_
  show own_Go _ _ _ _ T7 (mkF m 15 #[.val (.ref a1), .val (.ref bv), .val (.int (4 : Int32)), .val (.int (3 : Int32)), .val (.ref w2)] [(.ref bv)])
  refine own_st (fun _ k => XS.iloadN X7.here hx rfl (hb hby own_d6_15) rfl k) ?_
  show own_Go _ _ _ _ T7 (mkF m 16 #[.val (.ref a1), .val (.ref bv), .val (.int (4 : Int32)), .val (.int (3 : Int32)), .val (.ref w2)] [(.int (3 : Int32)), (.ref bv)])
  refine own_st (own_ldR X7 hx hZ e7 Vb rfl (j := (3 : Int32)) (by decide) (v := (.ref w3)) rfl (g := (mkF m 16 #[.val (.ref a1), .val (.ref bv), .val (.int (4 : Int32)), .val (.int (3 : Int32)), .val (.ref w2)] [(.int (3 : Int32)), (.ref bv)])) rfl rfl (hb hby own_d6_16)) ?_
  show own_Go _ _ _ _ T7 (mkF m 17 #[.val (.ref a1), .val (.ref bv), .val (.int (4 : Int32)), .val (.int (3 : Int32)), .val (.ref w2)] [(.ref w3)])
  refine own_st (fun _ k => XS.astore X7.here hx rfl (hb hby own_d6_17) rfl rfl (l' := #[.val (.ref a1), .val (.ref bv), .val (.int (4 : Int32)), .val (.int (3 : Int32)), .val (.ref w3)]) rfl k) ?_
  show own_Go _ _ _ _ T7 (mkF m 19 #[.val (.ref a1), .val (.ref bv), .val (.int (4 : Int32)), .val (.int (3 : Int32)), .val (.ref w3)] [])
  refine own_st (fun _ k => XS.aload X7.here hx rfl (hb hby own_d6_19) rfl rfl k) ?_
  show own_Go _ _ _ _ T7 (mkF m 21 #[.val (.ref a1), .val (.ref bv), .val (.int (4 : Int32)), .val (.int (3 : Int32)), .val (.ref w3)] [(.ref w3)])
  obtain ⟨T8, X8, e8, st8⟩ := getF X7 hx hZ hown (host := "") (Or.inl (own_w50 hw)) Via.refl e7 (Fs3.ext O1) (g := (mkF m 21 #[.val (.ref a1), .val (.ref bv), .val (.int (4 : Int32)), .val (.int (3 : Int32)), .val (.ref w3)] [(.ref w3)])) rfl rfl (hb hby own_d6_21)
  refine own_st st8 ?_
  show own_Go _ _ _ _ T8 (mkF m 24 #[.val (.ref a1), .val (.ref bv), .val (.int (4 : Int32)), .val (.int (3 : Int32)), .val (.ref w3)] [(.ref u3)])
  refine own_st (fun _ k => XS.aloadN X8.here hx rfl (hb hby own_d6_24) rfl rfl k) ?_
  show own_Go _ _ _ _ T8 (mkF m 25 #[.val (.ref a1), .val (.ref bv), .val (.int (4 : Int32)), .val (.int (3 : Int32)), .val (.ref w3)] [(.ref a1), (.ref u3)])
  obtain ⟨v9, T9, L9, hQ9, X9, st9⟩ := own_callV X8 hx hZ (y := (⟨"java/lang/String", "equals", "(Ljava/lang/Object;)Z"⟩ : MethodName)) hown (own_w52 hw) (own_w53 hw) (own_w55 hw) (own_w54 hw) (own_w3 hw) (own_w56 hw) (by decide) (own_se l hw [] u3 a1 y3 ba k3 ka (47 : Int32) (47 : Int32) cs T1.heap n0 (Nat.le_trans Z0 O1.1) (Scs.ext O1) hcs dn3 (Ea.ext O1) (Gv3.ext O1) (Gc3.ext O1) (Vy3.ext O1) (Fva.ext O1) (Fca.ext O1) (Va.ext O1)) e8 (Eu3.ext O1) (g := (mkF m 25 #[.val (.ref a1), .val (.ref bv), .val (.int (4 : Int32)), .val (.int (3 : Int32)), .val (.ref w3)] [(.ref a1), (.ref u3)])) rfl (by rw [hml]; rfl) (argsL := [(.ref a1)]) (rest := []) (lenOf own_pd5 rfl) rfl rfl (W := 0) (Nat.le_of_eq rfl) (hb hby own_d6_25) (by decide) (by decide) (by decide) (by decide)
  obtain ⟨rfl, N9, e9⟩ := hQ9
  have N9' := Fr.app N7' N9
  refine own_st st9 ?_
  show own_Go _ _ _ _ T9 (mkF m 28 #[.val (.ref a1), .val (.ref bv), .val (.int (4 : Int32)), .val (.int (3 : Int32)), .val (.ref w3)] [(.int (own_eq1 (47 : Int32) (47 : Int32)))])
  rw [show (own_eq1 (47 : Int32) (47 : Int32)) = (1 : Int32) from by decide]
  show own_Go _ _ _ _ T9 (mkF m 28 #[.val (.ref a1), .val (.ref bv), .val (.int (4 : Int32)), .val (.int (3 : Int32)), .val (.ref w3)] [(.int (1 : Int32))])
  refine own_st (fun _ k => XS.ifNo X9.here hx rfl (hb hby own_d6_28) rfl ((if0 _ _).trans (feq (by decide : ¬ ((1 : Int32) = (0 : Int32)))).1) k) ?_
  show own_Go _ _ _ _ T9 (mkF m 31 #[.val (.ref a1), .val (.ref bv), .val (.int (4 : Int32)), .val (.int (3 : Int32)), .val (.ref w3)] [])
  refine own_st (fun _ k => XS.aload X9.here hx rfl (hb hby own_d6_31) rfl rfl k) ?_
  show own_Go _ _ _ _ T9 (mkF m 33 #[.val (.ref a1), .val (.ref bv), .val (.int (4 : Int32)), .val (.int (3 : Int32)), .val (.ref w3)] [(.ref w3)])
  exact own_retA X9 hx hret rfl hlk rfl (hb hby own_d6_33) ⟨rfl, N9', by rw [e9]; exact O1⟩ (by decide) (by decide)
def own_add_Q (Z : State) (a1 w0 w1 : Addr) (h0 : Heap) (n0 : Nat) (v : Option Value) (h : Heap) (L : List Loc) : Prop := v = some (.int (own_addv a1 w0 w1)) ∧ Fr n0 L ∧ h = h0
set_option maxRecDepth 65536 in
set_option maxHeartbeats 40000000 in
theorem own_add (l : Launch) {Z : State} {a0 : Array Value} (hw : own_W Z a0) (ws : List Jvm.Cond) (a1 w0 w1 : Addr) (h0 : Heap) (n0 : Nat) (Z0 : n0 ≤ h0.size) (S0 : Sta Z h0 "holdtrue/Operand$ArithmeticOperator" "ADD" "Lholdtrue/Operand$ArithmeticOperator;" (.ref w0)) (S1 : Sta Z h0 "holdtrue/Operand$ArithmeticOperator" "SUBTRACT" "Lholdtrue/Operand$ArithmeticOperator;" (.ref w1)) :
    MetFree l (⟨"holdtrue/Operand$ArithmeticOperator", "additive", "()Z"⟩ : MethodName) (head1 (Jvm.Cond.code (⟨"holdtrue/Operand$ArithmeticOperator", "additive", "()Z"⟩ : MethodName) prog_55_method_5_code 1 (some .boolean) :: ws) ({ frames := 0, cells := 0, slots := 0, locals := 0 } : Room)) (fun a U => a = #[(.ref a1)] ∧ Z.Warmed39 U.vm ∧ U.heap = h0) (fun _ _ _ _ _ => True) (fun _ U o U' => ∃ v L, o = .returned v ∧ own_add_Q Z a1 w0 w1 h0 n0 v U'.heap L ∧ FrameEnd U o U' L ({ frames := 0, cells := 0, slots := 0, locals := 0 } : Room).cells ({ frames := 0, cells := 0, slots := 0, locals := 0 } : Room).slots) := by
  refine own_enter (C := ({ frames := 0, cells := 0, slots := 0, locals := 0 } : Room).cells) (S := ({ frames := 0, cells := 0, slots := 0, locals := 0 } : Room).slots) (plainFor_of_name own_pn2) ?_
  intro p e s m below meth c T0 X0 I e0
  obtain ⟨hx, hby, hml, hown, hnm, hret, hlk, hZ⟩ := I
  have N0 := Fr.nil n0
  have O0 := own_extr h0
  refine own_cast (own_ef10 m a1) ?_
  show own_Go _ _ _ _ T0 (mkF m 0 #[.val (.ref a1)] [])
  refine own_st (fun _ k => XS.aloadN X0.here hx rfl (hb hby own_d10_0) rfl rfl k) ?_
  show own_Go _ _ _ _ T0 (mkF m 1 #[.val (.ref a1)] [(.ref a1)])
  obtain ⟨T1, X1, e1, st1⟩ := getS2 X0 hx hZ hown (host := "") (Or.inl (own_w65 hw)) Via.refl e0 (S0.ext O0) (g := (mkF m 1 #[.val (.ref a1)] [(.ref a1)])) rfl (hb hby own_d10_1)
  refine own_st st1 ?_
  show own_Go _ _ _ _ T1 (mkF m 4 #[.val (.ref a1)] [(.ref w0), (.ref a1)])
  by_cases ha1 : a1 = w0
  · refine own_st (fun _ k => Jvm.RoadKit.acmp (g := (mkF m 4 #[.val (.ref a1)] [(.ref w0), (.ref a1)])) X1 hx rfl rfl rfl (pc0 := 4) (pc' := 14) (same := true) rfl (hb hby own_d10_4) rfl (decide_eq_true (congrArg Value.ref ha1)) (by decide) (by decide) k) ?_
    show own_Go _ _ _ _ T1 (mkF m 14 #[.val (.ref a1)] [])
    refine own_st (fun _ k => XS.iconst X1.here hx rfl (hb hby own_d10_14) k) ?_
    show own_Go _ _ _ _ T1 (mkF m 15 #[.val (.ref a1)] [(.int (1 : Int32))])
    refine own_st (fun _ k => XS.goto X1.here hx rfl (pc0 := 15) (pc' := 19) rfl (hb hby own_d10_15) (by decide) (by decide) k) ?_
    show own_Go _ _ _ _ T1 (mkF m 19 #[.val (.ref a1)] [(.int (1 : Int32))])
    exact own_retN X1 hx hret (by simp) hlk (hb hby own_d10_19) ⟨by simp [own_addv, nar, *], N0, e1⟩ (by decide) (by decide)
  · refine own_st (fun _ k => Jvm.RoadKit.acmp (g := (mkF m 4 #[.val (.ref a1)] [(.ref w0), (.ref a1)])) X1 hx rfl rfl rfl (pc0 := 4) (pc' := 7) (same := false) rfl (hb hby own_d10_4) rfl (decide_eq_false fun q => ha1 (Value.ref.inj q)) (by decide) (by decide) k) ?_
    show own_Go _ _ _ _ T1 (mkF m 7 #[.val (.ref a1)] [])
    refine own_st (fun _ k => XS.aloadN X1.here hx rfl (hb hby own_d10_7) rfl rfl k) ?_
    show own_Go _ _ _ _ T1 (mkF m 8 #[.val (.ref a1)] [(.ref a1)])
    obtain ⟨T2, X2, e2, st2⟩ := getS2 X1 hx hZ hown (host := "") (Or.inl (own_w66 hw)) Via.refl e1 (S1.ext O0) (g := (mkF m 8 #[.val (.ref a1)] [(.ref a1)])) rfl (hb hby own_d10_8)
    refine own_st st2 ?_
    show own_Go _ _ _ _ T2 (mkF m 11 #[.val (.ref a1)] [(.ref w1), (.ref a1)])
    by_cases ha2 : a1 = w1
    · refine own_st (fun _ k => Jvm.RoadKit.acmp (g := (mkF m 11 #[.val (.ref a1)] [(.ref w1), (.ref a1)])) X2 hx rfl rfl rfl (pc0 := 11) (pc' := 14) (same := true) rfl (hb hby own_d10_11) rfl (decide_eq_true (congrArg Value.ref ha2)) (by decide) (by decide) k) ?_
      show own_Go _ _ _ _ T2 (mkF m 14 #[.val (.ref a1)] [])
      refine own_st (fun _ k => XS.iconst X2.here hx rfl (hb hby own_d10_14) k) ?_
      show own_Go _ _ _ _ T2 (mkF m 15 #[.val (.ref a1)] [(.int (1 : Int32))])
      refine own_st (fun _ k => XS.goto X2.here hx rfl (pc0 := 15) (pc' := 19) rfl (hb hby own_d10_15) (by decide) (by decide) k) ?_
      show own_Go _ _ _ _ T2 (mkF m 19 #[.val (.ref a1)] [(.int (1 : Int32))])
      exact own_retN X2 hx hret (by simp) hlk (hb hby own_d10_19) ⟨by simp [own_addv, nar, *], N0, e2⟩ (by decide) (by decide)
    · refine own_st (fun _ k => Jvm.RoadKit.acmp (g := (mkF m 11 #[.val (.ref a1)] [(.ref w1), (.ref a1)])) X2 hx rfl rfl rfl (pc0 := 11) (pc' := 18) (same := false) rfl (hb hby own_d10_11) rfl (decide_eq_false fun q => ha2 (Value.ref.inj q)) (by decide) (by decide) k) ?_
      show own_Go _ _ _ _ T2 (mkF m 18 #[.val (.ref a1)] [])
      refine own_st (fun _ k => XS.iconst X2.here hx rfl (hb hby own_d10_18) k) ?_
      show own_Go _ _ _ _ T2 (mkF m 19 #[.val (.ref a1)] [(.int (0 : Int32))])
      exact own_retN X2 hx hret (by simp) hlk (hb hby own_d10_19) ⟨by simp [own_addv, nar, *], N0, e2⟩ (by decide) (by decide)
def own_law_Q (Z : State) (p1 : Int32) (wv w0 w1 w2 w3 u0 u1 u2 u3 y0 y1 y2 y3 : Addr) (kv k0 k1 k2 k3 : ClassId) (cs : Int32) (h0 : Heap) (n0 : Nat) (v : Option Value) (h : Heap) (L : List Loc) : Prop := v = some (.int 1) ∧ Fr n0 L
set_option maxRecDepth 65536 in
set_option maxHeartbeats 40000000 in
theorem own_law (l : Launch) {Z : State} {a0 : Array Value} (hw : own_W Z a0) (ws : List Jvm.Cond) (p1 : Int32) (wv w0 w1 w2 w3 u0 u1 u2 u3 y0 y1 y2 y3 : Addr) (kv k0 k1 k2 k3 : ClassId) (cs : Int32) (h0 : Heap) (n0 : Nat) (Z0 : n0 ≤ h0.size) (Scs : Sta Z h0 "java/lang/String" "COMPACT_STRINGS" "Z" (.int cs)) (hcs : ¬ cs = 0) (Sv : Sta Z h0 "holdtrue/Operand$ArithmeticOperator" "$VALUES" "[Lholdtrue/Operand$ArithmeticOperator;" (.ref wv)) (Vv : Arv Z h0 wv kv (.object "holdtrue/Operand$ArithmeticOperator") 4 [(.ref w0), (.ref w1), (.ref w2), (.ref w3)] .null) (Ev : Exa Z h0 wv "[Lholdtrue/Operand$ArithmeticOperator;") (Fs0 : Fld Z h0 w0 "holdtrue/Operand$ArithmeticOperator" "symbol" "Ljava/lang/String;" (.ref u0)) (Eu0 : Exa Z h0 u0 "java/lang/String") (Gv0 : Fld Z h0 u0 "java/lang/String" "value" "[B" (.ref y0)) (Gc0 : Fld Z h0 u0 "java/lang/String" "coder" "B" (.int (0 : Int32))) (Vy0 : Arv Z h0 y0 k0 .byte 1 [(.int (43 : Int32))] (.int (0 : Int32))) (Fs1 : Fld Z h0 w1 "holdtrue/Operand$ArithmeticOperator" "symbol" "Ljava/lang/String;" (.ref u1)) (Eu1 : Exa Z h0 u1 "java/lang/String") (Gv1 : Fld Z h0 u1 "java/lang/String" "value" "[B" (.ref y1)) (Gc1 : Fld Z h0 u1 "java/lang/String" "coder" "B" (.int (0 : Int32))) (Vy1 : Arv Z h0 y1 k1 .byte 1 [(.int (45 : Int32))] (.int (0 : Int32))) (Fs2 : Fld Z h0 w2 "holdtrue/Operand$ArithmeticOperator" "symbol" "Ljava/lang/String;" (.ref u2)) (Eu2 : Exa Z h0 u2 "java/lang/String") (Gv2 : Fld Z h0 u2 "java/lang/String" "value" "[B" (.ref y2)) (Gc2 : Fld Z h0 u2 "java/lang/String" "coder" "B" (.int (0 : Int32))) (Vy2 : Arv Z h0 y2 k2 .byte 1 [(.int (42 : Int32))] (.int (0 : Int32))) (Fs3 : Fld Z h0 w3 "holdtrue/Operand$ArithmeticOperator" "symbol" "Ljava/lang/String;" (.ref u3)) (Eu3 : Exa Z h0 u3 "java/lang/String") (Gv3 : Fld Z h0 u3 "java/lang/String" "value" "[B" (.ref y3)) (Gc3 : Fld Z h0 u3 "java/lang/String" "coder" "B" (.int (0 : Int32))) (Vy3 : Arv Z h0 y3 k3 .byte 1 [(.int (47 : Int32))] (.int (0 : Int32))) (S0 : Sta Z h0 "holdtrue/Operand$ArithmeticOperator" "ADD" "Lholdtrue/Operand$ArithmeticOperator;" (.ref w0)) (S1 : Sta Z h0 "holdtrue/Operand$ArithmeticOperator" "SUBTRACT" "Lholdtrue/Operand$ArithmeticOperator;" (.ref w1)) (E0 : Exa Z h0 w0 "holdtrue/Operand$ArithmeticOperator") (E1 : Exa Z h0 w1 "holdtrue/Operand$ArithmeticOperator") (E2 : Exa Z h0 w2 "holdtrue/Operand$ArithmeticOperator") (E3 : Exa Z h0 w3 "holdtrue/Operand$ArithmeticOperator") (n10 : w1 ≠ w0) (n20 : w2 ≠ w0) (n21 : w2 ≠ w1) (n30 : w3 ≠ w0) (n31 : w3 ≠ w1) (n32 : w3 ≠ w2) :
    MetFree l x (head1 (Jvm.Cond.code x code maxLocals ret :: ws) room_1) (fun a U => a = #[(.int p1)] ∧ Z.Warmed39 U.vm ∧ U.heap = h0) (fun _ _ _ _ _ => True) (fun _ U o U' => ∃ v L, o = .returned v ∧ own_law_Q Z p1 wv w0 w1 w2 w3 u0 u1 u2 u3 y0 y1 y2 y3 kv k0 k1 k2 k3 cs h0 n0 v U'.heap L ∧ FrameEnd U o U' L 16 128) := by
  refine own_enter (C := 16) (S := 128) (plainFor_of_name own_pn3) ?_
  intro p e s m below meth c T0 X0 I e0
  obtain ⟨hx, hby, hml, hown, hnm, hret, hlk, hZ⟩ := I
  have N0 := Fr.nil n0
  have O0 := own_extr h0
  refine own_cast (own_ef0 m p1) ?_
  show own_Go _ _ _ _ T0 (mkF m 0 #[.val (.int p1), .unset, .unset, .unset, .unset] [])
  refine own_st (fun _ k => XS.iconst X0.here hx rfl (hb hby at_0) k) ?_
  show own_Go _ _ _ _ T0 (mkF m 1 #[.val (.int p1), .unset, .unset, .unset, .unset] [(.int (4 : Int32))])
  obtain ⟨T1, hp1, kk1, X1, e1, Et1, A1, st1⟩ := newP X0 hx hZ (aty := .char) (own_w0 hw) e0 (g := (mkF m 1 #[.val (.int p1), .unset, .unset, .unset, .unset] [(.int (4 : Int32))])) rfl (hb hby at_1) rfl (by decide) (cap := 4) (by decide) (by decide) (by decide) (by decide)
  obtain ⟨b1, g1⟩ : ∃ z, z = h0.size := ⟨_, rfl⟩
  rw [← g1] at A1 st1
  have s_b1 : h0.size ≤ b1 := Nat.le_trans O0.1 (Nat.le_of_eq g1.symm)
  have g_b1 : n0 ≤ b1 := Nat.le_trans Z0 s_b1
  have O1 := own_extt O0 Et1
  have Va1 : Arv Z hp1 b1 kk1 .char (4 : Int32) [(.int (0 : Int32)), (.int (0 : Int32)), (.int (0 : Int32)), (.int (0 : Int32))] (.int (0 : Int32)) := (Arv.new A1 (by decide)).pad (pad_rep [] (.int (0 : Int32)) 4)
  refine own_st st1 ?_
  show own_Go _ _ _ _ T1 (mkF m 3 #[.val (.int p1), .unset, .unset, .unset, .unset] [(.ref b1)])
  refine own_st (fun _ k => XS.dup X1.here hx rfl (hb hby at_3) rfl rfl k) ?_
  show own_Go _ _ _ _ T1 (mkF m 4 #[.val (.int p1), .unset, .unset, .unset, .unset] [(.ref b1), (.ref b1)])
  refine own_st (fun _ k => XS.iconst X1.here hx rfl (hb hby at_4) k) ?_
  show own_Go _ _ _ _ T1 (mkF m 5 #[.val (.int p1), .unset, .unset, .unset, .unset] [(.int (0 : Int32)), (.ref b1), (.ref b1)])
  refine own_st (fun _ k => XS.bipush X1.here hx rfl (hb hby at_5) k) ?_
  show own_Go _ _ _ _ T1 (mkF m 7 #[.val (.int p1), .unset, .unset, .unset, .unset] [(.int (43 : Int32)), (.int (0 : Int32)), (.ref b1), (.ref b1)])
  obtain ⟨T2, hp2, X2, e2, W2, Va2, st2⟩ := own_stC X1 hx hZ e1 Va1 (by decide) 0 (by decide) (Nat.le_of_ble_eq_true rfl) (g := (mkF m 7 #[.val (.int p1), .unset, .unset, .unset, .unset] [(.int (43 : Int32)), (.int (0 : Int32)), (.ref b1), (.ref b1)])) rfl rfl (hb hby at_7)
  have O2 := own_extw O1 W2 s_b1
  have Va2 : Arv Z hp2 b1 kk1 .char (4 : Int32) [(.int (43 : Int32)), (.int (0 : Int32)), (.int (0 : Int32)), (.int (0 : Int32))] (.int (0 : Int32)) := Va2
  have N2 := Fr.snoc X2 N0 g_b1
  refine own_st st2 ?_
  show own_Go _ _ _ _ T2 (mkF m 8 #[.val (.int p1), .unset, .unset, .unset, .unset] [(.ref b1)])
  refine own_st (fun _ k => XS.dup X2.here hx rfl (hb hby at_8) rfl rfl k) ?_
  show own_Go _ _ _ _ T2 (mkF m 9 #[.val (.int p1), .unset, .unset, .unset, .unset] [(.ref b1), (.ref b1)])
  refine own_st (fun _ k => XS.iconst X2.here hx rfl (hb hby at_9) k) ?_
  show own_Go _ _ _ _ T2 (mkF m 10 #[.val (.int p1), .unset, .unset, .unset, .unset] [(.int (1 : Int32)), (.ref b1), (.ref b1)])
  refine own_st (fun _ k => XS.bipush X2.here hx rfl (hb hby at_10) k) ?_
  show own_Go _ _ _ _ T2 (mkF m 12 #[.val (.int p1), .unset, .unset, .unset, .unset] [(.int (45 : Int32)), (.int (1 : Int32)), (.ref b1), (.ref b1)])
  obtain ⟨T3, hp3, X3, e3, W3, Va3, st3⟩ := own_stC X2 hx hZ e2 Va2 (by decide) 1 (by decide) (Nat.le_of_ble_eq_true rfl) (g := (mkF m 12 #[.val (.int p1), .unset, .unset, .unset, .unset] [(.int (45 : Int32)), (.int (1 : Int32)), (.ref b1), (.ref b1)])) rfl rfl (hb hby at_12)
  have O3 := own_extw O2 W3 s_b1
  have Va3 : Arv Z hp3 b1 kk1 .char (4 : Int32) [(.int (43 : Int32)), (.int (45 : Int32)), (.int (0 : Int32)), (.int (0 : Int32))] (.int (0 : Int32)) := Va3
  have N3 := Fr.snoc X3 N2 g_b1
  refine own_st st3 ?_
  show own_Go _ _ _ _ T3 (mkF m 13 #[.val (.int p1), .unset, .unset, .unset, .unset] [(.ref b1)])
  refine own_st (fun _ k => XS.dup X3.here hx rfl (hb hby at_13) rfl rfl k) ?_
  show own_Go _ _ _ _ T3 (mkF m 14 #[.val (.int p1), .unset, .unset, .unset, .unset] [(.ref b1), (.ref b1)])
  refine own_st (fun _ k => XS.iconst X3.here hx rfl (hb hby at_14) k) ?_
  show own_Go _ _ _ _ T3 (mkF m 15 #[.val (.int p1), .unset, .unset, .unset, .unset] [(.int (2 : Int32)), (.ref b1), (.ref b1)])
  refine own_st (fun _ k => XS.bipush X3.here hx rfl (hb hby at_15) k) ?_
  show own_Go _ _ _ _ T3 (mkF m 17 #[.val (.int p1), .unset, .unset, .unset, .unset] [(.int (42 : Int32)), (.int (2 : Int32)), (.ref b1), (.ref b1)])
  obtain ⟨T4, hp4, X4, e4, W4, Va4, st4⟩ := own_stC X3 hx hZ e3 Va3 (by decide) 2 (by decide) (Nat.le_of_ble_eq_true rfl) (g := (mkF m 17 #[.val (.int p1), .unset, .unset, .unset, .unset] [(.int (42 : Int32)), (.int (2 : Int32)), (.ref b1), (.ref b1)])) rfl rfl (hb hby at_17)
  have O4 := own_extw O3 W4 s_b1
  have Va4 : Arv Z hp4 b1 kk1 .char (4 : Int32) [(.int (43 : Int32)), (.int (45 : Int32)), (.int (42 : Int32)), (.int (0 : Int32))] (.int (0 : Int32)) := Va4
  have N4 := Fr.snoc X4 N3 g_b1
  refine own_st st4 ?_
  show own_Go _ _ _ _ T4 (mkF m 18 #[.val (.int p1), .unset, .unset, .unset, .unset] [(.ref b1)])
  refine own_st (fun _ k => XS.dup X4.here hx rfl (hb hby at_18) rfl rfl k) ?_
  show own_Go _ _ _ _ T4 (mkF m 19 #[.val (.int p1), .unset, .unset, .unset, .unset] [(.ref b1), (.ref b1)])
  refine own_st (fun _ k => XS.iconst X4.here hx rfl (hb hby at_19) k) ?_
  show own_Go _ _ _ _ T4 (mkF m 20 #[.val (.int p1), .unset, .unset, .unset, .unset] [(.int (3 : Int32)), (.ref b1), (.ref b1)])
  refine own_st (fun _ k => XS.bipush X4.here hx rfl (hb hby at_20) k) ?_
  show own_Go _ _ _ _ T4 (mkF m 22 #[.val (.int p1), .unset, .unset, .unset, .unset] [(.int (47 : Int32)), (.int (3 : Int32)), (.ref b1), (.ref b1)])
  obtain ⟨T5, hp5, X5, e5, W5, Va5, st5⟩ := own_stC X4 hx hZ e4 Va4 (by decide) 3 (by decide) (Nat.le_of_ble_eq_true rfl) (g := (mkF m 22 #[.val (.int p1), .unset, .unset, .unset, .unset] [(.int (47 : Int32)), (.int (3 : Int32)), (.ref b1), (.ref b1)])) rfl rfl (hb hby at_22)
  have O5 := own_extw O4 W5 s_b1
  have Va5 : Arv Z hp5 b1 kk1 .char (4 : Int32) [(.int (43 : Int32)), (.int (45 : Int32)), (.int (42 : Int32)), (.int (47 : Int32))] (.int (0 : Int32)) := Va5
  have N5 := Fr.snoc X5 N4 g_b1
  refine own_st st5 ?_
  show own_Go _ _ _ _ T5 (mkF m 23 #[.val (.int p1), .unset, .unset, .unset, .unset] [(.ref b1)])
  refine own_st (fun _ k => XS.astoreN X5.here hx rfl (hb hby at_23) rfl rfl (l' := #[.val (.int p1), .val (.ref b1), .unset, .unset, .unset]) rfl k) ?_
  show own_Go _ _ _ _ T5 (mkF m 24 #[.val (.int p1), .val (.ref b1), .unset, .unset, .unset] [])
  refine own_st (fun _ k => XS.aloadN X5.here hx rfl (hb hby at_24) rfl rfl k) ?_
  show own_Go _ _ _ _ T5 (mkF m 25 #[.val (.int p1), .val (.ref b1), .unset, .unset, .unset] [(.ref b1)])
  refine own_st (fun _ k => XS.iloadN X5.here hx rfl (hb hby at_25) rfl k) ?_
  show own_Go _ _ _ _ T5 (mkF m 26 #[.val (.int p1), .val (.ref b1), .unset, .unset, .unset] [(.int p1), (.ref b1)])
  refine own_st (fun _ k => XS.iconst X5.here hx rfl (hb hby at_26) k) ?_
  show own_Go _ _ _ _ T5 (mkF m 27 #[.val (.int p1), .val (.ref b1), .unset, .unset, .unset] [(.int (3 : Int32)), (.int p1), (.ref b1)])
  refine own_st (fun _ k => XS.iand X5.here hx rfl (hb hby at_27) rfl k) ?_
  show own_Go _ _ _ _ T5 (mkF m 28 #[.val (.int p1), .val (.ref b1), .unset, .unset, .unset] [(.int (p1 &&& (3 : Int32))), (.ref b1)])
  rcases own_and3 p1 with ha | ha | ha | ha
  · rw [ha]
    show own_Go _ _ _ _ T5 (mkF m 28 #[.val (.int p1), .val (.ref b1), .unset, .unset, .unset] [(.int (0 : Int32)), (.ref b1)])
    refine own_st (own_ldC X5 hx hZ e5 Va5 (j := (0 : Int32)) (by decide) (v := (.int (43 : Int32))) rfl (g := (mkF m 28 #[.val (.int p1), .val (.ref b1), .unset, .unset, .unset] [(.int (0 : Int32)), (.ref b1)])) rfl rfl (hb hby at_28)) ?_
    show own_Go _ _ _ _ T5 (mkF m 29 #[.val (.int p1), .val (.ref b1), .unset, .unset, .unset] [(.int (43 : Int32))])
    refine own_st (fun _ k => XS.istoreN X5.here hx rfl (hb hby at_29) rfl (l' := #[.val (.int p1), .val (.ref b1), .val (.int (43 : Int32)), .unset, .unset]) rfl k) ?_
    show own_Go _ _ _ _ T5 (mkF m 30 #[.val (.int p1), .val (.ref b1), .val (.int (43 : Int32)), .unset, .unset] [])
    refine own_st (fun _ k => XS.iloadN X5.here hx rfl (hb hby at_30) rfl k) ?_
    show own_Go _ _ _ _ T5 (mkF m 31 #[.val (.int p1), .val (.ref b1), .val (.int (43 : Int32)), .unset, .unset] [(.int (43 : Int32))])
    obtain ⟨v6, T6, L6, hQ6, X6, st6⟩ := own_callS X5 hx hZ (y := (⟨"java/lang/String", "valueOf", "(C)Ljava/lang/String;"⟩ : MethodName)) hown (own_w1 hw) (own_w2 hw) (own_w3 hw) (own_w4 hw) (by decide) (own_vo43 l hw [] (43 : Int32) cs hp5 n0 (Nat.le_trans Z0 O5.1) rfl (Scs.ext O5) hcs) e5 (g := (mkF m 31 #[.val (.int p1), .val (.ref b1), .val (.int (43 : Int32)), .unset, .unset] [(.int (43 : Int32))])) rfl (by rw [hml]; rfl) (argsL := [(.int (43 : Int32))]) (rest := []) (lenOf own_pd6 rfl) rfl rfl (W := 0) (Nat.le_of_eq rfl) (hb hby at_31) (by decide) (by decide) (by decide) (by decide)
    obtain ⟨bs, bsv, ks, rfl, N6, Et6, sb, Eb, Fvb, Fcb, Vsb⟩ := hQ6
    have dn0 : ¬ u0 = bs := fun e => absurd (e ▸ (Eu0.ext O5).lt) (Nat.not_lt.mpr sb)
    have dn1 : ¬ u1 = bs := fun e => absurd (e ▸ (Eu1.ext O5).lt) (Nat.not_lt.mpr sb)
    have dn2 : ¬ u2 = bs := fun e => absurd (e ▸ (Eu2.ext O5).lt) (Nat.not_lt.mpr sb)
    have dn3 : ¬ u3 = bs := fun e => absurd (e ▸ (Eu3.ext O5).lt) (Nat.not_lt.mpr sb)
    have O6 := own_extt O5 Et6
    have V_b1_6 := Va5.ext Et6
    have N6' := Fr.app N5 N6
    refine own_st st6 ?_
    show own_Go _ _ _ _ T6 (mkF m 34 #[.val (.int p1), .val (.ref b1), .val (.int (43 : Int32)), .unset, .unset] [(.ref bs)])
    obtain ⟨v7, T7, L7, hQ7, X7, st7⟩ := own_callS X6 hx hZ (y := (⟨"holdtrue/Operand$ArithmeticOperator", "of", "(Ljava/lang/String;)Lholdtrue/Operand$ArithmeticOperator;"⟩ : MethodName)) hown (own_w27 hw) (own_w28 hw) (own_w29 hw) (own_w30 hw) (by decide) (own_of43 l hw [] bs bsv ks wv w0 w1 w2 w3 u0 u1 u2 u3 y0 y1 y2 y3 kv k0 k1 k2 k3 cs T6.heap n0 (Nat.le_trans Z0 O6.1) (Scs.ext O6) hcs (Sv.ext O6) (Vv.ext O6) (Ev.ext O6) (Fs0.ext O6) (Eu0.ext O6) (Gv0.ext O6) (Gc0.ext O6) (Vy0.ext O6) (Fs1.ext O6) (Eu1.ext O6) (Gv1.ext O6) (Gc1.ext O6) (Vy1.ext O6) (Fs2.ext O6) (Eu2.ext O6) (Gv2.ext O6) (Gc2.ext O6) (Vy2.ext O6) (Fs3.ext O6) (Eu3.ext O6) (Gv3.ext O6) (Gc3.ext O6) (Vy3.ext O6) dn0 dn1 dn2 dn3 Eb Fvb Fcb Vsb) rfl (g := (mkF m 34 #[.val (.int p1), .val (.ref b1), .val (.int (43 : Int32)), .unset, .unset] [(.ref bs)])) rfl (by rw [hml]; rfl) (argsL := [(.ref bs)]) (rest := []) (lenOf own_pd7 rfl) rfl rfl (W := 0) (Nat.le_of_eq rfl) (hb hby at_34) (by decide) (by decide) (by decide) (by decide)
    obtain ⟨rfl, N7, Et7⟩ := hQ7
    have O7 := own_extt O6 Et7
    have V_b1_7 := V_b1_6.ext Et7
    have Ex_bs_7 := Eb.ext Et7
    have N7' := Fr.app N6' N7
    refine own_st st7 ?_
    show own_Go _ _ _ _ T7 (mkF m 37 #[.val (.int p1), .val (.ref b1), .val (.int (43 : Int32)), .unset, .unset] [(.ref w0)])
    refine own_st (fun _ k => XS.astoreN X7.here hx rfl (hb hby at_37) rfl rfl (l' := #[.val (.int p1), .val (.ref b1), .val (.int (43 : Int32)), .val (.ref w0), .unset]) rfl k) ?_
    show own_Go _ _ _ _ T7 (mkF m 38 #[.val (.int p1), .val (.ref b1), .val (.int (43 : Int32)), .val (.ref w0), .unset] [])
    refine own_st (fun _ k => XS.aloadN X7.here hx rfl (hb hby at_38) rfl rfl k) ?_
    show own_Go _ _ _ _ T7 (mkF m 39 #[.val (.int p1), .val (.ref b1), .val (.int (43 : Int32)), .val (.ref w0), .unset] [(.ref w0)])
    refine own_st (fun _ k => XS.ifnonnullYes X7.here hx rfl (pc0 := 39) (pc' := 44) rfl (hb hby at_39) rfl (by decide) (by decide) k) ?_
    show own_Go _ _ _ _ T7 (mkF m 44 #[.val (.int p1), .val (.ref b1), .val (.int (43 : Int32)), .val (.ref w0), .unset] [])
    refine own_st (fun _ k => XS.iloadN X7.here hx rfl (hb hby at_44) rfl k) ?_
    show own_Go _ _ _ _ T7 (mkF m 45 #[.val (.int p1), .val (.ref b1), .val (.int (43 : Int32)), .val (.ref w0), .unset] [(.int (43 : Int32))])
    refine own_st (fun _ k => XS.bipush X7.here hx rfl (hb hby at_45) k) ?_
    show own_Go _ _ _ _ T7 (mkF m 47 #[.val (.int p1), .val (.ref b1), .val (.int (43 : Int32)), .val (.ref w0), .unset] [(.int (43 : Int32)), (.int (43 : Int32))])
    refine own_st (fun _ k => XS.icmpYes X7.here hx rfl (pc0 := 47) (pc' := 56) rfl (hb hby at_47) rfl (teq (by decide : (43 : Int32) = (43 : Int32))).1 (by decide) (by decide) k) ?_
    show own_Go _ _ _ _ T7 (mkF m 56 #[.val (.int p1), .val (.ref b1), .val (.int (43 : Int32)), .val (.ref w0), .unset] [])
    refine own_st (fun _ k => XS.iconst X7.here hx rfl (hb hby at_56) k) ?_
    show own_Go _ _ _ _ T7 (mkF m 57 #[.val (.int p1), .val (.ref b1), .val (.int (43 : Int32)), .val (.ref w0), .unset] [(.int (1 : Int32))])
    refine own_st (fun _ k => XS.goto X7.here hx rfl (pc0 := 57) (pc' := 61) rfl (hb hby at_57) (by decide) (by decide) k) ?_
    show own_Go _ _ _ _ T7 (mkF m 61 #[.val (.int p1), .val (.ref b1), .val (.int (43 : Int32)), .val (.ref w0), .unset] [(.int (1 : Int32))])
    refine own_st (fun _ k => XS.istore X7.here hx rfl (hb hby at_61) rfl (l' := #[.val (.int p1), .val (.ref b1), .val (.int (43 : Int32)), .val (.ref w0), .val (.int (1 : Int32))]) rfl k) ?_
    show own_Go _ _ _ _ T7 (mkF m 63 #[.val (.int p1), .val (.ref b1), .val (.int (43 : Int32)), .val (.ref w0), .val (.int (1 : Int32))] [])
    refine own_st (fun _ k => XS.aloadN X7.here hx rfl (hb hby at_63) rfl rfl k) ?_
    show own_Go _ _ _ _ T7 (mkF m 64 #[.val (.int p1), .val (.ref b1), .val (.int (43 : Int32)), .val (.ref w0), .val (.int (1 : Int32))] [(.ref w0)])
    obtain ⟨v8, T8, L8, hQ8, X8, st8⟩ := own_callV X7 hx hZ (y := (⟨"holdtrue/Operand$ArithmeticOperator", "additive", "()Z"⟩ : MethodName)) hown (own_w60 hw) (own_w61 hw) (own_w63 hw) (own_w62 hw) (own_w29 hw) (own_w64 hw) (by decide) (own_add l hw [] w0 w0 w1 T7.heap n0 (Nat.le_trans Z0 O7.1) (S0.ext O7) (S1.ext O7)) rfl (E0.ext O7) (g := (mkF m 64 #[.val (.int p1), .val (.ref b1), .val (.int (43 : Int32)), .val (.ref w0), .val (.int (1 : Int32))] [(.ref w0)])) rfl (by rw [hml]; rfl) (argsL := []) (rest := []) (lenOf own_pd8 rfl) rfl rfl (W := 0) (Nat.le_of_eq rfl) (hb hby at_64) (by decide) (by decide) (by decide) (by decide)
    obtain ⟨rfl, N8, e8⟩ := hQ8
    have N8' := Fr.app N7' N8
    refine own_st st8 ?_
    show own_Go _ _ _ _ T8 (mkF m 67 #[.val (.int p1), .val (.ref b1), .val (.int (43 : Int32)), .val (.ref w0), .val (.int (1 : Int32))] [(.int (own_addv w0 w0 w1))])
    refine own_st (fun _ k => XS.iload X8.here hx rfl (hb hby at_67) rfl k) ?_
    show own_Go _ _ _ _ T8 (mkF m 69 #[.val (.int p1), .val (.ref b1), .val (.int (43 : Int32)), .val (.ref w0), .val (.int (1 : Int32))] [(.int (1 : Int32)), (.int (own_addv w0 w0 w1))])
    refine own_st (fun _ k => XS.icmpNo X8.here hx rfl (hb hby at_69) rfl (teq (by simp [own_addv, n10, n10.symm, n20, n20.symm, n21, n21.symm, n30, n30.symm, n31, n31.symm, n32, n32.symm] : (own_addv w0 w0 w1) = (1 : Int32))).2 k) ?_
    show own_Go _ _ _ _ T8 (mkF m 72 #[.val (.int p1), .val (.ref b1), .val (.int (43 : Int32)), .val (.ref w0), .val (.int (1 : Int32))] [])
    refine own_st (fun _ k => XS.iconst X8.here hx rfl (hb hby at_72) k) ?_
    show own_Go _ _ _ _ T8 (mkF m 73 #[.val (.int p1), .val (.ref b1), .val (.int (43 : Int32)), .val (.ref w0), .val (.int (1 : Int32))] [(.int (1 : Int32))])
    refine own_st (fun _ k => XS.goto X8.here hx rfl (pc0 := 73) (pc' := 77) rfl (hb hby at_73) (by decide) (by decide) k) ?_
    show own_Go _ _ _ _ T8 (mkF m 77 #[.val (.int p1), .val (.ref b1), .val (.int (43 : Int32)), .val (.ref w0), .val (.int (1 : Int32))] [(.int (1 : Int32))])
    exact own_retN X8 hx hret (by simp) hlk (hb hby at_77) ⟨rfl, N8'⟩ (by decide) (by decide)
  · rw [ha]
    show own_Go _ _ _ _ T5 (mkF m 28 #[.val (.int p1), .val (.ref b1), .unset, .unset, .unset] [(.int (1 : Int32)), (.ref b1)])
    refine own_st (own_ldC X5 hx hZ e5 Va5 (j := (1 : Int32)) (by decide) (v := (.int (45 : Int32))) rfl (g := (mkF m 28 #[.val (.int p1), .val (.ref b1), .unset, .unset, .unset] [(.int (1 : Int32)), (.ref b1)])) rfl rfl (hb hby at_28)) ?_
    show own_Go _ _ _ _ T5 (mkF m 29 #[.val (.int p1), .val (.ref b1), .unset, .unset, .unset] [(.int (45 : Int32))])
    refine own_st (fun _ k => XS.istoreN X5.here hx rfl (hb hby at_29) rfl (l' := #[.val (.int p1), .val (.ref b1), .val (.int (45 : Int32)), .unset, .unset]) rfl k) ?_
    show own_Go _ _ _ _ T5 (mkF m 30 #[.val (.int p1), .val (.ref b1), .val (.int (45 : Int32)), .unset, .unset] [])
    refine own_st (fun _ k => XS.iloadN X5.here hx rfl (hb hby at_30) rfl k) ?_
    show own_Go _ _ _ _ T5 (mkF m 31 #[.val (.int p1), .val (.ref b1), .val (.int (45 : Int32)), .unset, .unset] [(.int (45 : Int32))])
    obtain ⟨v9, T9, L9, hQ9, X9, st9⟩ := own_callS X5 hx hZ (y := (⟨"java/lang/String", "valueOf", "(C)Ljava/lang/String;"⟩ : MethodName)) hown (own_w1 hw) (own_w2 hw) (own_w3 hw) (own_w4 hw) (by decide) (own_vo45 l hw [] (45 : Int32) cs hp5 n0 (Nat.le_trans Z0 O5.1) rfl (Scs.ext O5) hcs) e5 (g := (mkF m 31 #[.val (.int p1), .val (.ref b1), .val (.int (45 : Int32)), .unset, .unset] [(.int (45 : Int32))])) rfl (by rw [hml]; rfl) (argsL := [(.int (45 : Int32))]) (rest := []) (lenOf own_pd6 rfl) rfl rfl (W := 0) (Nat.le_of_eq rfl) (hb hby at_31) (by decide) (by decide) (by decide) (by decide)
    obtain ⟨bs, bsv, ks, rfl, N9, Et9, sb, Eb, Fvb, Fcb, Vsb⟩ := hQ9
    have dn0 : ¬ u0 = bs := fun e => absurd (e ▸ (Eu0.ext O5).lt) (Nat.not_lt.mpr sb)
    have dn1 : ¬ u1 = bs := fun e => absurd (e ▸ (Eu1.ext O5).lt) (Nat.not_lt.mpr sb)
    have dn2 : ¬ u2 = bs := fun e => absurd (e ▸ (Eu2.ext O5).lt) (Nat.not_lt.mpr sb)
    have dn3 : ¬ u3 = bs := fun e => absurd (e ▸ (Eu3.ext O5).lt) (Nat.not_lt.mpr sb)
    have O9 := own_extt O5 Et9
    have V_b1_9 := Va5.ext Et9
    have N9' := Fr.app N5 N9
    refine own_st st9 ?_
    show own_Go _ _ _ _ T9 (mkF m 34 #[.val (.int p1), .val (.ref b1), .val (.int (45 : Int32)), .unset, .unset] [(.ref bs)])
    obtain ⟨v10, T10, L10, hQ10, X10, st10⟩ := own_callS X9 hx hZ (y := (⟨"holdtrue/Operand$ArithmeticOperator", "of", "(Ljava/lang/String;)Lholdtrue/Operand$ArithmeticOperator;"⟩ : MethodName)) hown (own_w27 hw) (own_w28 hw) (own_w29 hw) (own_w30 hw) (by decide) (own_of45 l hw [] bs bsv ks wv w0 w1 w2 w3 u0 u1 u2 u3 y0 y1 y2 y3 kv k0 k1 k2 k3 cs T9.heap n0 (Nat.le_trans Z0 O9.1) (Scs.ext O9) hcs (Sv.ext O9) (Vv.ext O9) (Ev.ext O9) (Fs0.ext O9) (Eu0.ext O9) (Gv0.ext O9) (Gc0.ext O9) (Vy0.ext O9) (Fs1.ext O9) (Eu1.ext O9) (Gv1.ext O9) (Gc1.ext O9) (Vy1.ext O9) (Fs2.ext O9) (Eu2.ext O9) (Gv2.ext O9) (Gc2.ext O9) (Vy2.ext O9) (Fs3.ext O9) (Eu3.ext O9) (Gv3.ext O9) (Gc3.ext O9) (Vy3.ext O9) dn0 dn1 dn2 dn3 Eb Fvb Fcb Vsb) rfl (g := (mkF m 34 #[.val (.int p1), .val (.ref b1), .val (.int (45 : Int32)), .unset, .unset] [(.ref bs)])) rfl (by rw [hml]; rfl) (argsL := [(.ref bs)]) (rest := []) (lenOf own_pd7 rfl) rfl rfl (W := 0) (Nat.le_of_eq rfl) (hb hby at_34) (by decide) (by decide) (by decide) (by decide)
    obtain ⟨rfl, N10, Et10⟩ := hQ10
    have O10 := own_extt O9 Et10
    have V_b1_10 := V_b1_9.ext Et10
    have Ex_bs_10 := Eb.ext Et10
    have N10' := Fr.app N9' N10
    refine own_st st10 ?_
    show own_Go _ _ _ _ T10 (mkF m 37 #[.val (.int p1), .val (.ref b1), .val (.int (45 : Int32)), .unset, .unset] [(.ref w1)])
    refine own_st (fun _ k => XS.astoreN X10.here hx rfl (hb hby at_37) rfl rfl (l' := #[.val (.int p1), .val (.ref b1), .val (.int (45 : Int32)), .val (.ref w1), .unset]) rfl k) ?_
    show own_Go _ _ _ _ T10 (mkF m 38 #[.val (.int p1), .val (.ref b1), .val (.int (45 : Int32)), .val (.ref w1), .unset] [])
    refine own_st (fun _ k => XS.aloadN X10.here hx rfl (hb hby at_38) rfl rfl k) ?_
    show own_Go _ _ _ _ T10 (mkF m 39 #[.val (.int p1), .val (.ref b1), .val (.int (45 : Int32)), .val (.ref w1), .unset] [(.ref w1)])
    refine own_st (fun _ k => XS.ifnonnullYes X10.here hx rfl (pc0 := 39) (pc' := 44) rfl (hb hby at_39) rfl (by decide) (by decide) k) ?_
    show own_Go _ _ _ _ T10 (mkF m 44 #[.val (.int p1), .val (.ref b1), .val (.int (45 : Int32)), .val (.ref w1), .unset] [])
    refine own_st (fun _ k => XS.iloadN X10.here hx rfl (hb hby at_44) rfl k) ?_
    show own_Go _ _ _ _ T10 (mkF m 45 #[.val (.int p1), .val (.ref b1), .val (.int (45 : Int32)), .val (.ref w1), .unset] [(.int (45 : Int32))])
    refine own_st (fun _ k => XS.bipush X10.here hx rfl (hb hby at_45) k) ?_
    show own_Go _ _ _ _ T10 (mkF m 47 #[.val (.int p1), .val (.ref b1), .val (.int (45 : Int32)), .val (.ref w1), .unset] [(.int (43 : Int32)), (.int (45 : Int32))])
    refine own_st (fun _ k => XS.icmpNo X10.here hx rfl (hb hby at_47) rfl (feq (by decide : ¬ ((45 : Int32) = (43 : Int32)))).1 k) ?_
    show own_Go _ _ _ _ T10 (mkF m 50 #[.val (.int p1), .val (.ref b1), .val (.int (45 : Int32)), .val (.ref w1), .unset] [])
    refine own_st (fun _ k => XS.iloadN X10.here hx rfl (hb hby at_50) rfl k) ?_
    show own_Go _ _ _ _ T10 (mkF m 51 #[.val (.int p1), .val (.ref b1), .val (.int (45 : Int32)), .val (.ref w1), .unset] [(.int (45 : Int32))])
    refine own_st (fun _ k => XS.bipush X10.here hx rfl (hb hby at_51) k) ?_
    show own_Go _ _ _ _ T10 (mkF m 53 #[.val (.int p1), .val (.ref b1), .val (.int (45 : Int32)), .val (.ref w1), .unset] [(.int (45 : Int32)), (.int (45 : Int32))])
    refine own_st (fun _ k => XS.icmpNo X10.here hx rfl (hb hby at_53) rfl (teq (by decide : (45 : Int32) = (45 : Int32))).2 k) ?_
    show own_Go _ _ _ _ T10 (mkF m 56 #[.val (.int p1), .val (.ref b1), .val (.int (45 : Int32)), .val (.ref w1), .unset] [])
    refine own_st (fun _ k => XS.iconst X10.here hx rfl (hb hby at_56) k) ?_
    show own_Go _ _ _ _ T10 (mkF m 57 #[.val (.int p1), .val (.ref b1), .val (.int (45 : Int32)), .val (.ref w1), .unset] [(.int (1 : Int32))])
    refine own_st (fun _ k => XS.goto X10.here hx rfl (pc0 := 57) (pc' := 61) rfl (hb hby at_57) (by decide) (by decide) k) ?_
    show own_Go _ _ _ _ T10 (mkF m 61 #[.val (.int p1), .val (.ref b1), .val (.int (45 : Int32)), .val (.ref w1), .unset] [(.int (1 : Int32))])
    refine own_st (fun _ k => XS.istore X10.here hx rfl (hb hby at_61) rfl (l' := #[.val (.int p1), .val (.ref b1), .val (.int (45 : Int32)), .val (.ref w1), .val (.int (1 : Int32))]) rfl k) ?_
    show own_Go _ _ _ _ T10 (mkF m 63 #[.val (.int p1), .val (.ref b1), .val (.int (45 : Int32)), .val (.ref w1), .val (.int (1 : Int32))] [])
    refine own_st (fun _ k => XS.aloadN X10.here hx rfl (hb hby at_63) rfl rfl k) ?_
    show own_Go _ _ _ _ T10 (mkF m 64 #[.val (.int p1), .val (.ref b1), .val (.int (45 : Int32)), .val (.ref w1), .val (.int (1 : Int32))] [(.ref w1)])
    obtain ⟨v11, T11, L11, hQ11, X11, st11⟩ := own_callV X10 hx hZ (y := (⟨"holdtrue/Operand$ArithmeticOperator", "additive", "()Z"⟩ : MethodName)) hown (own_w60 hw) (own_w61 hw) (own_w63 hw) (own_w62 hw) (own_w29 hw) (own_w64 hw) (by decide) (own_add l hw [] w1 w0 w1 T10.heap n0 (Nat.le_trans Z0 O10.1) (S0.ext O10) (S1.ext O10)) rfl (E1.ext O10) (g := (mkF m 64 #[.val (.int p1), .val (.ref b1), .val (.int (45 : Int32)), .val (.ref w1), .val (.int (1 : Int32))] [(.ref w1)])) rfl (by rw [hml]; rfl) (argsL := []) (rest := []) (lenOf own_pd8 rfl) rfl rfl (W := 0) (Nat.le_of_eq rfl) (hb hby at_64) (by decide) (by decide) (by decide) (by decide)
    obtain ⟨rfl, N11, e11⟩ := hQ11
    have N11' := Fr.app N10' N11
    refine own_st st11 ?_
    show own_Go _ _ _ _ T11 (mkF m 67 #[.val (.int p1), .val (.ref b1), .val (.int (45 : Int32)), .val (.ref w1), .val (.int (1 : Int32))] [(.int (own_addv w1 w0 w1))])
    refine own_st (fun _ k => XS.iload X11.here hx rfl (hb hby at_67) rfl k) ?_
    show own_Go _ _ _ _ T11 (mkF m 69 #[.val (.int p1), .val (.ref b1), .val (.int (45 : Int32)), .val (.ref w1), .val (.int (1 : Int32))] [(.int (1 : Int32)), (.int (own_addv w1 w0 w1))])
    refine own_st (fun _ k => XS.icmpNo X11.here hx rfl (hb hby at_69) rfl (teq (by simp [own_addv, n10, n10.symm, n20, n20.symm, n21, n21.symm, n30, n30.symm, n31, n31.symm, n32, n32.symm] : (own_addv w1 w0 w1) = (1 : Int32))).2 k) ?_
    show own_Go _ _ _ _ T11 (mkF m 72 #[.val (.int p1), .val (.ref b1), .val (.int (45 : Int32)), .val (.ref w1), .val (.int (1 : Int32))] [])
    refine own_st (fun _ k => XS.iconst X11.here hx rfl (hb hby at_72) k) ?_
    show own_Go _ _ _ _ T11 (mkF m 73 #[.val (.int p1), .val (.ref b1), .val (.int (45 : Int32)), .val (.ref w1), .val (.int (1 : Int32))] [(.int (1 : Int32))])
    refine own_st (fun _ k => XS.goto X11.here hx rfl (pc0 := 73) (pc' := 77) rfl (hb hby at_73) (by decide) (by decide) k) ?_
    show own_Go _ _ _ _ T11 (mkF m 77 #[.val (.int p1), .val (.ref b1), .val (.int (45 : Int32)), .val (.ref w1), .val (.int (1 : Int32))] [(.int (1 : Int32))])
    exact own_retN X11 hx hret (by simp) hlk (hb hby at_77) ⟨rfl, N11'⟩ (by decide) (by decide)
  · rw [ha]
    show own_Go _ _ _ _ T5 (mkF m 28 #[.val (.int p1), .val (.ref b1), .unset, .unset, .unset] [(.int (2 : Int32)), (.ref b1)])
    refine own_st (own_ldC X5 hx hZ e5 Va5 (j := (2 : Int32)) (by decide) (v := (.int (42 : Int32))) rfl (g := (mkF m 28 #[.val (.int p1), .val (.ref b1), .unset, .unset, .unset] [(.int (2 : Int32)), (.ref b1)])) rfl rfl (hb hby at_28)) ?_
    show own_Go _ _ _ _ T5 (mkF m 29 #[.val (.int p1), .val (.ref b1), .unset, .unset, .unset] [(.int (42 : Int32))])
    refine own_st (fun _ k => XS.istoreN X5.here hx rfl (hb hby at_29) rfl (l' := #[.val (.int p1), .val (.ref b1), .val (.int (42 : Int32)), .unset, .unset]) rfl k) ?_
    show own_Go _ _ _ _ T5 (mkF m 30 #[.val (.int p1), .val (.ref b1), .val (.int (42 : Int32)), .unset, .unset] [])
    refine own_st (fun _ k => XS.iloadN X5.here hx rfl (hb hby at_30) rfl k) ?_
    show own_Go _ _ _ _ T5 (mkF m 31 #[.val (.int p1), .val (.ref b1), .val (.int (42 : Int32)), .unset, .unset] [(.int (42 : Int32))])
    obtain ⟨v12, T12, L12, hQ12, X12, st12⟩ := own_callS X5 hx hZ (y := (⟨"java/lang/String", "valueOf", "(C)Ljava/lang/String;"⟩ : MethodName)) hown (own_w1 hw) (own_w2 hw) (own_w3 hw) (own_w4 hw) (by decide) (own_vo42 l hw [] (42 : Int32) cs hp5 n0 (Nat.le_trans Z0 O5.1) rfl (Scs.ext O5) hcs) e5 (g := (mkF m 31 #[.val (.int p1), .val (.ref b1), .val (.int (42 : Int32)), .unset, .unset] [(.int (42 : Int32))])) rfl (by rw [hml]; rfl) (argsL := [(.int (42 : Int32))]) (rest := []) (lenOf own_pd6 rfl) rfl rfl (W := 0) (Nat.le_of_eq rfl) (hb hby at_31) (by decide) (by decide) (by decide) (by decide)
    obtain ⟨bs, bsv, ks, rfl, N12, Et12, sb, Eb, Fvb, Fcb, Vsb⟩ := hQ12
    have dn0 : ¬ u0 = bs := fun e => absurd (e ▸ (Eu0.ext O5).lt) (Nat.not_lt.mpr sb)
    have dn1 : ¬ u1 = bs := fun e => absurd (e ▸ (Eu1.ext O5).lt) (Nat.not_lt.mpr sb)
    have dn2 : ¬ u2 = bs := fun e => absurd (e ▸ (Eu2.ext O5).lt) (Nat.not_lt.mpr sb)
    have dn3 : ¬ u3 = bs := fun e => absurd (e ▸ (Eu3.ext O5).lt) (Nat.not_lt.mpr sb)
    have O12 := own_extt O5 Et12
    have V_b1_12 := Va5.ext Et12
    have N12' := Fr.app N5 N12
    refine own_st st12 ?_
    show own_Go _ _ _ _ T12 (mkF m 34 #[.val (.int p1), .val (.ref b1), .val (.int (42 : Int32)), .unset, .unset] [(.ref bs)])
    obtain ⟨v13, T13, L13, hQ13, X13, st13⟩ := own_callS X12 hx hZ (y := (⟨"holdtrue/Operand$ArithmeticOperator", "of", "(Ljava/lang/String;)Lholdtrue/Operand$ArithmeticOperator;"⟩ : MethodName)) hown (own_w27 hw) (own_w28 hw) (own_w29 hw) (own_w30 hw) (by decide) (own_of42 l hw [] bs bsv ks wv w0 w1 w2 w3 u0 u1 u2 u3 y0 y1 y2 y3 kv k0 k1 k2 k3 cs T12.heap n0 (Nat.le_trans Z0 O12.1) (Scs.ext O12) hcs (Sv.ext O12) (Vv.ext O12) (Ev.ext O12) (Fs0.ext O12) (Eu0.ext O12) (Gv0.ext O12) (Gc0.ext O12) (Vy0.ext O12) (Fs1.ext O12) (Eu1.ext O12) (Gv1.ext O12) (Gc1.ext O12) (Vy1.ext O12) (Fs2.ext O12) (Eu2.ext O12) (Gv2.ext O12) (Gc2.ext O12) (Vy2.ext O12) (Fs3.ext O12) (Eu3.ext O12) (Gv3.ext O12) (Gc3.ext O12) (Vy3.ext O12) dn0 dn1 dn2 dn3 Eb Fvb Fcb Vsb) rfl (g := (mkF m 34 #[.val (.int p1), .val (.ref b1), .val (.int (42 : Int32)), .unset, .unset] [(.ref bs)])) rfl (by rw [hml]; rfl) (argsL := [(.ref bs)]) (rest := []) (lenOf own_pd7 rfl) rfl rfl (W := 0) (Nat.le_of_eq rfl) (hb hby at_34) (by decide) (by decide) (by decide) (by decide)
    obtain ⟨rfl, N13, Et13⟩ := hQ13
    have O13 := own_extt O12 Et13
    have V_b1_13 := V_b1_12.ext Et13
    have Ex_bs_13 := Eb.ext Et13
    have N13' := Fr.app N12' N13
    refine own_st st13 ?_
    show own_Go _ _ _ _ T13 (mkF m 37 #[.val (.int p1), .val (.ref b1), .val (.int (42 : Int32)), .unset, .unset] [(.ref w2)])
    refine own_st (fun _ k => XS.astoreN X13.here hx rfl (hb hby at_37) rfl rfl (l' := #[.val (.int p1), .val (.ref b1), .val (.int (42 : Int32)), .val (.ref w2), .unset]) rfl k) ?_
    show own_Go _ _ _ _ T13 (mkF m 38 #[.val (.int p1), .val (.ref b1), .val (.int (42 : Int32)), .val (.ref w2), .unset] [])
    refine own_st (fun _ k => XS.aloadN X13.here hx rfl (hb hby at_38) rfl rfl k) ?_
    show own_Go _ _ _ _ T13 (mkF m 39 #[.val (.int p1), .val (.ref b1), .val (.int (42 : Int32)), .val (.ref w2), .unset] [(.ref w2)])
    refine own_st (fun _ k => XS.ifnonnullYes X13.here hx rfl (pc0 := 39) (pc' := 44) rfl (hb hby at_39) rfl (by decide) (by decide) k) ?_
    show own_Go _ _ _ _ T13 (mkF m 44 #[.val (.int p1), .val (.ref b1), .val (.int (42 : Int32)), .val (.ref w2), .unset] [])
    refine own_st (fun _ k => XS.iloadN X13.here hx rfl (hb hby at_44) rfl k) ?_
    show own_Go _ _ _ _ T13 (mkF m 45 #[.val (.int p1), .val (.ref b1), .val (.int (42 : Int32)), .val (.ref w2), .unset] [(.int (42 : Int32))])
    refine own_st (fun _ k => XS.bipush X13.here hx rfl (hb hby at_45) k) ?_
    show own_Go _ _ _ _ T13 (mkF m 47 #[.val (.int p1), .val (.ref b1), .val (.int (42 : Int32)), .val (.ref w2), .unset] [(.int (43 : Int32)), (.int (42 : Int32))])
    refine own_st (fun _ k => XS.icmpNo X13.here hx rfl (hb hby at_47) rfl (feq (by decide : ¬ ((42 : Int32) = (43 : Int32)))).1 k) ?_
    show own_Go _ _ _ _ T13 (mkF m 50 #[.val (.int p1), .val (.ref b1), .val (.int (42 : Int32)), .val (.ref w2), .unset] [])
    refine own_st (fun _ k => XS.iloadN X13.here hx rfl (hb hby at_50) rfl k) ?_
    show own_Go _ _ _ _ T13 (mkF m 51 #[.val (.int p1), .val (.ref b1), .val (.int (42 : Int32)), .val (.ref w2), .unset] [(.int (42 : Int32))])
    refine own_st (fun _ k => XS.bipush X13.here hx rfl (hb hby at_51) k) ?_
    show own_Go _ _ _ _ T13 (mkF m 53 #[.val (.int p1), .val (.ref b1), .val (.int (42 : Int32)), .val (.ref w2), .unset] [(.int (45 : Int32)), (.int (42 : Int32))])
    refine own_st (fun _ k => XS.icmpYes X13.here hx rfl (pc0 := 53) (pc' := 60) rfl (hb hby at_53) rfl (feq (by decide : ¬ ((42 : Int32) = (45 : Int32)))).2 (by decide) (by decide) k) ?_
    show own_Go _ _ _ _ T13 (mkF m 60 #[.val (.int p1), .val (.ref b1), .val (.int (42 : Int32)), .val (.ref w2), .unset] [])
    refine own_st (fun _ k => XS.iconst X13.here hx rfl (hb hby at_60) k) ?_
    show own_Go _ _ _ _ T13 (mkF m 61 #[.val (.int p1), .val (.ref b1), .val (.int (42 : Int32)), .val (.ref w2), .unset] [(.int (0 : Int32))])
    refine own_st (fun _ k => XS.istore X13.here hx rfl (hb hby at_61) rfl (l' := #[.val (.int p1), .val (.ref b1), .val (.int (42 : Int32)), .val (.ref w2), .val (.int (0 : Int32))]) rfl k) ?_
    show own_Go _ _ _ _ T13 (mkF m 63 #[.val (.int p1), .val (.ref b1), .val (.int (42 : Int32)), .val (.ref w2), .val (.int (0 : Int32))] [])
    refine own_st (fun _ k => XS.aloadN X13.here hx rfl (hb hby at_63) rfl rfl k) ?_
    show own_Go _ _ _ _ T13 (mkF m 64 #[.val (.int p1), .val (.ref b1), .val (.int (42 : Int32)), .val (.ref w2), .val (.int (0 : Int32))] [(.ref w2)])
    obtain ⟨v14, T14, L14, hQ14, X14, st14⟩ := own_callV X13 hx hZ (y := (⟨"holdtrue/Operand$ArithmeticOperator", "additive", "()Z"⟩ : MethodName)) hown (own_w60 hw) (own_w61 hw) (own_w63 hw) (own_w62 hw) (own_w29 hw) (own_w64 hw) (by decide) (own_add l hw [] w2 w0 w1 T13.heap n0 (Nat.le_trans Z0 O13.1) (S0.ext O13) (S1.ext O13)) rfl (E2.ext O13) (g := (mkF m 64 #[.val (.int p1), .val (.ref b1), .val (.int (42 : Int32)), .val (.ref w2), .val (.int (0 : Int32))] [(.ref w2)])) rfl (by rw [hml]; rfl) (argsL := []) (rest := []) (lenOf own_pd8 rfl) rfl rfl (W := 0) (Nat.le_of_eq rfl) (hb hby at_64) (by decide) (by decide) (by decide) (by decide)
    obtain ⟨rfl, N14, e14⟩ := hQ14
    have N14' := Fr.app N13' N14
    refine own_st st14 ?_
    show own_Go _ _ _ _ T14 (mkF m 67 #[.val (.int p1), .val (.ref b1), .val (.int (42 : Int32)), .val (.ref w2), .val (.int (0 : Int32))] [(.int (own_addv w2 w0 w1))])
    refine own_st (fun _ k => XS.iload X14.here hx rfl (hb hby at_67) rfl k) ?_
    show own_Go _ _ _ _ T14 (mkF m 69 #[.val (.int p1), .val (.ref b1), .val (.int (42 : Int32)), .val (.ref w2), .val (.int (0 : Int32))] [(.int (0 : Int32)), (.int (own_addv w2 w0 w1))])
    refine own_st (fun _ k => XS.icmpNo X14.here hx rfl (hb hby at_69) rfl (teq (by simp [own_addv, n10, n10.symm, n20, n20.symm, n21, n21.symm, n30, n30.symm, n31, n31.symm, n32, n32.symm] : (own_addv w2 w0 w1) = (0 : Int32))).2 k) ?_
    show own_Go _ _ _ _ T14 (mkF m 72 #[.val (.int p1), .val (.ref b1), .val (.int (42 : Int32)), .val (.ref w2), .val (.int (0 : Int32))] [])
    refine own_st (fun _ k => XS.iconst X14.here hx rfl (hb hby at_72) k) ?_
    show own_Go _ _ _ _ T14 (mkF m 73 #[.val (.int p1), .val (.ref b1), .val (.int (42 : Int32)), .val (.ref w2), .val (.int (0 : Int32))] [(.int (1 : Int32))])
    refine own_st (fun _ k => XS.goto X14.here hx rfl (pc0 := 73) (pc' := 77) rfl (hb hby at_73) (by decide) (by decide) k) ?_
    show own_Go _ _ _ _ T14 (mkF m 77 #[.val (.int p1), .val (.ref b1), .val (.int (42 : Int32)), .val (.ref w2), .val (.int (0 : Int32))] [(.int (1 : Int32))])
    exact own_retN X14 hx hret (by simp) hlk (hb hby at_77) ⟨rfl, N14'⟩ (by decide) (by decide)
  · rw [ha]
    show own_Go _ _ _ _ T5 (mkF m 28 #[.val (.int p1), .val (.ref b1), .unset, .unset, .unset] [(.int (3 : Int32)), (.ref b1)])
    refine own_st (own_ldC X5 hx hZ e5 Va5 (j := (3 : Int32)) (by decide) (v := (.int (47 : Int32))) rfl (g := (mkF m 28 #[.val (.int p1), .val (.ref b1), .unset, .unset, .unset] [(.int (3 : Int32)), (.ref b1)])) rfl rfl (hb hby at_28)) ?_
    show own_Go _ _ _ _ T5 (mkF m 29 #[.val (.int p1), .val (.ref b1), .unset, .unset, .unset] [(.int (47 : Int32))])
    refine own_st (fun _ k => XS.istoreN X5.here hx rfl (hb hby at_29) rfl (l' := #[.val (.int p1), .val (.ref b1), .val (.int (47 : Int32)), .unset, .unset]) rfl k) ?_
    show own_Go _ _ _ _ T5 (mkF m 30 #[.val (.int p1), .val (.ref b1), .val (.int (47 : Int32)), .unset, .unset] [])
    refine own_st (fun _ k => XS.iloadN X5.here hx rfl (hb hby at_30) rfl k) ?_
    show own_Go _ _ _ _ T5 (mkF m 31 #[.val (.int p1), .val (.ref b1), .val (.int (47 : Int32)), .unset, .unset] [(.int (47 : Int32))])
    obtain ⟨v15, T15, L15, hQ15, X15, st15⟩ := own_callS X5 hx hZ (y := (⟨"java/lang/String", "valueOf", "(C)Ljava/lang/String;"⟩ : MethodName)) hown (own_w1 hw) (own_w2 hw) (own_w3 hw) (own_w4 hw) (by decide) (own_vo47 l hw [] (47 : Int32) cs hp5 n0 (Nat.le_trans Z0 O5.1) rfl (Scs.ext O5) hcs) e5 (g := (mkF m 31 #[.val (.int p1), .val (.ref b1), .val (.int (47 : Int32)), .unset, .unset] [(.int (47 : Int32))])) rfl (by rw [hml]; rfl) (argsL := [(.int (47 : Int32))]) (rest := []) (lenOf own_pd6 rfl) rfl rfl (W := 0) (Nat.le_of_eq rfl) (hb hby at_31) (by decide) (by decide) (by decide) (by decide)
    obtain ⟨bs, bsv, ks, rfl, N15, Et15, sb, Eb, Fvb, Fcb, Vsb⟩ := hQ15
    have dn0 : ¬ u0 = bs := fun e => absurd (e ▸ (Eu0.ext O5).lt) (Nat.not_lt.mpr sb)
    have dn1 : ¬ u1 = bs := fun e => absurd (e ▸ (Eu1.ext O5).lt) (Nat.not_lt.mpr sb)
    have dn2 : ¬ u2 = bs := fun e => absurd (e ▸ (Eu2.ext O5).lt) (Nat.not_lt.mpr sb)
    have dn3 : ¬ u3 = bs := fun e => absurd (e ▸ (Eu3.ext O5).lt) (Nat.not_lt.mpr sb)
    have O15 := own_extt O5 Et15
    have V_b1_15 := Va5.ext Et15
    have N15' := Fr.app N5 N15
    refine own_st st15 ?_
    show own_Go _ _ _ _ T15 (mkF m 34 #[.val (.int p1), .val (.ref b1), .val (.int (47 : Int32)), .unset, .unset] [(.ref bs)])
    obtain ⟨v16, T16, L16, hQ16, X16, st16⟩ := own_callS X15 hx hZ (y := (⟨"holdtrue/Operand$ArithmeticOperator", "of", "(Ljava/lang/String;)Lholdtrue/Operand$ArithmeticOperator;"⟩ : MethodName)) hown (own_w27 hw) (own_w28 hw) (own_w29 hw) (own_w30 hw) (by decide) (own_of47 l hw [] bs bsv ks wv w0 w1 w2 w3 u0 u1 u2 u3 y0 y1 y2 y3 kv k0 k1 k2 k3 cs T15.heap n0 (Nat.le_trans Z0 O15.1) (Scs.ext O15) hcs (Sv.ext O15) (Vv.ext O15) (Ev.ext O15) (Fs0.ext O15) (Eu0.ext O15) (Gv0.ext O15) (Gc0.ext O15) (Vy0.ext O15) (Fs1.ext O15) (Eu1.ext O15) (Gv1.ext O15) (Gc1.ext O15) (Vy1.ext O15) (Fs2.ext O15) (Eu2.ext O15) (Gv2.ext O15) (Gc2.ext O15) (Vy2.ext O15) (Fs3.ext O15) (Eu3.ext O15) (Gv3.ext O15) (Gc3.ext O15) (Vy3.ext O15) dn0 dn1 dn2 dn3 Eb Fvb Fcb Vsb) rfl (g := (mkF m 34 #[.val (.int p1), .val (.ref b1), .val (.int (47 : Int32)), .unset, .unset] [(.ref bs)])) rfl (by rw [hml]; rfl) (argsL := [(.ref bs)]) (rest := []) (lenOf own_pd7 rfl) rfl rfl (W := 0) (Nat.le_of_eq rfl) (hb hby at_34) (by decide) (by decide) (by decide) (by decide)
    obtain ⟨rfl, N16, Et16⟩ := hQ16
    have O16 := own_extt O15 Et16
    have V_b1_16 := V_b1_15.ext Et16
    have Ex_bs_16 := Eb.ext Et16
    have N16' := Fr.app N15' N16
    refine own_st st16 ?_
    show own_Go _ _ _ _ T16 (mkF m 37 #[.val (.int p1), .val (.ref b1), .val (.int (47 : Int32)), .unset, .unset] [(.ref w3)])
    refine own_st (fun _ k => XS.astoreN X16.here hx rfl (hb hby at_37) rfl rfl (l' := #[.val (.int p1), .val (.ref b1), .val (.int (47 : Int32)), .val (.ref w3), .unset]) rfl k) ?_
    show own_Go _ _ _ _ T16 (mkF m 38 #[.val (.int p1), .val (.ref b1), .val (.int (47 : Int32)), .val (.ref w3), .unset] [])
    refine own_st (fun _ k => XS.aloadN X16.here hx rfl (hb hby at_38) rfl rfl k) ?_
    show own_Go _ _ _ _ T16 (mkF m 39 #[.val (.int p1), .val (.ref b1), .val (.int (47 : Int32)), .val (.ref w3), .unset] [(.ref w3)])
    refine own_st (fun _ k => XS.ifnonnullYes X16.here hx rfl (pc0 := 39) (pc' := 44) rfl (hb hby at_39) rfl (by decide) (by decide) k) ?_
    show own_Go _ _ _ _ T16 (mkF m 44 #[.val (.int p1), .val (.ref b1), .val (.int (47 : Int32)), .val (.ref w3), .unset] [])
    refine own_st (fun _ k => XS.iloadN X16.here hx rfl (hb hby at_44) rfl k) ?_
    show own_Go _ _ _ _ T16 (mkF m 45 #[.val (.int p1), .val (.ref b1), .val (.int (47 : Int32)), .val (.ref w3), .unset] [(.int (47 : Int32))])
    refine own_st (fun _ k => XS.bipush X16.here hx rfl (hb hby at_45) k) ?_
    show own_Go _ _ _ _ T16 (mkF m 47 #[.val (.int p1), .val (.ref b1), .val (.int (47 : Int32)), .val (.ref w3), .unset] [(.int (43 : Int32)), (.int (47 : Int32))])
    refine own_st (fun _ k => XS.icmpNo X16.here hx rfl (hb hby at_47) rfl (feq (by decide : ¬ ((47 : Int32) = (43 : Int32)))).1 k) ?_
    show own_Go _ _ _ _ T16 (mkF m 50 #[.val (.int p1), .val (.ref b1), .val (.int (47 : Int32)), .val (.ref w3), .unset] [])
    refine own_st (fun _ k => XS.iloadN X16.here hx rfl (hb hby at_50) rfl k) ?_
    show own_Go _ _ _ _ T16 (mkF m 51 #[.val (.int p1), .val (.ref b1), .val (.int (47 : Int32)), .val (.ref w3), .unset] [(.int (47 : Int32))])
    refine own_st (fun _ k => XS.bipush X16.here hx rfl (hb hby at_51) k) ?_
    show own_Go _ _ _ _ T16 (mkF m 53 #[.val (.int p1), .val (.ref b1), .val (.int (47 : Int32)), .val (.ref w3), .unset] [(.int (45 : Int32)), (.int (47 : Int32))])
    refine own_st (fun _ k => XS.icmpYes X16.here hx rfl (pc0 := 53) (pc' := 60) rfl (hb hby at_53) rfl (feq (by decide : ¬ ((47 : Int32) = (45 : Int32)))).2 (by decide) (by decide) k) ?_
    show own_Go _ _ _ _ T16 (mkF m 60 #[.val (.int p1), .val (.ref b1), .val (.int (47 : Int32)), .val (.ref w3), .unset] [])
    refine own_st (fun _ k => XS.iconst X16.here hx rfl (hb hby at_60) k) ?_
    show own_Go _ _ _ _ T16 (mkF m 61 #[.val (.int p1), .val (.ref b1), .val (.int (47 : Int32)), .val (.ref w3), .unset] [(.int (0 : Int32))])
    refine own_st (fun _ k => XS.istore X16.here hx rfl (hb hby at_61) rfl (l' := #[.val (.int p1), .val (.ref b1), .val (.int (47 : Int32)), .val (.ref w3), .val (.int (0 : Int32))]) rfl k) ?_
    show own_Go _ _ _ _ T16 (mkF m 63 #[.val (.int p1), .val (.ref b1), .val (.int (47 : Int32)), .val (.ref w3), .val (.int (0 : Int32))] [])
    refine own_st (fun _ k => XS.aloadN X16.here hx rfl (hb hby at_63) rfl rfl k) ?_
    show own_Go _ _ _ _ T16 (mkF m 64 #[.val (.int p1), .val (.ref b1), .val (.int (47 : Int32)), .val (.ref w3), .val (.int (0 : Int32))] [(.ref w3)])
    obtain ⟨v17, T17, L17, hQ17, X17, st17⟩ := own_callV X16 hx hZ (y := (⟨"holdtrue/Operand$ArithmeticOperator", "additive", "()Z"⟩ : MethodName)) hown (own_w60 hw) (own_w61 hw) (own_w63 hw) (own_w62 hw) (own_w29 hw) (own_w64 hw) (by decide) (own_add l hw [] w3 w0 w1 T16.heap n0 (Nat.le_trans Z0 O16.1) (S0.ext O16) (S1.ext O16)) rfl (E3.ext O16) (g := (mkF m 64 #[.val (.int p1), .val (.ref b1), .val (.int (47 : Int32)), .val (.ref w3), .val (.int (0 : Int32))] [(.ref w3)])) rfl (by rw [hml]; rfl) (argsL := []) (rest := []) (lenOf own_pd8 rfl) rfl rfl (W := 0) (Nat.le_of_eq rfl) (hb hby at_64) (by decide) (by decide) (by decide) (by decide)
    obtain ⟨rfl, N17, e17⟩ := hQ17
    have N17' := Fr.app N16' N17
    refine own_st st17 ?_
    show own_Go _ _ _ _ T17 (mkF m 67 #[.val (.int p1), .val (.ref b1), .val (.int (47 : Int32)), .val (.ref w3), .val (.int (0 : Int32))] [(.int (own_addv w3 w0 w1))])
    refine own_st (fun _ k => XS.iload X17.here hx rfl (hb hby at_67) rfl k) ?_
    show own_Go _ _ _ _ T17 (mkF m 69 #[.val (.int p1), .val (.ref b1), .val (.int (47 : Int32)), .val (.ref w3), .val (.int (0 : Int32))] [(.int (0 : Int32)), (.int (own_addv w3 w0 w1))])
    refine own_st (fun _ k => XS.icmpNo X17.here hx rfl (hb hby at_69) rfl (teq (by simp [own_addv, n10, n10.symm, n20, n20.symm, n21, n21.symm, n30, n30.symm, n31, n31.symm, n32, n32.symm] : (own_addv w3 w0 w1) = (0 : Int32))).2 k) ?_
    show own_Go _ _ _ _ T17 (mkF m 72 #[.val (.int p1), .val (.ref b1), .val (.int (47 : Int32)), .val (.ref w3), .val (.int (0 : Int32))] [])
    refine own_st (fun _ k => XS.iconst X17.here hx rfl (hb hby at_72) k) ?_
    show own_Go _ _ _ _ T17 (mkF m 73 #[.val (.int p1), .val (.ref b1), .val (.int (47 : Int32)), .val (.ref w3), .val (.int (0 : Int32))] [(.int (1 : Int32))])
    refine own_st (fun _ k => XS.goto X17.here hx rfl (pc0 := 73) (pc' := 77) rfl (hb hby at_73) (by decide) (by decide) k) ?_
    show own_Go _ _ _ _ T17 (mkF m 77 #[.val (.int p1), .val (.ref b1), .val (.int (47 : Int32)), .val (.ref w3), .val (.int (0 : Int32))] [(.int (1 : Int32))])
    exact own_retN X17 hx hret (by simp) hlk (hb hby at_77) ⟨rfl, N17'⟩ (by decide) (by decide)
set_option maxRecDepth 65536 in
set_option maxHeartbeats 40000000 in
theorem comes_1 {Post : Tables → Env → Array Value → State → Outcome → State → Prop} (hpost : ∀ tb e args s v u, (limb_1_1.after args s (.returned v) u = true ∧ limb_1_2.after args s (.returned v) u = true ∧ True) → FrameEnd s (.returned v) u (Jvm.fieldLocs frame_1_writes args s ++ Jvm.arrayLocs frame_1_arrays args s ++ Jvm.staticLocs frame_1_statics s) 16 128 → Post tb e args s (.returned v) u) :
    ArmFor flags0 classFile x code maxLocals ret World_1 tables_1 room_1 Calls_1 rest_1 Pre_1 Post := by
  intro l hfl _ _ p e ha hc hk s m args below hf hA hF happ hP
  obtain ⟨hcalls, hrest, hpre⟩ := hP
  obtain ⟨-, -, -, hnamed, -, -, -, hat⟩ := (Spec.applies_iff hf).mp happ
  obtain ⟨hg, hn⟩ := and_e (Cond.before_iff.mp (show (Jvm.Cond.and given_1 narrow_1).before args s = true from hpre))
  obtain ⟨q1, q2⟩ := and_e hg
  obtain ⟨w0_, rfl⟩ : ∃ w0_ : Value, args = #[w0_] := by
    have hs : args.size = 1 := by simpa [Cond.value, given_1] using q1
    obtain ⟨L⟩ := args
    match L, hs with
    | [w0_], _ => exact ⟨w0_, rfl⟩
  have hw : own_W s _ := fun d (hd : d ∈ tables_1) => atoms_spec (ws := Jvm.Cond.code x code maxLocals ret :: tables_1) hat d (List.mem_cons_of_mem _ hd)
  have hfit : Fit s := fun {y c} hc i hi => by
    obtain ⟨ha, rfl⟩ := Array.getElem?_eq_some_iff.mp hc
    have q := List.all_eq_true.mp ((Array.all_eq_true_iff_forall_mem.mp hF) _ (Array.getElem_mem ha)) i (List.mem_range.mpr hi)
    simpa [Array.getElem?_eq_getElem hi] using q
  obtain ⟨i0, ei0⟩ := is_v q2
  obtain rfl : w0_ = (.int i0) := Option.some.inj ei0
  obtain ⟨hsets, hown0⟩ := atoms_of _ (rest_1_c_eq ▸ (show rest_1_c.before _ s = true from hrest))
  have hn : narrow_1.value _ s none s [] = some true := hn
  obtain ⟨q3, q4⟩ := and_e hn
  obtain ⟨q5, q6⟩ := and_e q4
  obtain ⟨q7, q8⟩ := and_e q6
  obtain ⟨q9, q10⟩ := and_e q8
  obtain ⟨q11, q12⟩ := and_e q10
  obtain ⟨q13, q14⟩ := and_e q12
  obtain ⟨q15, q16⟩ := and_e q14
  obtain ⟨q17, q18⟩ := and_e q16
  obtain ⟨q19, q20⟩ := and_e q18
  obtain ⟨q21, q22⟩ := and_e q20
  obtain ⟨q23, q24⟩ := and_e q22
  obtain ⟨q25, q26⟩ := and_e q24
  obtain ⟨q27, q28⟩ := and_e q26
  obtain ⟨q29, q30⟩ := and_e q28
  obtain ⟨q31, q32⟩ := and_e q30
  obtain ⟨q33, q34⟩ := and_e q32
  obtain ⟨q35, q36⟩ := and_e q34
  obtain ⟨q37, q38⟩ := and_e q36
  obtain ⟨q39, q40⟩ := and_e q38
  obtain ⟨q41, q42⟩ := and_e q40
  obtain ⟨q43, q44⟩ := and_e q42
  obtain ⟨q45, q46⟩ := and_e q44
  obtain ⟨q47, q48⟩ := and_e q46
  obtain ⟨q49, q50⟩ := and_e q48
  obtain ⟨q51, q52⟩ := and_e q50
  obtain ⟨q53, q54⟩ := and_e q52
  obtain ⟨q55, q56⟩ := and_e q54
  obtain ⟨q57, q58⟩ := and_e q56
  obtain ⟨q59, q60⟩ := and_e q58
  obtain ⟨q61, q62⟩ := and_e q60
  obtain ⟨q63, q64⟩ := and_e q62
  obtain ⟨q65, q66⟩ := and_e q64
  obtain ⟨q67, q68⟩ := and_e q66
  obtain ⟨q69, q70⟩ := and_e q68
  obtain ⟨w71, vw71⟩ := arr_v q3
  obtain ⟨cA72, A72⟩ := Arr.start vw71 q3
  have S73 := Sta.start vw71 (Or.inl (own_w47 hw))
  have E74 := Exa.start vw71 q5
  obtain ⟨w75, vw75⟩ := exa_v q9
  have E76 := Exa.start vw75 q9
  have S77 := Sta.start vw75 (Or.inr ⟨(own_w29 hw), (own_w43 hw)⟩)
  obtain ⟨w78, vw78⟩ := exa_v q13
  have E79 := Exa.start vw78 q13
  have S80 := Sta.start vw78 (Or.inr ⟨(own_w29 hw), (own_w44 hw)⟩)
  obtain ⟨w81, vw81⟩ := exa_v q17
  have E82 := Exa.start vw81 q17
  have S83 := Sta.start vw81 (Or.inr ⟨(own_w29 hw), (own_w45 hw)⟩)
  obtain ⟨w84, vw84⟩ := exa_v q21
  have E85 := Exa.start vw84 q21
  have S86 := Sta.start vw84 (Or.inr ⟨(own_w29 hw), (own_w46 hw)⟩)
  obtain ⟨w87, vw87⟩ := exa_v q25
  have E88 := Exa.start vw87 q25
  have F89 := Fld.start ((fld_at vw75).symm.trans vw87)
  have F90 := Fld.start ((fld_at vw87).symm.trans (own_eqi q27))
  obtain ⟨w91, vw91⟩ := arr_v q29
  obtain ⟨cA92, A92⟩ := Arr.start vw91 q29
  have F93 := Fld.start ((fld_at vw87).symm.trans vw91)
  obtain ⟨w94, vw94⟩ := exa_v q35
  have E95 := Exa.start vw94 q35
  have F96 := Fld.start ((fld_at vw78).symm.trans vw94)
  have F97 := Fld.start ((fld_at vw94).symm.trans (own_eqi q37))
  obtain ⟨w98, vw98⟩ := arr_v q39
  obtain ⟨cA99, A99⟩ := Arr.start vw98 q39
  have F100 := Fld.start ((fld_at vw94).symm.trans vw98)
  obtain ⟨w101, vw101⟩ := exa_v q45
  have E102 := Exa.start vw101 q45
  have F103 := Fld.start ((fld_at vw81).symm.trans vw101)
  have F104 := Fld.start ((fld_at vw101).symm.trans (own_eqi q47))
  obtain ⟨w105, vw105⟩ := arr_v q49
  obtain ⟨cA106, A106⟩ := Arr.start vw105 q49
  have F107 := Fld.start ((fld_at vw101).symm.trans vw105)
  obtain ⟨w108, vw108⟩ := exa_v q55
  have E109 := Exa.start vw108 q55
  have F110 := Fld.start ((fld_at vw84).symm.trans vw108)
  have F111 := Fld.start ((fld_at vw108).symm.trans (own_eqi q57))
  obtain ⟨w112, vw112⟩ := arr_v q59
  obtain ⟨cA113, A113⟩ := Arr.start vw112 q59
  have F114 := Fld.start ((fld_at vw108).symm.trans vw112)
  have F115 := Fld.start ((fld_at vw84).symm.trans (own_eqi q65))
  have F116 := Fld.start ((fld_at vw75).symm.trans (own_eqi q67))
  have F117 := Fld.start ((fld_at vw78).symm.trans (own_eqi q69))
  have F118 := Fld.start ((fld_at vw81).symm.trans (own_eqi q70))
  have V119 : Arv s s.heap w71 cA72.cls (.object "holdtrue/Operand$ArithmeticOperator") (4 : Int32) [(.ref w75), (.ref w78), (.ref w81), (.ref w84)] .null := Arv.start hfit A72 (own_lenw q7 vw71 A72).1 (own_lenw q7 vw71 A72).2 (by decide) rfl ⟨own_elemw q11 vw71 vw75 A72, own_elemw q15 vw71 vw78 A72, own_elemw q19 vw71 vw81 A72, own_elemw q23 vw71 vw84 A72, trivial⟩
  have V120 : Arv s s.heap w91 cA92.cls .byte (1 : Int32) [(.int (43 : Int32))] (.int (0 : Int32)) := Arv.start hfit A92 (own_lenw q31 vw91 A92).1 (own_lenw q31 vw91 A92).2 (by decide) rfl ⟨own_elemi q33 vw91 A92, trivial⟩
  have V121 : Arv s s.heap w98 cA99.cls .byte (1 : Int32) [(.int (45 : Int32))] (.int (0 : Int32)) := Arv.start hfit A99 (own_lenw q41 vw98 A99).1 (own_lenw q41 vw98 A99).2 (by decide) rfl ⟨own_elemi q43 vw98 A99, trivial⟩
  have V122 : Arv s s.heap w105 cA106.cls .byte (1 : Int32) [(.int (42 : Int32))] (.int (0 : Int32)) := Arv.start hfit A106 (own_lenw q51 vw105 A106).1 (own_lenw q51 vw105 A106).2 (by decide) rfl ⟨own_elemi q53 vw105 A106, trivial⟩
  have V123 : Arv s s.heap w112 cA113.cls .byte (1 : Int32) [(.int (47 : Int32))] (.int (0 : Int32)) := Arv.start hfit A113 (own_lenw q61 vw112 A113).1 (own_lenw q61 vw112 A113).2 (by decide) rfl ⟨own_elemi q63 vw112 A113, trivial⟩
  have z1 := Cond.before_iff.mp (hsets _ (List.mem_of_getElem? (i := 1) rfl))
  have z2 := not_v (Cond.before_iff.mp (hsets _ (List.mem_of_getElem? (i := 2) rfl)))
  obtain ⟨cs, vcs⟩ := is_v z1
  have Scs := Sta.start vcs (Or.inl (hsets _ (List.mem_of_getElem? (i := 0) rfl)))
  have hcs : ¬ cs = 0 := fun e => by
    have q := eq_i vcs (Term.int_eval 0) (congrArg Value.int e)
    rw [q] at z2
    cases z2
  obtain ⟨n, o, r1, r2, r3, _, L, rfl, ⟨rfl, N⟩, hq⟩ := own_law l hw tables_1 i0 w71 w75 w78 w81 w84 w87 w94 w101 w108 w91 w98 w105 w112 cA72.cls cA92.cls cA99.cls cA106.cls cA113.cls cs s.heap s.heap.size (Nat.le_refl _) Scs hcs S73 V119 E74 F89 E88 F93 F90 V120 F96 E95 F100 F97 V121 F103 E102 F107 F104 V122 F110 E109 F114 F111 V123 S77 S80 E76 E79 E82 E85 (Fld.ne F117 F116 (by decide)) (Fld.ne F118 F116 (by decide)) (Fld.ne F118 F117 (by decide)) (Fld.ne F115 F116 (by decide)) (Fld.ne F115 F117 (by decide)) (Fld.ne F115 F118 (by decide)) p e ha hc hk s m _ below hf ((Spec.applies_iff_loose hf).mp happ).1 ⟨rfl, State.Warmed39.refl s, rfl⟩ trivial
  refine ⟨n, _, r1, r2, r3, hpost _ _ _ _ _ _ ⟨Cond.after_iff.mpr rfl, Cond.after_iff.mpr (eq_i res_at (Term.int_eval (1)) rfl), trivial⟩ ⟨hq.1, hq.2.1, (hq.2.2.sift fun y hy => Or.inr (N y hy)).mono (by decide) (by decide)⟩⟩
theorem main_1_1 : Claimed_1_1 := comes_1 fun _ _ _ _ _ _ h hF => ⟨h.1, hF⟩
theorem main_1_2 : Claimed_1_2 := comes_1 fun _ _ _ _ _ _ h hF => ⟨h.2.1, hF⟩
end Jvm.Pilot.@@N@@
namespace Jvm.Pilot.@@N@@
open Jvm Jvm.ClassFile Sem Op Lib Jvm.Free Jvm.Stand Jvm.Pilot.@@N@@.Jvm.D
/-! MADE BY PROGRAM (witnessworld.py) out of the Statement's table words and the real class files: 21 classes; the members and pool entries that the words name. The judged class is class 1, her method 1. -/
namespace start1
open Jvm.ClassFile
def u (s : String) : CpInfo := .utf8 (stringToUtf16 s)
/-- a pool by its gaps: so many unusable entries, then the entry; so many at the end -/
def gap : Nat → List CpInfo → List CpInfo
  | 0, r => r
  | n + 1, r => .unusable :: gap n r
def poolList (es : List (Nat × CpInfo)) (last : Nat) : List CpInfo := es.foldr (fun e r => gap e.1 (e.2 :: r)) (gap last [])
def pool (es : List (Nat × CpInfo)) (last : Nat) : Array CpInfo := ⟨poolList es last⟩
def fileOf (pool : Array CpInfo) (this : Nat) (attrs : Array Attribute := #[]) (ms : Array MethodInfo := #[]) (fl : Nat := 33) (sup : Nat := 0) (ifs : Array Nat := #[]) (fds : Array FieldInfo := #[]) : ClassFile where
  minorVersion := 0
  majorVersion := 65
  constantPool := pool
  accessFlags := fl
  thisClass := this
  superClass := sup
  interfaces := ifs
  fields := fds
  methods := ms
  attributes := attrs
def plain (name : String) (sup : Option ClassId) : Class where
  name := name
  kind := .ordinary
  loader := none
  accessFlags := 33
  super := sup
  interfaces := #[]
  cf := none
  fields := #[]
  methods := #[]
  instanceTypes := #[]
  staticTypes := #[]
  resolved := #[]
  callSites := []
  init := .initialized
  statics := none
  mirror := none

def pool0 : Array CpInfo := pool [(5, u "<init>"), (0, u "()V"), (1, .class_ 10), (1, u "java/lang/Object"), (85, u "clone"), (0, u "()Ljava/lang/Object;")] 26

def k0c0 : Code := { maxStack := 0, maxLocals := 1, code := object_method_1_code, exceptionTable := #[], attributes := #[] }
def k0m0 : Method := { name := "<init>", desc := "()V", sig := { parameters := [], returnType := none }, accessFlags := 1, code := some k0c0 }
def k0m1 : Method := { name := "clone", desc := "()Ljava/lang/Object;", sig := { parameters := [], returnType := some (.object "java/lang/Object") }, accessFlags := 260, code := none }
/-- java/lang/Object -/
def k0 : Class := { plain "java/lang/Object" none with
  accessFlags := 33
  interfaces := #[]
  cf := some (fileOf pool0 8 #[] #[{ accessFlags := 1, nameIndex := 5, descriptorIndex := 6, attributes := #[] }, { accessFlags := 260, nameIndex := 96, descriptorIndex := 97, attributes := #[] }] 33 0 #[] #[])
  fields := #[]
  methods := #[k0m0, k0m1]
  instanceTypes := #[]
  staticTypes := #[]
  resolved := Array.replicate 124 none
  statics := none }

def pool1 : Array CpInfo := pool [(2, .class_ 4), (1, u "java/lang/Object"), (0, u "<init>"), (0, u "()V"), (0, .methodref 8 9), (0, .class_ 10), (0, .nameAndType 11 12), (0, u "java/lang/String"), (0, u "valueOf"), (0, u "(C)Ljava/lang/String;"), (0, .methodref 14 15), (0, .class_ 16), (0, .nameAndType 17 18), (0, u "holdtrue/Operand$ArithmeticOperator"), (0, u "of"), (0, u "(Ljava/lang/String;)Lholdtrue/Operand$ArithmeticOperator;"), (0, .methodref 14 20), (0, .nameAndType 21 22), (0, u "additive"), (0, u "()Z"), (0, .class_ 24), (0, u "holdtrue/ArithmeticOperatorAdditivePinLaw"), (2, u "law"), (0, u "(I)Z")] 9

def k1m0 : Method := { name := "<init>", desc := "()V", sig := { parameters := [], returnType := none }, accessFlags := 2, code := none }
def k1c1 : Code := { maxStack := 4, maxLocals := 5, code := code, exceptionTable := #[], attributes := #[] }
def k1m1 : Method := { name := "law", desc := "(I)Z", sig := { parameters := [.int], returnType := some .boolean }, accessFlags := 9, code := some k1c1 }
/-- holdtrue/ArithmeticOperatorAdditivePinLaw -/
def k1 : Class := { plain "holdtrue/ArithmeticOperatorAdditivePinLaw" (some 0) with
  accessFlags := 49
  interfaces := #[]
  cf := some (fileOf pool1 23 #[] #[{ accessFlags := 2, nameIndex := 5, descriptorIndex := 6, attributes := #[] }, { accessFlags := 9, nameIndex := 27, descriptorIndex := 28, attributes := #[] }] 49 2 #[] #[])
  fields := #[]
  methods := #[k1m0, k1m1]
  instanceTypes := #[]
  staticTypes := #[]
  resolved := Array.replicate 38 none
  statics := none }

def pool2 : Array CpInfo := pool [(1, .class_ 2), (0, u "java/io/Serializable"), (0, .class_ 4), (0, u "java/lang/Object")] 2

/-- java/io/Serializable -/
def k2 : Class := { plain "java/io/Serializable" (some 0) with
  accessFlags := 1537
  interfaces := #[]
  cf := some (fileOf pool2 1 #[] #[] 1537 3 #[] #[])
  fields := #[]
  methods := #[]
  instanceTypes := #[]
  staticTypes := #[]
  resolved := Array.replicate 7 none
  statics := none }

def pool3 : Array CpInfo := pool [(1, .class_ 2), (0, u "java/lang/Comparable"), (0, .class_ 4), (0, u "java/lang/Object")] 7

/-- java/lang/Comparable -/
def k3 : Class := { plain "java/lang/Comparable" (some 0) with
  accessFlags := 1537
  interfaces := #[]
  cf := some (fileOf pool3 1 #[] #[] 1537 3 #[] #[])
  fields := #[]
  methods := #[]
  instanceTypes := #[]
  staticTypes := #[]
  resolved := Array.replicate 12 none
  statics := none }

def pool4 : Array CpInfo := pool [(2, .class_ 4), (1, u "java/lang/CharSequence"), (42, .class_ 48), (0, u "java/lang/CharSequence$1CodePointIterator"), (10, .class_ 60), (0, u "java/lang/CharSequence$1CharIterator"), (5, .class_ 67), (0, u "java/lang/Object")] 63

/-- java/lang/CharSequence -/
def k4 : Class := { plain "java/lang/CharSequence" (some 0) with
  accessFlags := 1537
  interfaces := #[]
  cf := some (fileOf pool4 2 #[.nestMembers #[47, 59]] #[] 1537 66 #[] #[])
  fields := #[]
  methods := #[]
  instanceTypes := #[]
  staticTypes := #[]
  resolved := Array.replicate 131 none
  statics := none }

def pool5 : Array CpInfo := pool [(1, .class_ 2), (0, u "java/lang/constant/Constable"), (0, .class_ 4), (0, u "java/lang/Object")] 6

/-- java/lang/constant/Constable -/
def k5 : Class := { plain "java/lang/constant/Constable" (some 0) with
  accessFlags := 1537
  interfaces := #[]
  cf := some (fileOf pool5 1 #[] #[] 1537 3 #[] #[])
  fields := #[]
  methods := #[]
  instanceTypes := #[]
  staticTypes := #[]
  resolved := Array.replicate 11 none
  statics := none }

def pool6 : Array CpInfo := pool [(1, .class_ 2), (0, u "java/lang/constant/ConstantDesc"), (0, .class_ 4), (0, u "java/lang/Object")] 32

/-- java/lang/constant/ConstantDesc -/
def k6 : Class := { plain "java/lang/constant/ConstantDesc" (some 0) with
  accessFlags := 1537
  interfaces := #[]
  cf := some (fileOf pool6 1 #[] #[] 1537 3 #[] #[])
  fields := #[]
  methods := #[]
  instanceTypes := #[]
  staticTypes := #[]
  resolved := Array.replicate 37 none
  statics := none }

def pool7 : Array CpInfo := pool [(1, .methodref 2 3), (0, .class_ 4), (0, .nameAndType 5 6), (0, u "java/lang/Object"), (0, u "<init>"), (0, u "()V"), (2, .fieldref 10 11), (0, .class_ 12), (0, .nameAndType 13 14), (0, u "java/lang/String"), (0, u "value"), (0, u "[B"), (0, .fieldref 10 16), (0, .nameAndType 17 18), (0, u "coder"), (0, u "B"), (2, u "hash"), (0, u "I"), (2, u "hashIsZero"), (0, u "Z"), (11, .fieldref 10 39), (0, .nameAndType 40 26), (0, u "COMPACT_STRINGS"), (12, u "toBytes"), (53, .class_ 109), (1, u "java/lang/StringLatin1"), (99, .methodref 10 210), (0, .nameAndType 5 211), (0, u "([BB)V"), (157, u "(C)Z"), (171, .methodref 107 542), (0, .nameAndType 543 544), (0, u "equals"), (0, u "([B[B)Z"), (28, u "(Ljava/lang/Object;)Z"), (1, .class_ 576), (0, u "java/lang/CharSequence"), (22, u "CASE_INSENSITIVE_ORDER"), (0, u "Ljava/util/Comparator;"), (181, u "valueOf"), (0, u "(C)Ljava/lang/String;"), (231, .methodref 107 1016), (0, .nameAndType 1017 369), (0, u "canEncode"), (0, .methodref 107 1019), (0, .nameAndType 53 1020), (0, u "(C)[B"), (80, u "serialPersistentFields"), (0, u "[Ljava/io/ObjectStreamField;"), (0, .class_ 1104), (0, u "java/lang/String$CaseInsensitiveComparator"), (1, .class_ 1107), (0, u "java/io/Serializable"), (0, .class_ 1109), (0, u "java/lang/Comparable"), (0, .class_ 1111), (0, u "java/lang/constant/Constable"), (0, .class_ 1113), (0, u "java/lang/constant/ConstantDesc"), (2, u "serialVersionUID"), (0, u "J"), (3, u "REPL"), (0, u "C"), (2, u "LATIN1"), (1, u "UTF16")] 323

def k7m0 : Method := { name := "<init>", desc := "()V", sig := { parameters := [], returnType := none }, accessFlags := 1, code := none }
def k7c1 : Code := { maxStack := 2, maxLocals := 3, code := jdk_42_method_66_code, exceptionTable := #[], attributes := #[] }
def k7m1 : Method := { name := "equals", desc := "(Ljava/lang/Object;)Z", sig := { parameters := [(.object "java/lang/Object")], returnType := some .boolean }, accessFlags := 1, code := some k7c1 }
def k7c2 : Code := { maxStack := 4, maxLocals := 1, code := jdk_42_method_139_code, exceptionTable := #[], attributes := #[] }
def k7m2 : Method := { name := "valueOf", desc := "(C)Ljava/lang/String;", sig := { parameters := [.char], returnType := some (.object "java/lang/String") }, accessFlags := 9, code := some k7c2 }
def k7c3 : Code := { maxStack := 2, maxLocals := 3, code := jdk_42_method_151_code, exceptionTable := #[], attributes := #[] }
def k7m3 : Method := { name := "<init>", desc := "([BB)V", sig := { parameters := [(.array .byte), .byte], returnType := none }, accessFlags := 0, code := some k7c3 }
/-- java/lang/String -/
def k7 : Class := { plain "java/lang/String" (some 0) with
  accessFlags := 49
  interfaces := #[2, 3, 4, 5, 6]
  cf := some (fileOf pool7 10 #[.nestMembers #[1103]] #[{ accessFlags := 1, nameIndex := 5, descriptorIndex := 6, attributes := #[] }, { accessFlags := 1, nameIndex := 543, descriptorIndex := 573, attributes := #[] }, { accessFlags := 9, nameIndex := 782, descriptorIndex := 783, attributes := #[] }, { accessFlags := 0, nameIndex := 5, descriptorIndex := 211, attributes := #[] }] 49 2 #[1106, 1108, 575, 1110, 1112] #[{ accessFlags := 18, nameIndex := 13, descriptorIndex := 14, attributes := #[] }, { accessFlags := 18, nameIndex := 17, descriptorIndex := 18, attributes := #[] }, { accessFlags := 2, nameIndex := 21, descriptorIndex := 22, attributes := #[] }, { accessFlags := 2, nameIndex := 25, descriptorIndex := 26, attributes := #[] }, { accessFlags := 26, nameIndex := 1116, descriptorIndex := 1117, attributes := #[] }, { accessFlags := 24, nameIndex := 40, descriptorIndex := 26, attributes := #[] }, { accessFlags := 26, nameIndex := 1101, descriptorIndex := 1102, attributes := #[] }, { accessFlags := 26, nameIndex := 1121, descriptorIndex := 1122, attributes := #[] }, { accessFlags := 25, nameIndex := 599, descriptorIndex := 600, attributes := #[] }, { accessFlags := 24, nameIndex := 1125, descriptorIndex := 18, attributes := #[] }, { accessFlags := 24, nameIndex := 1127, descriptorIndex := 18, attributes := #[] }])
  fields := #[{ name := "value", type := (.array .byte), accessFlags := 18, slot := 0, constantValue := 0 }, { name := "coder", type := .byte, accessFlags := 18, slot := 1, constantValue := 0 }, { name := "hash", type := .int, accessFlags := 2, slot := 2, constantValue := 0 }, { name := "hashIsZero", type := .boolean, accessFlags := 2, slot := 3, constantValue := 0 }, { name := "serialVersionUID", type := .long, accessFlags := 26, slot := 0, constantValue := 0 }, { name := "COMPACT_STRINGS", type := .boolean, accessFlags := 24, slot := 1, constantValue := 0 }, { name := "serialPersistentFields", type := (.array (.object "java/io/ObjectStreamField")), accessFlags := 26, slot := 2, constantValue := 0 }, { name := "REPL", type := .char, accessFlags := 26, slot := 3, constantValue := 0 }, { name := "CASE_INSENSITIVE_ORDER", type := (.object "java/util/Comparator"), accessFlags := 25, slot := 4, constantValue := 0 }, { name := "LATIN1", type := .byte, accessFlags := 24, slot := 5, constantValue := 0 }, { name := "UTF16", type := .byte, accessFlags := 24, slot := 6, constantValue := 0 }]
  methods := #[k7m0, k7m1, k7m2, k7m3]
  instanceTypes := #[(.array .byte), .byte, .int, .boolean]
  staticTypes := #[.long, .boolean, (.array (.object "java/io/ObjectStreamField")), .char, (.object "java/util/Comparator"), .byte, .byte]
  resolved := Array.replicate 1451 none
  statics := some 0 }

def pool8 : Array CpInfo := pool [(4, .class_ 6), (1, u "java/lang/Object"), (0, u "<init>"), (0, u "()V"), (5, .class_ 16), (1, u "java/lang/StringLatin1"), (73, u "canEncode"), (14, u "(C)Z"), (15, u "$assertionsDisabled"), (0, u "Z"), (98, .class_ 223), (1, u "java/lang/StringLatin1$LinesSpliterator"), (57, u "equals"), (0, u "([B[B)Z"), (97, u "toBytes"), (1, u "(C)[B"), (7, .class_ 391), (0, u "java/lang/StringLatin1$CharsSpliterator")] 3

def k8m0 : Method := { name := "<init>", desc := "()V", sig := { parameters := [], returnType := none }, accessFlags := 0, code := none }
def k8c1 : Code := { maxStack := 2, maxLocals := 1, code := jdk_43_method_3_code, exceptionTable := #[], attributes := #[] }
def k8m1 : Method := { name := "canEncode", desc := "(C)Z", sig := { parameters := [.char], returnType := some .boolean }, accessFlags := 9, code := some k8c1 }
def k8c2 : Code := { maxStack := 3, maxLocals := 3, code := jdk_43_method_13_code, exceptionTable := #[], attributes := #[] }
def k8m2 : Method := { name := "equals", desc := "([B[B)Z", sig := { parameters := [(.array .byte), (.array .byte)], returnType := some .boolean }, accessFlags := 9, code := some k8c2 }
def k8c3 : Code := { maxStack := 4, maxLocals := 1, code := jdk_43_method_46_code, exceptionTable := #[], attributes := #[] }
def k8m3 : Method := { name := "toBytes", desc := "(C)[B", sig := { parameters := [.char], returnType := some (.array .byte) }, accessFlags := 9, code := some k8c3 }
/-- java/lang/StringLatin1 -/
def k8 : Class := { plain "java/lang/StringLatin1" (some 0) with
  accessFlags := 48
  interfaces := #[]
  cf := some (fileOf pool8 14 #[.nestMembers #[390, 221]] #[{ accessFlags := 0, nameIndex := 7, descriptorIndex := 8, attributes := #[] }, { accessFlags := 9, nameIndex := 90, descriptorIndex := 105, attributes := #[] }, { accessFlags := 9, nameIndex := 281, descriptorIndex := 282, attributes := #[] }, { accessFlags := 9, nameIndex := 380, descriptorIndex := 382, attributes := #[] }] 48 4 #[] #[{ accessFlags := 4120, nameIndex := 121, descriptorIndex := 122, attributes := #[] }])
  fields := #[{ name := "$assertionsDisabled", type := .boolean, accessFlags := 4120, slot := 0, constantValue := 0 }]
  methods := #[k8m0, k8m1, k8m2, k8m3]
  instanceTypes := #[]
  staticTypes := #[.boolean]
  resolved := Array.replicate 395 none
  statics := none }

def pool9 : Array CpInfo := pool [(2, .class_ 4), (1, u "java/lang/Enum"), (0, u "name"), (0, u "Ljava/lang/String;"), (2, u "ordinal"), (0, u "I"), (1, .class_ 14), (1, u "java/lang/Object"), (4, u "hash"), (86, .class_ 108), (1, u "java/lang/Enum$EnumDesc"), (2, .class_ 112), (0, u "java/lang/constant/Constable"), (0, .class_ 114), (0, u "java/lang/Comparable"), (0, .class_ 116), (0, u "java/io/Serializable")] 87

/-- java/lang/Enum -/
def k9 : Class := { plain "java/lang/Enum" (some 0) with
  accessFlags := 1057
  interfaces := #[5, 3, 2]
  cf := some (fileOf pool9 2 #[.nestMembers #[106]] #[] 1057 12 #[111, 113, 115] #[{ accessFlags := 18, nameIndex := 5, descriptorIndex := 6, attributes := #[] }, { accessFlags := 18, nameIndex := 9, descriptorIndex := 10, attributes := #[] }, { accessFlags := 2, nameIndex := 19, descriptorIndex := 10, attributes := #[] }])
  fields := #[{ name := "name", type := (.object "java/lang/String"), accessFlags := 18, slot := 0, constantValue := 0 }, { name := "ordinal", type := .int, accessFlags := 18, slot := 1, constantValue := 0 }, { name := "hash", type := .int, accessFlags := 2, slot := 2, constantValue := 0 }]
  methods := #[]
  instanceTypes := #[(.object "java/lang/String"), .int, .int]
  staticTypes := #[]
  resolved := Array.replicate 204 none
  statics := none }

def pool10 : Array CpInfo := pool [(1, .class_ 2), (0, u "holdtrue/Operand$ArithmeticOperator"), (0, .fieldref 1 4), (0, .nameAndType 5 6), (0, u "ADD"), (0, u "Lholdtrue/Operand$ArithmeticOperator;"), (0, .fieldref 1 8), (0, .nameAndType 9 6), (0, u "SUBTRACT"), (2, u "MULTIPLY"), (2, u "DIVIDE"), (0, .fieldref 1 17), (0, .nameAndType 18 19), (0, u "$VALUES"), (0, u "[Lholdtrue/Operand$ArithmeticOperator;"), (0, .methodref 21 22), (0, .class_ 19), (0, .nameAndType 23 24), (0, u "clone"), (0, u "()Ljava/lang/Object;"), (1, .class_ 28), (1, u "java/lang/Enum"), (6, .fieldref 1 36), (0, .nameAndType 37 38), (0, u "symbol"), (0, u "Ljava/lang/String;"), (0, .methodref 1 40), (0, .nameAndType 41 42), (0, u "values"), (0, u "()[Lholdtrue/Operand$ArithmeticOperator;"), (0, .methodref 44 45), (0, .class_ 46), (0, .nameAndType 47 48), (0, u "java/lang/String"), (0, u "equals"), (0, u "(Ljava/lang/Object;)Z"), (1, .class_ 52), (1, u "holdtrue/Operand"), (170, u "QUOTIENT_SCALE"), (0, u "I"), (4, u "(Ljava/lang/String;)Lholdtrue/Operand$ArithmeticOperator;"), (2, u "of"), (1, u "additive"), (0, u "()Z")] 27

def k10c0 : Code := { maxStack := 1, maxLocals := 0, code := prog_55_method_1_code, exceptionTable := #[], attributes := #[] }
def k10m0 : Method := { name := "values", desc := "()[Lholdtrue/Operand$ArithmeticOperator;", sig := { parameters := [], returnType := some (.array (.object "holdtrue/Operand$ArithmeticOperator")) }, accessFlags := 9, code := some k10c0 }
def k10c1 : Code := { maxStack := 2, maxLocals := 5, code := prog_55_method_4_code, exceptionTable := #[], attributes := #[] }
def k10m1 : Method := { name := "of", desc := "(Ljava/lang/String;)Lholdtrue/Operand$ArithmeticOperator;", sig := { parameters := [(.object "java/lang/String")], returnType := some (.object "holdtrue/Operand$ArithmeticOperator") }, accessFlags := 8, code := some k10c1 }
def k10c2 : Code := { maxStack := 2, maxLocals := 1, code := prog_55_method_5_code, exceptionTable := #[], attributes := #[] }
def k10m2 : Method := { name := "additive", desc := "()Z", sig := { parameters := [], returnType := some .boolean }, accessFlags := 0, code := some k10c2 }
/-- holdtrue/Operand$ArithmeticOperator -/
def k10 : Class := { plain "holdtrue/Operand$ArithmeticOperator" (some 9) with
  accessFlags := 16433
  interfaces := #[]
  cf := some (fileOf pool10 1 #[.nestHost 50] #[{ accessFlags := 9, nameIndex := 41, descriptorIndex := 42, attributes := #[] }, { accessFlags := 8, nameIndex := 232, descriptorIndex := 229, attributes := #[] }, { accessFlags := 0, nameIndex := 234, descriptorIndex := 235, attributes := #[] }] 16433 26 #[] #[{ accessFlags := 16409, nameIndex := 5, descriptorIndex := 6, attributes := #[] }, { accessFlags := 16409, nameIndex := 9, descriptorIndex := 6, attributes := #[] }, { accessFlags := 16409, nameIndex := 12, descriptorIndex := 6, attributes := #[] }, { accessFlags := 16409, nameIndex := 15, descriptorIndex := 6, attributes := #[] }, { accessFlags := 24, nameIndex := 223, descriptorIndex := 224, attributes := #[] }, { accessFlags := 18, nameIndex := 37, descriptorIndex := 38, attributes := #[] }, { accessFlags := 4122, nameIndex := 18, descriptorIndex := 19, attributes := #[] }])
  fields := #[{ name := "ADD", type := (.object "holdtrue/Operand$ArithmeticOperator"), accessFlags := 16409, slot := 0, constantValue := 0 }, { name := "SUBTRACT", type := (.object "holdtrue/Operand$ArithmeticOperator"), accessFlags := 16409, slot := 1, constantValue := 0 }, { name := "MULTIPLY", type := (.object "holdtrue/Operand$ArithmeticOperator"), accessFlags := 16409, slot := 2, constantValue := 0 }, { name := "DIVIDE", type := (.object "holdtrue/Operand$ArithmeticOperator"), accessFlags := 16409, slot := 3, constantValue := 0 }, { name := "QUOTIENT_SCALE", type := .int, accessFlags := 24, slot := 4, constantValue := 0 }, { name := "symbol", type := (.object "java/lang/String"), accessFlags := 18, slot := 3, constantValue := 0 }, { name := "$VALUES", type := (.array (.object "holdtrue/Operand$ArithmeticOperator")), accessFlags := 4122, slot := 5, constantValue := 0 }]
  methods := #[k10m0, k10m1, k10m2]
  instanceTypes := #[(.object "java/lang/String"), .int, .int, (.object "java/lang/String")]
  staticTypes := #[(.object "holdtrue/Operand$ArithmeticOperator"), (.object "holdtrue/Operand$ArithmeticOperator"), (.object "holdtrue/Operand$ArithmeticOperator"), (.object "holdtrue/Operand$ArithmeticOperator"), .int, (.array (.object "holdtrue/Operand$ArithmeticOperator"))]
  resolved := Array.replicate 263 none
  statics := some 1 }

def pool11 : Array CpInfo := pool [(1, .class_ 2), (0, u "java/lang/Cloneable"), (0, .class_ 4), (0, u "java/lang/Object")] 2

/-- java/lang/Cloneable -/
def k11 : Class := { plain "java/lang/Cloneable" (some 0) with
  accessFlags := 1537
  interfaces := #[]
  cf := some (fileOf pool11 1 #[] #[] 1537 3 #[] #[])
  fields := #[]
  methods := #[]
  instanceTypes := #[]
  staticTypes := #[]
  resolved := Array.replicate 7 none
  statics := none }

def pool12 : Array CpInfo := pool [(2, .class_ 4), (1, u "java/lang/Object"), (0, u "<init>"), (0, u "()V"), (17, .class_ 26), (1, u "jdk/internal/util/Preconditions"), (28, .class_ 56), (0, u "jdk/internal/util/Preconditions$4"), (57, .class_ 115), (0, u "jdk/internal/util/Preconditions$1"), (7, u "SIOOBE_FORMATTER"), (0, u "Ljava/util/function/BiFunction;"), (0, .class_ 126), (0, u "jdk/internal/util/Preconditions$2"), (3, u "AIOOBE_FORMATTER"), (0, .class_ 132), (0, u "jdk/internal/util/Preconditions$3"), (3, u "IOOBE_FORMATTER")] 57

def k12m0 : Method := { name := "<init>", desc := "()V", sig := { parameters := [], returnType := none }, accessFlags := 1, code := none }
/-- jdk/internal/util/Preconditions -/
def k12 : Class := { plain "jdk/internal/util/Preconditions" (some 0) with
  accessFlags := 33
  interfaces := #[]
  cf := some (fileOf pool12 24 #[.nestMembers #[55, 131, 125, 114]] #[{ accessFlags := 1, nameIndex := 5, descriptorIndex := 6, attributes := #[] }] 33 2 #[] #[{ accessFlags := 25, nameIndex := 123, descriptorIndex := 124, attributes := #[] }, { accessFlags := 25, nameIndex := 130, descriptorIndex := 124, attributes := #[] }, { accessFlags := 25, nameIndex := 136, descriptorIndex := 124, attributes := #[] }])
  fields := #[{ name := "SIOOBE_FORMATTER", type := (.object "java/util/function/BiFunction"), accessFlags := 25, slot := 0, constantValue := 0 }, { name := "AIOOBE_FORMATTER", type := (.object "java/util/function/BiFunction"), accessFlags := 25, slot := 1, constantValue := 0 }, { name := "IOOBE_FORMATTER", type := (.object "java/util/function/BiFunction"), accessFlags := 25, slot := 2, constantValue := 0 }]
  methods := #[k12m0]
  instanceTypes := #[]
  staticTypes := #[(.object "java/util/function/BiFunction"), (.object "java/util/function/BiFunction"), (.object "java/util/function/BiFunction")]
  resolved := Array.replicate 194 none
  statics := some 2 }

def pool13 : Array CpInfo := pool [(9, u "<init>"), (6, .class_ 18), (1, u "java/lang/Object"), (0, u "()V"), (1, .class_ 23), (1, u "jdk/internal/util/ArraysSupport"), (0, u "LOG2_ARRAY_LONG_INDEX_SCALE"), (0, u "I"), (2, u "U"), (0, u "Ljdk/internal/misc/Unsafe;"), (8, u "BIG_ENDIAN"), (0, u "Z"), (8, u "LOG2_BYTE_BIT_SIZE"), (4, u "LOG2_ARRAY_INT_INDEX_SCALE"), (54, u "JLA"), (0, u "Ljdk/internal/access/JavaLangAccess;"), (11, u "LOG2_ARRAY_BOOLEAN_INDEX_SCALE"), (9, u "LOG2_ARRAY_BYTE_INDEX_SCALE"), (5, u "LOG2_ARRAY_CHAR_INDEX_SCALE"), (5, u "LOG2_ARRAY_SHORT_INDEX_SCALE"), (18, u "LOG2_ARRAY_FLOAT_INDEX_SCALE"), (24, u "LOG2_ARRAY_DOUBLE_INDEX_SCALE"), (89, u "T_BOOLEAN"), (2, u "T_CHAR"), (1, u "T_FLOAT"), (1, u "T_DOUBLE"), (1, u "T_BYTE"), (1, u "T_SHORT"), (1, u "T_INT"), (1, u "T_LONG"), (1, u "SOFT_MAX_ARRAY_LENGTH")] 83

def k13m0 : Method := { name := "<init>", desc := "()V", sig := { parameters := [], returnType := none }, accessFlags := 2, code := none }
/-- jdk/internal/util/ArraysSupport -/
def k13 : Class := { plain "jdk/internal/util/ArraysSupport" (some 0) with
  accessFlags := 33
  interfaces := #[]
  cf := some (fileOf pool13 21 #[] #[{ accessFlags := 2, nameIndex := 9, descriptorIndex := 19, attributes := #[] }] 33 16 #[] #[{ accessFlags := 24, nameIndex := 28, descriptorIndex := 29, attributes := #[] }, { accessFlags := 26, nameIndex := 38, descriptorIndex := 39, attributes := #[] }, { accessFlags := 25, nameIndex := 121, descriptorIndex := 25, attributes := #[] }, { accessFlags := 25, nameIndex := 131, descriptorIndex := 25, attributes := #[] }, { accessFlags := 25, nameIndex := 137, descriptorIndex := 25, attributes := #[] }, { accessFlags := 25, nameIndex := 143, descriptorIndex := 25, attributes := #[] }, { accessFlags := 25, nameIndex := 53, descriptorIndex := 25, attributes := #[] }, { accessFlags := 25, nameIndex := 24, descriptorIndex := 25, attributes := #[] }, { accessFlags := 25, nameIndex := 162, descriptorIndex := 25, attributes := #[] }, { accessFlags := 25, nameIndex := 187, descriptorIndex := 25, attributes := #[] }, { accessFlags := 26, nameIndex := 48, descriptorIndex := 25, attributes := #[] }, { accessFlags := 25, nameIndex := 277, descriptorIndex := 25, attributes := #[] }, { accessFlags := 25, nameIndex := 280, descriptorIndex := 25, attributes := #[] }, { accessFlags := 25, nameIndex := 282, descriptorIndex := 25, attributes := #[] }, { accessFlags := 25, nameIndex := 284, descriptorIndex := 25, attributes := #[] }, { accessFlags := 25, nameIndex := 286, descriptorIndex := 25, attributes := #[] }, { accessFlags := 25, nameIndex := 288, descriptorIndex := 25, attributes := #[] }, { accessFlags := 25, nameIndex := 290, descriptorIndex := 25, attributes := #[] }, { accessFlags := 25, nameIndex := 292, descriptorIndex := 25, attributes := #[] }, { accessFlags := 26, nameIndex := 108, descriptorIndex := 109, attributes := #[] }, { accessFlags := 25, nameIndex := 294, descriptorIndex := 25, attributes := #[] }])
  fields := #[{ name := "U", type := (.object "jdk/internal/misc/Unsafe"), accessFlags := 24, slot := 0, constantValue := 0 }, { name := "BIG_ENDIAN", type := .boolean, accessFlags := 26, slot := 1, constantValue := 0 }, { name := "LOG2_ARRAY_BOOLEAN_INDEX_SCALE", type := .int, accessFlags := 25, slot := 2, constantValue := 0 }, { name := "LOG2_ARRAY_BYTE_INDEX_SCALE", type := .int, accessFlags := 25, slot := 3, constantValue := 0 }, { name := "LOG2_ARRAY_CHAR_INDEX_SCALE", type := .int, accessFlags := 25, slot := 4, constantValue := 0 }, { name := "LOG2_ARRAY_SHORT_INDEX_SCALE", type := .int, accessFlags := 25, slot := 5, constantValue := 0 }, { name := "LOG2_ARRAY_INT_INDEX_SCALE", type := .int, accessFlags := 25, slot := 6, constantValue := 0 }, { name := "LOG2_ARRAY_LONG_INDEX_SCALE", type := .int, accessFlags := 25, slot := 7, constantValue := 0 }, { name := "LOG2_ARRAY_FLOAT_INDEX_SCALE", type := .int, accessFlags := 25, slot := 8, constantValue := 0 }, { name := "LOG2_ARRAY_DOUBLE_INDEX_SCALE", type := .int, accessFlags := 25, slot := 9, constantValue := 0 }, { name := "LOG2_BYTE_BIT_SIZE", type := .int, accessFlags := 26, slot := 10, constantValue := 0 }, { name := "T_BOOLEAN", type := .int, accessFlags := 25, slot := 11, constantValue := 0 }, { name := "T_CHAR", type := .int, accessFlags := 25, slot := 12, constantValue := 0 }, { name := "T_FLOAT", type := .int, accessFlags := 25, slot := 13, constantValue := 0 }, { name := "T_DOUBLE", type := .int, accessFlags := 25, slot := 14, constantValue := 0 }, { name := "T_BYTE", type := .int, accessFlags := 25, slot := 15, constantValue := 0 }, { name := "T_SHORT", type := .int, accessFlags := 25, slot := 16, constantValue := 0 }, { name := "T_INT", type := .int, accessFlags := 25, slot := 17, constantValue := 0 }, { name := "T_LONG", type := .int, accessFlags := 25, slot := 18, constantValue := 0 }, { name := "JLA", type := (.object "jdk/internal/access/JavaLangAccess"), accessFlags := 26, slot := 19, constantValue := 0 }, { name := "SOFT_MAX_ARRAY_LENGTH", type := .int, accessFlags := 25, slot := 20, constantValue := 0 }]
  methods := #[k13m0]
  instanceTypes := #[]
  staticTypes := #[(.object "jdk/internal/misc/Unsafe"), .boolean, .int, .int, .int, .int, .int, .int, .int, .int, .int, .int, .int, .int, .int, .int, .int, .int, .int, (.object "jdk/internal/access/JavaLangAccess"), .int]
  resolved := Array.replicate 378 none
  statics := none }

/-- the primitive byte -/
def k14 : Class := { plain "byte" none with kind := .primitive 'B', accessFlags := 0x411 }
/-- [B -/
def k15 : Class := { plain "[B" (some 0) with kind := .array 14 .byte, interfaces := #[11, 2], accessFlags := 1041 }

/-- the primitive char -/
def k16 : Class := { plain "char" none with kind := .primitive 'C', accessFlags := 0x411 }
/-- [C -/
def k17 : Class := { plain "[C" (some 0) with kind := .array 16 .char, interfaces := #[11, 2], accessFlags := 1041 }

/-- the primitive int -/
def k18 : Class := { plain "int" none with kind := .primitive 'I', accessFlags := 0x411 }
/-- [I -/
def k19 : Class := { plain "[I" (some 0) with kind := .array 18 .int, interfaces := #[11, 2], accessFlags := 1041 }

/-- [Lholdtrue/Operand$ArithmeticOperator; -/
def k20 : Class := { plain "[Lholdtrue/Operand$ArithmeticOperator;" (some 0) with kind := .array 10 (.object "holdtrue/Operand$ArithmeticOperator"), interfaces := #[11, 2], accessFlags := 1041 }

def heap : Heap := #[{ cls := 7, slots := #[.long 0, .int 1, .null, .int 0, .null, .int 0, .int 0], vm := .statics 7 },
  { cls := 10, slots := #[.ref 4, .ref 5, .ref 6, .ref 7, .int 0, .ref 3], vm := .statics 10 },
  { cls := 12, slots := #[.null, .null, .null], vm := .statics 12 },
  { cls := 20, slots := #[.ref 4, .ref 5, .ref 6, .ref 7], vm := .none },
  { cls := 10, slots := #[.null, .int 0, .int 0, .ref 8], vm := .none },
  { cls := 10, slots := #[.null, .int 1, .int 0, .ref 9], vm := .none },
  { cls := 10, slots := #[.null, .int 2, .int 0, .ref 10], vm := .none },
  { cls := 10, slots := #[.null, .int 3, .int 0, .ref 11], vm := .none },
  { cls := 7, slots := #[.ref 12, .int 0, .int 0, .int 0], vm := .none },
  { cls := 7, slots := #[.ref 13, .int 0, .int 0, .int 0], vm := .none },
  { cls := 7, slots := #[.ref 14, .int 0, .int 0, .int 0], vm := .none },
  { cls := 7, slots := #[.ref 15, .int 0, .int 0, .int 0], vm := .none },
  { cls := 15, slots := #[.int 43], vm := .none },
  { cls := 15, slots := #[.int 45], vm := .none },
  { cls := 15, slots := #[.int 42], vm := .none },
  { cls := 15, slots := #[.int 47], vm := .none }]
def classes : Array Class := #[k0, k1, k2, k3, k4, k5, k6, k7, k8, k9, k10, k11, k12, k13, k14, k15, k16, k17, k18, k19, k20]
def interned : List (Array UInt16 × Addr) := []
def slotsUsed : Nat := 56
def theMethod : MethodId := ⟨1, 1⟩
def args0 : Array Value := #[.int 5]
def aboutOver (below : List Frame) : State where
  vm := { classes := classes, interned := interned.toArray }
  heap := heap
  slotsUsed := slotsUsed
  threads := #[{ frames := .invoking theMethod args0 :: below }]
def below0 : List Frame := [.native { method := ⟨0, 0⟩, args := #[] }]
def about1 : State := aboutOver below0
def p0 : Program := .bare "" "" ""
def e0 : Env := launch0.env 0 0 0
theorem w_frames : about1.frames = Frame.invoking theMethod args0 :: below0 := rfl
set_option maxRecDepth 65536 in
theorem w_args : argsFit about1.vm theMethod args0 = true := by decide +kernel
set_option maxRecDepth 65536 in
theorem w_heap : heapFits about1 = true := by decide +kernel
set_option maxRecDepth 65536 in
theorem w_runnable : about1.curStatus? = some .runnable := by decide +kernel
set_option maxRecDepth 65536 in
theorem w_alone : about1.alone = true := by decide +kernel
set_option maxRecDepth 65536 in
theorem w_named : about1.methodNamed? x = some theMethod := by decide +kernel
set_option maxRecDepth 65536 in
theorem w_hears : about1.hears theMethod below0 = true := by decide +kernel
set_option maxRecDepth 65536 in
theorem w_ripe : about1.ripe theMethod args0 below0 = true := by decide +kernel
theorem w_running : about1.status = .running := rfl
set_option maxRecDepth 65536 in
theorem w_room : about1.hasRoom e0.platform room_1 = true :=
  launch0.hasRoom_least _ room_1 (by decide +kernel) (by decide +kernel) (by decide +kernel) (by decide +kernel) (by decide +kernel) (by decide +kernel)
theorem allAtoms_all (ts : List Jvm.Cond) (a : Array Jvm.Value) (st : Jvm.State) : (allAtoms ts).before a st = ts.all (fun c => c.before a st) := by
  induction ts with
  | nil => rfl
  | cons c t ih =>
    show (Jvm.Cond.and c (allAtoms t)).before a st = _
    rw [Jvm.Cond.before_and, ih, List.all_cons]
def words1 : List Jvm.Cond := Jvm.Cond.code x code maxLocals ret :: tables_1
/-- a 'code' word, met by the world's own term for the bytes: nothing is compared byte by byte -/
theorem code_word {y : MethodName} {bytes : ByteArray} {mx : Nat} {rt : Option FieldType} {a : Array Value} {s : State} {m : MethodId} {meth : Method} {c : Code} (h1 : s.methodNamed? y = some m) (h2 : s.vm.method? m = some meth) (h3 : meth.code = some c) (h4 : c.code = bytes)
    (h5 : (c.maxLocals == mx && c.exceptionTable.isEmpty && decide (c.maxStack ≤ mostOperands) && decide (meth.sig.returnType = rt) && !meth.locks && decide (parseMethodDescriptor y.desc = some meth.sig)) = true) : (Jvm.Cond.code y bytes mx rt).before a s = true := by
  simp only [Bool.and_eq_true, beq_iff_eq, Bool.not_eq_true', decide_eq_true_eq] at h5
  obtain ⟨⟨⟨⟨⟨g1, g2⟩, g3⟩, g4⟩, g5⟩, g6⟩ := h5
  simp [Cond.before, Cond.holds, Cond.value, h1, h2, h3, h4, g1, g2, g3, g4, g5, g6]
def isCode : Jvm.Cond → Bool
  | .code _ _ _ _ => true
  | _ => false
theorem all_split {L : List Jvm.Cond} {P : Jvm.Cond → Bool} (h1 : L.all (fun c => isCode c || P c) = true) (h2 : ∀ c ∈ L.filter isCode, P c = true) : L.all P = true := by
  refine List.all_eq_true.mpr fun c hc => ?_
  have h := List.all_eq_true.mp h1 c hc
  rcases Bool.eq_false_or_eq_true (isCode c) with hi | hi
  · exact h2 c (List.mem_filter.mpr ⟨hc, hi⟩)
  · simpa [hi] using h
set_option maxRecDepth 65536 in
theorem w_c0 : (Jvm.Cond.code x code maxLocals ret).before args0 about1 = true := code_word (m := ⟨1, 1⟩) (meth := k1m1) (c := k1c1) (by decide +kernel) rfl rfl rfl (by decide +kernel)
set_option maxRecDepth 65536 in
theorem w_c1 : (Jvm.Cond.code ({ cls := "java/lang/String", name := "valueOf", desc := "(C)Ljava/lang/String;" } : Jvm.MethodName) jdk_42_method_139_code (1 : Nat) (Option.some (Jvm.ClassFile.FieldType.object "java/lang/String"))).before args0 about1 = true := code_word (m := ⟨7, 2⟩) (meth := k7m2) (c := k7c2) (by decide +kernel) rfl rfl rfl (by decide +kernel)
set_option maxRecDepth 65536 in
theorem w_c2 : (Jvm.Cond.code ({ cls := "java/lang/StringLatin1", name := "canEncode", desc := "(C)Z" } : Jvm.MethodName) jdk_43_method_3_code (1 : Nat) (Option.some Jvm.ClassFile.FieldType.boolean)).before args0 about1 = true := code_word (m := ⟨8, 1⟩) (meth := k8m1) (c := k8c1) (by decide +kernel) rfl rfl rfl (by decide +kernel)
set_option maxRecDepth 65536 in
theorem w_c3 : (Jvm.Cond.code ({ cls := "java/lang/StringLatin1", name := "toBytes", desc := "(C)[B" } : Jvm.MethodName) jdk_43_method_46_code (1 : Nat) (Option.some (Jvm.ClassFile.FieldType.array Jvm.ClassFile.FieldType.byte))).before args0 about1 = true := code_word (m := ⟨8, 3⟩) (meth := k8m3) (c := k8c3) (by decide +kernel) rfl rfl rfl (by decide +kernel)
set_option maxRecDepth 65536 in
theorem w_c4 : (Jvm.Cond.code ({ cls := "java/lang/String", name := "<init>", desc := "([BB)V" } : Jvm.MethodName) jdk_42_method_151_code (3 : Nat) (Option.none : Option Jvm.ClassFile.FieldType)).before args0 about1 = true := code_word (m := ⟨7, 3⟩) (meth := k7m3) (c := k7c3) (by decide +kernel) rfl rfl rfl (by decide +kernel)
set_option maxRecDepth 65536 in
theorem w_c5 : (Jvm.Cond.code ({ cls := "java/lang/Object", name := "<init>", desc := "()V" } : Jvm.MethodName) object_method_1_code (1 : Nat) (Option.none : Option Jvm.ClassFile.FieldType)).before args0 about1 = true := code_word (m := ⟨0, 0⟩) (meth := k0m0) (c := k0c0) (by decide +kernel) rfl rfl rfl (by decide +kernel)
set_option maxRecDepth 65536 in
theorem w_c6 : (Jvm.Cond.code ({ cls := "holdtrue/Operand$ArithmeticOperator", name := "of", desc := "(Ljava/lang/String;)Lholdtrue/Operand$ArithmeticOperator;" } : Jvm.MethodName) prog_55_method_4_code (5 : Nat) (Option.some (Jvm.ClassFile.FieldType.object "holdtrue/Operand$ArithmeticOperator"))).before args0 about1 = true := code_word (m := ⟨10, 1⟩) (meth := k10m1) (c := k10c1) (by decide +kernel) rfl rfl rfl (by decide +kernel)
set_option maxRecDepth 65536 in
theorem w_c7 : (Jvm.Cond.code ({ cls := "holdtrue/Operand$ArithmeticOperator", name := "values", desc := "()[Lholdtrue/Operand$ArithmeticOperator;" } : Jvm.MethodName) prog_55_method_1_code (0 : Nat) (Option.some (Jvm.ClassFile.FieldType.array (Jvm.ClassFile.FieldType.object "holdtrue/Operand$ArithmeticOperator")))).before args0 about1 = true := code_word (m := ⟨10, 0⟩) (meth := k10m0) (c := k10c0) (by decide +kernel) rfl rfl rfl (by decide +kernel)
set_option maxRecDepth 65536 in
theorem w_c8 : (Jvm.Cond.code ({ cls := "java/lang/String", name := "equals", desc := "(Ljava/lang/Object;)Z" } : Jvm.MethodName) jdk_42_method_66_code (3 : Nat) (Option.some Jvm.ClassFile.FieldType.boolean)).before args0 about1 = true := code_word (m := ⟨7, 1⟩) (meth := k7m1) (c := k7c1) (by decide +kernel) rfl rfl rfl (by decide +kernel)
set_option maxRecDepth 65536 in
theorem w_c9 : (Jvm.Cond.code ({ cls := "java/lang/StringLatin1", name := "equals", desc := "([B[B)Z" } : Jvm.MethodName) jdk_43_method_13_code (3 : Nat) (Option.some Jvm.ClassFile.FieldType.boolean)).before args0 about1 = true := code_word (m := ⟨8, 2⟩) (meth := k8m2) (c := k8c2) (by decide +kernel) rfl rfl rfl (by decide +kernel)
set_option maxRecDepth 65536 in
theorem w_c10 : (Jvm.Cond.code ({ cls := "holdtrue/Operand$ArithmeticOperator", name := "additive", desc := "()Z" } : Jvm.MethodName) prog_55_method_5_code (1 : Nat) (Option.some Jvm.ClassFile.FieldType.boolean)).before args0 about1 = true := code_word (m := ⟨10, 2⟩) (meth := k10m2) (c := k10c2) (by decide +kernel) rfl rfl rfl (by decide +kernel)
def codes1 : List Jvm.Cond := [Jvm.Cond.code x code maxLocals ret, Jvm.Cond.code ({ cls := "java/lang/String", name := "valueOf", desc := "(C)Ljava/lang/String;" } : Jvm.MethodName) jdk_42_method_139_code (1 : Nat) (Option.some (Jvm.ClassFile.FieldType.object "java/lang/String")), Jvm.Cond.code ({ cls := "java/lang/StringLatin1", name := "canEncode", desc := "(C)Z" } : Jvm.MethodName) jdk_43_method_3_code (1 : Nat) (Option.some Jvm.ClassFile.FieldType.boolean), Jvm.Cond.code ({ cls := "java/lang/StringLatin1", name := "toBytes", desc := "(C)[B" } : Jvm.MethodName) jdk_43_method_46_code (1 : Nat) (Option.some (Jvm.ClassFile.FieldType.array Jvm.ClassFile.FieldType.byte)), Jvm.Cond.code ({ cls := "java/lang/String", name := "<init>", desc := "([BB)V" } : Jvm.MethodName) jdk_42_method_151_code (3 : Nat) (Option.none : Option Jvm.ClassFile.FieldType), Jvm.Cond.code ({ cls := "java/lang/Object", name := "<init>", desc := "()V" } : Jvm.MethodName) object_method_1_code (1 : Nat) (Option.none : Option Jvm.ClassFile.FieldType), Jvm.Cond.code ({ cls := "holdtrue/Operand$ArithmeticOperator", name := "of", desc := "(Ljava/lang/String;)Lholdtrue/Operand$ArithmeticOperator;" } : Jvm.MethodName) prog_55_method_4_code (5 : Nat) (Option.some (Jvm.ClassFile.FieldType.object "holdtrue/Operand$ArithmeticOperator")), Jvm.Cond.code ({ cls := "holdtrue/Operand$ArithmeticOperator", name := "values", desc := "()[Lholdtrue/Operand$ArithmeticOperator;" } : Jvm.MethodName) prog_55_method_1_code (0 : Nat) (Option.some (Jvm.ClassFile.FieldType.array (Jvm.ClassFile.FieldType.object "holdtrue/Operand$ArithmeticOperator"))), Jvm.Cond.code ({ cls := "java/lang/String", name := "equals", desc := "(Ljava/lang/Object;)Z" } : Jvm.MethodName) jdk_42_method_66_code (3 : Nat) (Option.some Jvm.ClassFile.FieldType.boolean), Jvm.Cond.code ({ cls := "java/lang/StringLatin1", name := "equals", desc := "([B[B)Z" } : Jvm.MethodName) jdk_43_method_13_code (3 : Nat) (Option.some Jvm.ClassFile.FieldType.boolean), Jvm.Cond.code ({ cls := "holdtrue/Operand$ArithmeticOperator", name := "additive", desc := "()Z" } : Jvm.MethodName) prog_55_method_5_code (1 : Nat) (Option.some Jvm.ClassFile.FieldType.boolean)]
set_option maxRecDepth 65536 in
theorem codes_eq : words1.filter isCode = codes1 := rfl
theorem w_codes : ∀ c ∈ words1.filter isCode, c.before args0 about1 = true := by
  rw [codes_eq]
  intro c hc
  simp only [codes1, List.mem_cons, List.not_mem_nil, or_false] at hc
  rcases hc with rfl | rfl | rfl | rfl | rfl | rfl | rfl | rfl | rfl | rfl | rfl
  · exact w_c0
  · exact w_c1
  · exact w_c2
  · exact w_c3
  · exact w_c4
  · exact w_c5
  · exact w_c6
  · exact w_c7
  · exact w_c8
  · exact w_c9
  · exact w_c10
set_option maxRecDepth 65536 in
theorem w_t1 : (words1.take 24).all (fun c => isCode c || c.before args0 about1) = true := by decide +kernel
set_option maxRecDepth 65536 in
theorem w_t2 : ((words1.drop 24).take 24).all (fun c => isCode c || c.before args0 about1) = true := by decide +kernel
set_option maxRecDepth 65536 in
theorem w_t3 : ((words1.drop 24).drop 24).all (fun c => isCode c || c.before args0 about1) = true := by decide +kernel
theorem w_tables : (allAtoms (Jvm.Cond.code x code maxLocals ret :: tables_1)).before args0 about1 = true := by
  rw [allAtoms_all]
  show words1.all (fun c => c.before args0 about1) = true
  refine all_split ?_ w_codes
  rw [← List.take_append_drop 24 words1, List.all_append, w_t1, ← List.take_append_drop 24 (words1.drop 24), List.all_append, w_t2, w_t3]
  rfl
set_option maxRecDepth 65536 in
theorem w_rest : rest_1_c.before args0 about1 = true := by decide +kernel
set_option maxRecDepth 65536 in
theorem w_case : (Jvm.Cond.and given_1 narrow_1).before args0 about1 = true := by decide +kernel
theorem w_applies : (headSpec (Jvm.Cond.code x code maxLocals ret :: tables_1) room_1).applies x e0.platform about1 = true :=
  (Spec.applies_iff w_frames).mpr ⟨w_running, w_runnable, w_alone, w_named, w_hears, w_ripe, w_room, w_tables⟩
theorem atStart : AtStart classFile x code maxLocals ret World_1 tables_1 room_1 Calls_1 rest_1 Pre_1 launch0 p0 e0 about1 theMethod args0 below0 :=
  ⟨lists_1, trivial, launch0.admits_env _ _ _, launch0.least_env, fairChoices_fair.cas, fairChoices_fair.clock, w_frames, w_args, w_heap, w_applies, trivial, w_rest, w_case⟩
end start1
theorem witness_1 : WitnessClaimed_1 := ⟨start1.p0, start1.e0, start1.about1, start1.theMethod, start1.args0, start1.below0, start1.atStart⟩
end Jvm.Pilot.@@N@@
