import JvmDerived
import JvmDerived.Pilot.@@N@@Statement
import JvmDerived.Pilot.@@N@@Code
set_option linter.unusedVariables false
set_option linter.unusedSimpArgs false
namespace Jvm.Pilot.@@N@@
open Jvm Jvm.ClassFile Sem Op Lib Jvm.Free Jvm.Stand Jvm.LawKit Jvm.RoadKit Bundle Jvm.Pilot.@@N@@.Jvm.D
section OwnKit
variable {p : Program} {l : Launch} {e : Env} {R : Room} {s : State} {m : MethodId} {args : Array Value} {below : List Frame} {meth : Method} {c : Code} {T : State} {locs : List Loc} {cells slots : Nat} {Z : State} {a0 : Array Value} {h h' h0 : Heap}
/-- the run comes, from the frame g over T, to an end of which F holds -/
def own_Go (tb : Tables) (e : Env) (below : List Frame) (F : State → Outcome → Prop) (T : State) (g : JFrame) : Prop := ∃ s₂ o, Steps tb e below (T.setTop g) s₂ ∧ F s₂ o
theorem own_st {tb : Tables} {F : State → Outcome → Prop} {T' : State} {g g' : JFrame} (st : ∀ t, Steps tb e below (T'.setTop g') t → Steps tb e below (T.setTop g) t) (k : own_Go tb e below F T' g') : own_Go tb e below F T g := by
  obtain ⟨a, o, h1, h2⟩ := k
  exact ⟨a, o, st a h1, h2⟩
/-- the end that a contract asks -/
def own_F (below : List Frame) (s : State) (Q : Option Value → Heap → List Loc → Prop) (C S : Nat) : State → Outcome → Prop := fun s₂ o => s₂.status = .running ∧ Ended s₂ below o ∧ ∃ v L, o = .returned v ∧ Q v s₂.heap L ∧ FrameEnd s o s₂ L C S
/-- what a body's walk knows of the body -/
def own_In (p : Program) (s : State) (m : MethodId) (meth : Method) (c : Code) (Z : State) (bytes : ByteArray) (maxL : Nat) (own nm : String) (ret : Option FieldType) : Prop := p.tables.exec = Jvm.exec ∧ c.code = bytes ∧ c.maxLocals = maxL ∧ s.vm.findClass own = some m.cls ∧ meth.name = nm ∧ meth.sig.returnType = ret ∧ meth.locks = false ∧ Z.Warmed39 s.vm
theorem own_enter {y : MethodName} {bytes : ByteArray} {maxL : Nat} {ret : Option FieldType} {ws : List Jvm.Cond} {rm : Room} {as' : Array Value} {Q : Option Value → Heap → List Loc → Prop} {C S : Nat} (hp : plainFor y = true)
    (body : ∀ (p : Program) (e : Env) (s : State) (m : MethodId) (below : List Frame) (meth : Method) (c : Code) (T : State), Stand p l e rm s m as' below meth c T [] 0 0 → own_In p s m meth c Z bytes maxL y.cls y.name ret → T.heap = h0 → own_Go p.tables e below (own_F below s Q C S) T (entryFrame m as' maxL)) :
    MetFree l y (head1 (Jvm.Cond.code y bytes maxL ret :: ws) rm) (fun a U => a = as' ∧ Z.Warmed39 U.vm ∧ U.heap = h0) (fun _ _ _ _ _ => True) (fun _ U o U' => ∃ v L, o = .returned v ∧ Q v U'.heap L ∧ FrameEnd U o U' L C S) := by
  refine MetFree.of_bodySF hp hisR ?_
  intro p e s m args below meth c s₁ Bd hml0 hP hK
  obtain ⟨rfl, hZ, hh⟩ := hP
  exact body p e s m below meth c s₁ (Stand.of_body Bd) ⟨Bd.exec, Bd.bytes, hml0, findClass_of_methodNamed Bd.named, (name_of_methodNamed Bd.named Bd.method).1, Bd.returns, Bd.notSynchronized, hZ⟩ (by rw [← hh, Bd.state]; rfl)
theorem own_cast {tb : Tables} {F : State → Outcome → Prop} {g g' : JFrame} (q : g = g') (k : own_Go tb e below F T g') : own_Go tb e below F T g := q ▸ k
/-- the end of a walk: a boolean, byte, char or short -/
theorem own_retN (X : Stand p l e R s m args below meth c T locs cells slots) (hx : p.tables.exec = Jvm.exec) {t : FieldType} (hret : meth.sig.returnType = some t) (ht : t = .boolean ∨ t = .byte ∨ t = .char ∨ t = .short) (hlk : meth.locks = false) {pc : Nat} {Ls : Array Slot} {z : Int32} {rest : List Value}
    (hd : decode c.code pc = .ok (.ireturn, 1)) {Q : Option Value → Heap → List Loc → Prop} {C S : Nat} (hQ : Q (some (.int (nar t z))) T.heap locs) (hC : cells ≤ C) (hS : slots ≤ S) : own_Go p.tables e below (own_F below s Q C S) T (mkF m pc Ls (.int z :: rest)) := by
  obtain ⟨fs, hr, hrun, hended, hW, hsame⟩ := X.leave (v := some (.int (nar t z))) (fun q => by rw [hret] at q; cases q)
  exact ⟨_, _, retN X hx hret ht hd hr, hrun, hended, _, _, rfl, hQ, ⟨_, rfl⟩, hW, hsame.mono hC hS⟩
theorem own_retO (X : Stand p l e R s m args below meth c T locs cells slots) (hx : p.tables.exec = Jvm.exec) {t : FieldType} (hret : meth.sig.returnType = some t) (hlk : meth.locks = false) {pc : Nat} {Ls : Array Slot} {w : Value} {i : Instr} {rest : List Value} (hn : narrow t w = w)
    (hi : (i = .ireturn ∧ (t = .int ∨ t = .boolean ∨ t = .byte ∨ t = .char ∨ t = .short) ∧ ∃ z, w = .int z) ∨ (i = .lreturn ∧ t = .long ∧ ∃ z, w = .long z) ∨ (i = .dreturn ∧ t = .double ∧ ∃ z, w = .double z) ∨ (i = .freturn ∧ t = .float ∧ ∃ z, w = .float z) ∨ (i = .areturn ∧ t.isReference = true ∧ w.isRef = true))
    (hd : decode c.code pc = .ok (i, 1)) {Q : Option Value → Heap → List Loc → Prop} {C S : Nat} (hQ : Q (some w) T.heap locs) (hC : cells ≤ C) (hS : slots ≤ S) : own_Go p.tables e below (own_F below s Q C S) T (mkF m pc Ls (w :: rest)) := by
  obtain ⟨fs, hr, hrun, hended, hW, hsame⟩ := X.leave (v := some w) (fun q => by rw [hret] at q; cases q)
  exact ⟨_, _, retOut X hx hret hn hi hd hr, hrun, hended, _, _, rfl, hQ, ⟨_, rfl⟩, hW, hsame.mono hC hS⟩
/-- a reference -/
theorem own_retA (X : Stand p l e R s m args below meth c T locs cells slots) (hx : p.tables.exec = Jvm.exec) {t : FieldType} (hret : meth.sig.returnType = some t) (ht : t.isReference = true) (hlk : meth.locks = false) {pc : Nat} {Ls : Array Slot} {w : Value} {rest : List Value} (hw : w.isRef = true)
    (hd : decode c.code pc = .ok (.areturn, 1)) {Q : Option Value → Heap → List Loc → Prop} {C S : Nat} (hQ : Q (some w) T.heap locs) (hC : cells ≤ C) (hS : slots ≤ S) : own_Go p.tables e below (own_F below s Q C S) T (mkF m pc Ls (w :: rest)) := by
  refine own_retO X hx hret hlk ?_ (Or.inr (Or.inr (Or.inr (Or.inr ⟨rfl, ht, hw⟩)))) hd hQ hC hS
  rcases ref_cases hw with rfl | ⟨a, rfl⟩ <;> cases t <;> first | rfl | (simp [FieldType.isReference] at ht)
/-- an int -/
theorem own_retI (X : Stand p l e R s m args below meth c T locs cells slots) (hx : p.tables.exec = Jvm.exec) (hret : meth.sig.returnType = some .int) (hlk : meth.locks = false) {pc : Nat} {Ls : Array Slot} {z : Int32} {rest : List Value}
    (hd : decode c.code pc = .ok (.ireturn, 1)) {Q : Option Value → Heap → List Loc → Prop} {C S : Nat} (hQ : Q (some (.int z)) T.heap locs) (hC : cells ≤ C) (hS : slots ≤ S) : own_Go p.tables e below (own_F below s Q C S) T (mkF m pc Ls (.int z :: rest)) :=
  own_retO X hx hret hlk rfl (Or.inl ⟨rfl, Or.inl rfl, z, rfl⟩) hd hQ hC hS
/-- nothing -/
theorem own_retV (X : Stand p l e R s m args below meth c T locs cells slots) (hx : p.tables.exec = Jvm.exec) (hret : meth.sig.returnType = none) (hlk : meth.locks = false) {pc : Nat} {Ls : Array Slot}
    (hd : decode c.code pc = .ok (.return_, 1)) {Q : Option Value → Heap → List Loc → Prop} {C S : Nat} (hQ : Q none T.heap locs) (hC : cells ≤ C) (hS : slots ≤ S) : own_Go p.tables e below (own_F below s Q C S) T (mkF m pc Ls []) := by
  obtain ⟨fs, hr, hrun, hended, hW, hsame⟩ := X.leave (v := none) (fun _ => rfl)
  exact ⟨_, _, X.returnOut hx hret hd hr, hrun, hended, _, _, rfl, hQ, ⟨_, rfl⟩, hW, hsame.mono hC hS⟩
/-- calls, each by its callee's contract -/
theorem own_callS (X : Stand p l e R s m args below meth c T locs cells slots) (hx : p.tables.exec = Jvm.exec) (hZ : Z.Warmed39 s.vm) {own : String} {index : Nat} {y : MethodName} {bytes : ByteArray} {maxL : Nat} {ret : Option FieldType} (hown : s.vm.findClass own = some m.cls)
    (w1 : (Jvm.Cond.methodLink own index y).before a0 Z = true) (w2 : (Jvm.Cond.static y).before a0 Z = true) (w3 : (Jvm.Cond.initialized y.cls).before a0 Z = true) (w4 : (Jvm.Cond.code y bytes maxL ret).before a0 Z = true) (hy : y.cls ≠ "java/lang/invoke/MethodHandle" ∧ y.cls ≠ "java/lang/invoke/VarHandle")
    {rm : Room} {as' : Array Value} {Q : Option Value → Heap → List Loc → Prop} (hM : MetFree l y (head1 [Jvm.Cond.code y bytes maxL ret] rm) (fun a U => a = as' ∧ Z.Warmed39 U.vm ∧ U.heap = h) (fun _ _ _ _ _ => True) (fun _ U o U' => ∃ v L, o = .returned v ∧ Q v U'.heap L ∧ FrameEnd U o U' L rm.cells rm.slots))
    (eT : T.heap = h) {g : JFrame} (hg : g.method = m) (hsize : g.locals.size = c.maxLocals) {argsL rest : List Value} (hlen : ∀ sig, parseMethodDescriptor y.desc = some sig → argsL.length = sig.parameters.length) (hstack : g.stack = argsL.reverse ++ rest) (has : argsL.toArray = as') {W : Nat} (hW : 2 * g.monitorRoom + (rest.map fun v => v.category).sum ≤ W)
    (hd : decode c.code g.pc = .ok (.invokestatic index, 3)) (hf : rm.frames + 1 ≤ R.frames) (hl : W + (maxL + 11) + rm.locals ≤ R.locals) (hc : cells + rm.cells ≤ R.cells) (hs : slots + rm.slots ≤ R.slots) :
    ∃ v T' L, Q v T'.heap L ∧ Stand p l e R s m args below meth c T' (locs ++ L) (cells + rm.cells) (slots + rm.slots) ∧ ∀ t, Steps p.tables e below (T'.setTop { g with pc := g.pc + 3, stack := v.toList ++ rest }) t → Steps p.tables e below (T.setTop g) t := by
  obtain ⟨v, vm₁, ⟨T', L', k', n'⟩, -, X', ⟨L, hQ, l1, y1, z1⟩, st⟩ := Jvm.LawKit.callS X hx (y := y) hown (mvT hZ w1) (mvT hZ w2) (mvT hZ w3) (mvT hZ w4) hy (backOf (W := W) hM hZ w4 w3 hf hl) hg hsize (argsL := argsL) (rest := rest) hlen hstack hW hd (fun _ _ => ⟨has, eT, hc, hs⟩)
  dsimp only [Pt.U, Pt.locs, Pt.cells, Pt.slots] at X' l1 y1 z1 st hQ
  subst l1 y1 z1
  exact ⟨v, T', L, hQ, X', st⟩
theorem own_callI (X : Stand p l e R s m args below meth c T locs cells slots) (hx : p.tables.exec = Jvm.exec) (hZ : Z.Warmed39 s.vm) {own : String} {index : Nat} {y : MethodName} {bytes : ByteArray} {maxL : Nat} (hn : y.name = "<init>") (hown : s.vm.findClass own = some m.cls)
    (w1 : (Jvm.Cond.methodLink own index y).before a0 Z = true) (w2 : (Jvm.Cond.instanceMethod y).before a0 Z = true) (w3 : (Jvm.Cond.initialized y.cls).before a0 Z = true) (w4 : (Jvm.Cond.code y bytes maxL none).before a0 Z = true) (hy : y.cls ≠ "java/lang/invoke/MethodHandle" ∧ y.cls ≠ "java/lang/invoke/VarHandle")
    {rm : Room} {as' : Array Value} {Q : Option Value → Heap → List Loc → Prop} (hM : MetFree l y (head1 [Jvm.Cond.code y bytes maxL none] rm) (fun a U => a = as' ∧ Z.Warmed39 U.vm ∧ U.heap = h) (fun _ _ _ _ _ => True) (fun _ U o U' => ∃ v L, o = .returned v ∧ Q v U'.heap L ∧ FrameEnd U o U' L rm.cells rm.slots))
    (eT : T.heap = h) {g : JFrame} (hg : g.method = m) (hsize : g.locals.size = c.maxLocals) {a : Addr} {argsL rest : List Value} (hlen : ∀ sig, parseMethodDescriptor y.desc = some sig → argsL.length = sig.parameters.length) (hstack : g.stack = argsL.reverse ++ .ref a :: rest) (has : (.ref a :: argsL).toArray = as') {W : Nat} (hW : 2 * g.monitorRoom + (rest.map fun v => v.category).sum ≤ W)
    (hd : decode c.code g.pc = .ok (.invokespecial index, 3)) (hf : rm.frames + 1 ≤ R.frames) (hl : W + (maxL + 11) + rm.locals ≤ R.locals) (hc : cells + rm.cells ≤ R.cells) (hs : slots + rm.slots ≤ R.slots) :
    ∃ v T' L, Q v T'.heap L ∧ Stand p l e R s m args below meth c T' (locs ++ L) (cells + rm.cells) (slots + rm.slots) ∧ ∀ t, Steps p.tables e below (T'.setTop { g with pc := g.pc + 3, stack := v.toList ++ rest }) t → Steps p.tables e below (T.setTop g) t := by
  obtain ⟨v, vm₁, ⟨T', L', k', n'⟩, -, X', ⟨L, hQ, l1, y1, z1⟩, st⟩ := X.specialBack hx (y := y) hn hown (mvT hZ w1) (mvT hZ w2) (mvT hZ w4) hy (backOf (W := W) hM hZ w4 w3 hf hl) hg hsize (Steps.refl _) (a := a) (argsL := argsL) (rest := rest) hlen hstack hW hd (fun _ _ => ⟨has, eT, hc, hs⟩)
  dsimp only [Pt.U, Pt.locs, Pt.cells, Pt.slots] at X' l1 y1 z1 st hQ
  subst l1 y1 z1
  exact ⟨v, T', L, hQ, X', fun t k => st.trans k⟩
theorem own_callV (X : Stand p l e R s m args below meth c T locs cells slots) (hx : p.tables.exec = Jvm.exec) (hZ : Z.Warmed39 s.vm) {own C : String} {index : Nat} {y : MethodName} {bytes : ByteArray} {maxL : Nat} {ret : Option FieldType} (hown : s.vm.findClass own = some m.cls)
    (w1 : (Jvm.Cond.methodLink own index y).before a0 Z = true) (w2 : (Jvm.Cond.declares y).before a0 Z = true) (w3 : (Jvm.Cond.selects C y y).before a0 Z = true) (w5 : (Jvm.Cond.instanceMethod y).before a0 Z = true) (w6 : (Jvm.Cond.initialized y.cls).before a0 Z = true) (w4 : (Jvm.Cond.code y bytes maxL ret).before a0 Z = true) (hy : y.cls ≠ "java/lang/invoke/MethodHandle" ∧ y.cls ≠ "java/lang/invoke/VarHandle")
    {rm : Room} {as' : Array Value} {Q : Option Value → Heap → List Loc → Prop} (hM : MetFree l y (head1 [Jvm.Cond.code y bytes maxL ret] rm) (fun a U => a = as' ∧ Z.Warmed39 U.vm ∧ U.heap = h) (fun _ _ _ _ _ => True) (fun _ U o U' => ∃ v L, o = .returned v ∧ Q v U'.heap L ∧ FrameEnd U o U' L rm.cells rm.slots))
    (eT : T.heap = h) {a : Addr} (E : Exa Z h a C) {g : JFrame} (hg : g.method = m) (hsize : g.locals.size = c.maxLocals) {argsL rest : List Value} (hlen : ∀ sig, parseMethodDescriptor y.desc = some sig → argsL.length = sig.parameters.length) (hstack : g.stack = argsL.reverse ++ .ref a :: rest) (has : (.ref a :: argsL).toArray = as') {W : Nat} (hW : 2 * g.monitorRoom + (rest.map fun v => v.category).sum ≤ W)
    (hd : decode c.code g.pc = .ok (.invokevirtual index, 3)) (hf : rm.frames + 1 ≤ R.frames) (hl : W + (maxL + 11) + rm.locals ≤ R.locals) (hc : cells + rm.cells ≤ R.cells) (hs : slots + rm.slots ≤ R.slots) :
    ∃ v T' L, Q v T'.heap L ∧ Stand p l e R s m args below meth c T' (locs ++ L) (cells + rm.cells) (slots + rm.slots) ∧ ∀ t, Steps p.tables e below (T'.setTop { g with pc := g.pc + 3, stack := v.toList ++ rest }) t → Steps p.tables e below (T.setTop g) t := by
  obtain ⟨cq, kq, qa, qb, qc⟩ := isOf hZ eT E
  obtain ⟨v, vm₁, ⟨T', L', k', n'⟩, -, X', ⟨L, hQ, l1, y1, z1⟩, st⟩ := X.virtualBack hx (y := y) (z := y) hown (mvT hZ w1) (mvT hZ w2) (notFace_of_selects (args := #[]) (mvT hZ w3)) (mvT hZ w3) (mvT hZ w5) hy (backOf (W := W) hM hZ w4 w6 hf hl) qa qc hg hsize (Steps.refl _) (argsL := argsL) (rest := rest) hlen hstack hW hd (fun _ _ => ⟨has, eT, hc, hs⟩)
  dsimp only [Pt.U, Pt.locs, Pt.cells, Pt.slots] at X' l1 y1 z1 st hQ
  subst l1 y1 z1
  exact ⟨v, T', L, hQ, X', fun t k => st.trans k⟩
/-- a method that a class above declares -/
theorem own_callU (X : Stand p l e R s m args below meth c T locs cells slots) (hx : p.tables.exec = Jvm.exec) (hZ : Z.Warmed39 s.vm) {own C owner : String} {index : Nat} {x y : MethodName} {bytes : ByteArray} {maxL : Nat} {ret : Option FieldType} (hown : s.vm.findClass own = some m.cls)
    (w1 : (Jvm.Cond.methodLink own index x).before a0 Z = true) (w0 : (Jvm.Cond.sameMethod x.cls owner x.name x.desc).before a0 Z = true) (w2 : (Jvm.Cond.declares ⟨owner, x.name, x.desc⟩).before a0 Z = true) (hy : owner ≠ "java/lang/invoke/MethodHandle" ∧ owner ≠ "java/lang/invoke/VarHandle") (w3 : (Jvm.Cond.selects C x y).before a0 Z = true) (w5 : (Jvm.Cond.instanceMethod y).before a0 Z = true) (w6 : (Jvm.Cond.initialized y.cls).before a0 Z = true) (w4 : (Jvm.Cond.code y bytes maxL ret).before a0 Z = true)
    {rm : Room} {as' : Array Value} {Q : Option Value → Heap → List Loc → Prop} (hM : MetFree l y (head1 [Jvm.Cond.code y bytes maxL ret] rm) (fun a U => a = as' ∧ Z.Warmed39 U.vm ∧ U.heap = h) (fun _ _ _ _ _ => True) (fun _ U o U' => ∃ v L, o = .returned v ∧ Q v U'.heap L ∧ FrameEnd U o U' L rm.cells rm.slots))
    (eT : T.heap = h) {a : Addr} (E : Exa Z h a C) {g : JFrame} (hg : g.method = m) (hsize : g.locals.size = c.maxLocals) {argsL rest : List Value} (hlen : ∀ sig, parseMethodDescriptor x.desc = some sig → argsL.length = sig.parameters.length) (hstack : g.stack = argsL.reverse ++ .ref a :: rest) (has : (.ref a :: argsL).toArray = as') {W : Nat} (hW : 2 * g.monitorRoom + (rest.map fun v => v.category).sum ≤ W)
    (hd : decode c.code g.pc = .ok (.invokevirtual index, 3)) (hf : rm.frames + 1 ≤ R.frames) (hl : W + (maxL + 11) + rm.locals ≤ R.locals) (hc : cells + rm.cells ≤ R.cells) (hs : slots + rm.slots ≤ R.slots) :
    ∃ v T' L, Q v T'.heap L ∧ Stand p l e R s m args below meth c T' (locs ++ L) (cells + rm.cells) (slots + rm.slots) ∧ ∀ t, Steps p.tables e below (T'.setTop { g with pc := g.pc + 3, stack := v.toList ++ rest }) t → Steps p.tables e below (T.setTop g) t := by
  obtain ⟨cq, kq, qa, qb, qc⟩ := isOf hZ eT E
  obtain ⟨v, vm₁, ⟨T', L', k', n'⟩, -, X', ⟨L, hQ, l1, y1, z1⟩, st⟩ := X.virtualBackUp hx (x := x) (y := y) hown (mvT hZ w1) (mvT hZ w0) (mvT hZ w2) hy (mvT hZ w3) (mvT hZ w5) (backOf (W := W) hM hZ w4 w6 hf hl) qa qc hg hsize (Steps.refl _) (argsL := argsL) (rest := rest) hlen hstack hW hd (fun _ _ => ⟨has, eT, hc, hs⟩)
  dsimp only [Pt.U, Pt.locs, Pt.cells, Pt.slots] at X' l1 y1 z1 st hQ
  subst l1 y1 z1
  exact ⟨v, T', L, hQ, X', fun t k => st.trans k⟩
/-- heaps -/
theorem own_extr (h : Heap) : Ext h h := ⟨Nat.le_refl _, fun _ _ q => q⟩
theorem own_extt (O : Ext h0 h) (E : Ext h h') : Ext h0 h' := ⟨Nat.le_trans O.1 E.1, fun a c q => E.2 a c (O.2 a c q)⟩
theorem own_extw (O : Ext h0 h) {a : Addr} {sl : Nat} {v : Value} (W : Wr h h' a sl v) (q : h0.size ≤ a) : Ext h0 h' :=
  ⟨Nat.le_trans O.1 (Keep.of_wr W).1, fun x c r => (Keep.of_wr W).2.1 x c (O.2 x c r) (fun z => by cases List.mem_singleton.mp z; exact absurd (Array.getElem?_eq_some_iff.mp r).1 (Nat.not_lt.mpr q))⟩
theorem own_extk (O : Ext h0 h) {a : Addr} (K : Keep h h' [a]) (q : h0.size ≤ a) : Ext h0 h' :=
  ⟨Nat.le_trans O.1 K.1, fun x c r => K.2.1 x c (O.2 x c r) (fun z => by cases List.mem_singleton.mp z; exact absurd (Array.getElem?_eq_some_iff.mp r).1 (Nat.not_lt.mpr q))⟩
/-- arrays: a store and a load by the array's fact -/
theorem own_stZ (X : Stand p l e R s m args below meth c T locs cells slots) (hx : p.tables.exec = Jvm.exec) (hZ : Z.Warmed39 s.vm) (eT : T.heap = h) {a : Addr} {k : ClassId} {n : Int32} {vs : List Value} {dv : Value} (V : Arv Z h a k .boolean n vs dv) {j x : Int32} (hj : ¬ j < 0 ∧ j < n) (i : Nat) (hi : j.toNatClampNeg = i) (hil : i < vs.length) {g : JFrame} (hg : g.method = m) {rest : List Value} (hs : g.stack = .int x :: .int j :: .ref a :: rest) (hd : decode c.code g.pc = .ok (.bastore, 1)) :
    ∃ T' h', Stand p l e R s m args below meth c T' (locs ++ [⟨a, j.toNatClampNeg⟩]) cells slots ∧ T'.heap = h' ∧ Wr h h' a j.toNatClampNeg (.int (nar .boolean x)) ∧ Arv Z h' a k .boolean n (vs.set i (.int (nar .boolean x))) dv ∧ ∀ t, Steps p.tables e below (T'.setTop { g with pc := g.pc + 1, stack := rest }) t → Steps p.tables e below (T.setTop g) t := by
  obtain ⟨cl, A, q1, S1, N1, H1, G1⟩ := V
  obtain ⟨T', h', X', e', W', st⟩ := stZ X hx hZ eT A (j := j) (inb_of S1 hj) hg hs hd
  exact ⟨T', h', X', e', W', Arv.set A q1 S1 N1 H1 G1 (fits_nar_bool x) W' i hi hil, st⟩
theorem own_stB (X : Stand p l e R s m args below meth c T locs cells slots) (hx : p.tables.exec = Jvm.exec) (hZ : Z.Warmed39 s.vm) (eT : T.heap = h) {a : Addr} {k : ClassId} {n : Int32} {vs : List Value} {dv : Value} (V : Arv Z h a k .byte n vs dv) {j x : Int32} (hj : ¬ j < 0 ∧ j < n) (i : Nat) (hi : j.toNatClampNeg = i) (hil : i < vs.length) {g : JFrame} (hg : g.method = m) {rest : List Value} (hs : g.stack = .int x :: .int j :: .ref a :: rest) (hd : decode c.code g.pc = .ok (.bastore, 1)) :
    ∃ T' h', Stand p l e R s m args below meth c T' (locs ++ [⟨a, j.toNatClampNeg⟩]) cells slots ∧ T'.heap = h' ∧ Wr h h' a j.toNatClampNeg (.int (nar .byte x)) ∧ Arv Z h' a k .byte n (vs.set i (.int (nar .byte x))) dv ∧ ∀ t, Steps p.tables e below (T'.setTop { g with pc := g.pc + 1, stack := rest }) t → Steps p.tables e below (T.setTop g) t := by
  obtain ⟨cl, A, q1, S1, N1, H1, G1⟩ := V
  obtain ⟨T', h', X', e', W', st⟩ := stB X hx hZ eT A (j := j) (inb_of S1 hj) hg hs hd
  exact ⟨T', h', X', e', W', Arv.set A q1 S1 N1 H1 G1 (fits_nar_byte x) W' i hi hil, st⟩
theorem own_stI (X : Stand p l e R s m args below meth c T locs cells slots) (hx : p.tables.exec = Jvm.exec) (hZ : Z.Warmed39 s.vm) (eT : T.heap = h) {a : Addr} {k : ClassId} {n : Int32} {vs : List Value} {dv : Value} (V : Arv Z h a k .int n vs dv) {j x : Int32} (hj : ¬ j < 0 ∧ j < n) (i : Nat) (hi : j.toNatClampNeg = i) (hil : i < vs.length) {g : JFrame} (hg : g.method = m) {rest : List Value} (hs : g.stack = .int x :: .int j :: .ref a :: rest) (hd : decode c.code g.pc = .ok (.iastore, 1)) :
    ∃ T' h', Stand p l e R s m args below meth c T' (locs ++ [⟨a, j.toNatClampNeg⟩]) cells slots ∧ T'.heap = h' ∧ Wr h h' a j.toNatClampNeg (.int x) ∧ Arv Z h' a k .int n (vs.set i (.int x)) dv ∧ ∀ t, Steps p.tables e below (T'.setTop { g with pc := g.pc + 1, stack := rest }) t → Steps p.tables e below (T.setTop g) t := by
  obtain ⟨cl, A, q1, S1, N1, H1, G1⟩ := V
  obtain ⟨T', h', X', e', W', st⟩ := stI X hx hZ eT A (j := j) (inb_of S1 hj) hg hs hd
  exact ⟨T', h', X', e', W', Arv.set A q1 S1 N1 H1 G1 rfl W' i hi hil, st⟩
theorem own_stC (X : Stand p l e R s m args below meth c T locs cells slots) (hx : p.tables.exec = Jvm.exec) (hZ : Z.Warmed39 s.vm) (eT : T.heap = h) {a : Addr} {k : ClassId} {n : Int32} {vs : List Value} {dv : Value} (V : Arv Z h a k .char n vs dv) {j x : Int32} (hj : ¬ j < 0 ∧ j < n) (i : Nat) (hi : j.toNatClampNeg = i) (hil : i < vs.length) {g : JFrame} (hg : g.method = m) {rest : List Value} (hs : g.stack = .int x :: .int j :: .ref a :: rest) (hd : decode c.code g.pc = .ok (.castore, 1)) :
    ∃ T' h', Stand p l e R s m args below meth c T' (locs ++ [⟨a, j.toNatClampNeg⟩]) cells slots ∧ T'.heap = h' ∧ Wr h h' a j.toNatClampNeg (.int (nar .char x)) ∧ Arv Z h' a k .char n (vs.set i (.int (nar .char x))) dv ∧ ∀ t, Steps p.tables e below (T'.setTop { g with pc := g.pc + 1, stack := rest }) t → Steps p.tables e below (T.setTop g) t := by
  obtain ⟨cl, A, q1, S1, N1, H1, G1⟩ := V
  obtain ⟨T', h', X', e', W', st⟩ := stC X hx hZ eT A (j := j) (inb_of S1 hj) hg hs hd
  exact ⟨T', h', X', e', W', Arv.set A q1 S1 N1 H1 G1 (fits_nar_char x) W' i hi hil, st⟩
theorem own_stR (X : Stand p l e R s m args below meth c T locs cells slots) (hx : p.tables.exec = Jvm.exec) (hZ : Z.Warmed39 s.vm) (eT : T.heap = h) {a : Addr} {k : ClassId} {ty : FieldType} {n : Int32} {vs : List Value} {dv : Value} (V : Arv Z h a k ty n vs dv) (hty : ty.isReference = true) {j : Int32} {v : Value} (hv : fits ty v = true) (hj : ¬ j < 0 ∧ j < n) (i : Nat) (hi : j.toNatClampNeg = i) (hil : i < vs.length) (F : ∀ cl : Cell, Arr Z h a cl ty → cl.cls = k → Sto Z h a v) {g : JFrame} (hg : g.method = m) {rest : List Value} (hs : g.stack = v :: .int j :: .ref a :: rest) (hd : decode c.code g.pc = .ok (.aastore, 1)) :
    ∃ T' h', Stand p l e R s m args below meth c T' (locs ++ [⟨a, j.toNatClampNeg⟩]) cells slots ∧ T'.heap = h' ∧ Wr h h' a j.toNatClampNeg v ∧ Arv Z h' a k ty n (vs.set i v) dv ∧ ∀ t, Steps p.tables e below (T'.setTop { g with pc := g.pc + 1, stack := rest }) t → Steps p.tables e below (T.setTop g) t := by
  obtain ⟨cl, A, q1, S1, N1, H1, G1⟩ := V
  obtain ⟨T', h', X', e', W', st⟩ := stR X hx hZ eT A (j := j) (inb_of S1 hj) hty (F cl A q1) hg hs hd
  exact ⟨T', h', X', e', W', Arv.set A q1 S1 N1 H1 G1 hv W' i hi hil, st⟩
theorem own_ldZ (X : Stand p l e R s m args below meth c T locs cells slots) (hx : p.tables.exec = Jvm.exec) (hZ : Z.Warmed39 s.vm) (eT : T.heap = h) {a : Addr} {k : ClassId} {n : Int32} {vs : List Value} {dv v : Value} (V : Arv Z h a k .boolean n vs dv) {j : Int32} (hj : ¬ j < 0 ∧ j < n) (hv : vs.getD j.toNatClampNeg dv = v) {g : JFrame} (hg : g.method = m) {rest : List Value} (hs : g.stack = .int j :: .ref a :: rest) (hd : decode c.code g.pc = .ok (.baload, 1)) :
    ∀ t, Steps p.tables e below (T.setTop { g with pc := g.pc + 1, stack := v :: rest }) t → Steps p.tables e below (T.setTop g) t := by
  obtain ⟨cl, A, q1, S1, N1, H1, G1⟩ := V
  exact X.baloadBooleans hx (by rw [eT]; exact A.1) (State.isArrayOf_alike hZ.alike A.2.1) A.2.2 (inb_of S1 hj) (H1.at (inb_of S1 hj) hv) hg hs hd
theorem own_ldB (X : Stand p l e R s m args below meth c T locs cells slots) (hx : p.tables.exec = Jvm.exec) (hZ : Z.Warmed39 s.vm) (eT : T.heap = h) {a : Addr} {k : ClassId} {n : Int32} {vs : List Value} {dv v : Value} (V : Arv Z h a k .byte n vs dv) {j : Int32} (hj : ¬ j < 0 ∧ j < n) (hv : vs.getD j.toNatClampNeg dv = v) {g : JFrame} (hg : g.method = m) {rest : List Value} (hs : g.stack = .int j :: .ref a :: rest) (hd : decode c.code g.pc = .ok (.baload, 1)) :
    ∀ t, Steps p.tables e below (T.setTop { g with pc := g.pc + 1, stack := v :: rest }) t → Steps p.tables e below (T.setTop g) t := by
  obtain ⟨cl, A, q1, S1, N1, H1, G1⟩ := V
  exact X.baloadBytes hx (by rw [eT]; exact A.1) (State.isArrayOf_alike hZ.alike A.2.1) A.2.2 (inb_of S1 hj) (H1.at (inb_of S1 hj) hv) hg hs hd
theorem own_ldI (X : Stand p l e R s m args below meth c T locs cells slots) (hx : p.tables.exec = Jvm.exec) (hZ : Z.Warmed39 s.vm) (eT : T.heap = h) {a : Addr} {k : ClassId} {n : Int32} {vs : List Value} {dv v : Value} (V : Arv Z h a k .int n vs dv) {j : Int32} (hj : ¬ j < 0 ∧ j < n) (hv : vs.getD j.toNatClampNeg dv = v) {g : JFrame} (hg : g.method = m) {rest : List Value} (hs : g.stack = .int j :: .ref a :: rest) (hd : decode c.code g.pc = .ok (.iaload, 1)) :
    ∀ t, Steps p.tables e below (T.setTop { g with pc := g.pc + 1, stack := v :: rest }) t → Steps p.tables e below (T.setTop g) t := by
  obtain ⟨cl, A, q1, S1, N1, H1, G1⟩ := V
  exact X.iaload hx (by rw [eT]; exact A.1) (State.isArrayOf_alike hZ.alike A.2.1) A.2.2 (inb_of S1 hj) (H1.at (inb_of S1 hj) hv) hg hs hd
theorem own_ldC (X : Stand p l e R s m args below meth c T locs cells slots) (hx : p.tables.exec = Jvm.exec) (hZ : Z.Warmed39 s.vm) (eT : T.heap = h) {a : Addr} {k : ClassId} {n : Int32} {vs : List Value} {dv v : Value} (V : Arv Z h a k .char n vs dv) {j : Int32} (hj : ¬ j < 0 ∧ j < n) (hv : vs.getD j.toNatClampNeg dv = v) {g : JFrame} (hg : g.method = m) {rest : List Value} (hs : g.stack = .int j :: .ref a :: rest) (hd : decode c.code g.pc = .ok (.caload, 1)) :
    ∀ t, Steps p.tables e below (T.setTop { g with pc := g.pc + 1, stack := v :: rest }) t → Steps p.tables e below (T.setTop g) t := by
  obtain ⟨cl, A, q1, S1, N1, H1, G1⟩ := V
  exact X.caload hx (by rw [eT]; exact A.1) (State.isArrayOf_alike hZ.alike A.2.1) A.2.2 (inb_of S1 hj) (H1.at (inb_of S1 hj) hv) hg hs hd
theorem own_ldR (X : Stand p l e R s m args below meth c T locs cells slots) (hx : p.tables.exec = Jvm.exec) (hZ : Z.Warmed39 s.vm) (eT : T.heap = h) {a : Addr} {k : ClassId} {ty : FieldType} {n : Int32} {vs : List Value} {dv v : Value} (V : Arv Z h a k ty n vs dv) (hty : ty.isReference = true) {j : Int32} (hj : ¬ j < 0 ∧ j < n) (hv : vs.getD j.toNatClampNeg dv = v) {g : JFrame} (hg : g.method = m) {rest : List Value} (hs : g.stack = .int j :: .ref a :: rest) (hd : decode c.code g.pc = .ok (.aaload, 1)) :
    ∀ t, Steps p.tables e below (T.setTop { g with pc := g.pc + 1, stack := v :: rest }) t → Steps p.tables e below (T.setTop g) t := by
  obtain ⟨cl, A, q1, S1, N1, H1, G1⟩ := V
  exact X.aaload hx (by rw [eT]; exact A.1) (State.isArrayOf_alike hZ.alike A.2.1) hty A.2.2 (inb_of S1 hj) (H1.at (inb_of S1 hj) hv) hg hs hd
theorem own_len (X : Stand p l e R s m args below meth c T locs cells slots) (hx : p.tables.exec = Jvm.exec) (hZ : Z.Warmed39 s.vm) (eT : T.heap = h) {a : Addr} {k : ClassId} {ty : FieldType} {n : Int32} {vs : List Value} {dv : Value} (V : Arv Z h a k ty n vs dv) {g : JFrame} (hg : g.method = m) {rest : List Value} (hs : g.stack = .ref a :: rest) (hd : decode c.code g.pc = .ok (.arraylength, 1)) :
    ∀ t, Steps p.tables e below (T.setTop { g with pc := g.pc + 1, stack := .int n :: rest }) t → Steps p.tables e below (T.setTop g) t := by
  obtain ⟨cl, A, q1, S1, N1, H1, G1⟩ := V
  intro t k
  refine X.arraylength hx (by rw [eT]; exact A.1) (State.isArrayOf_alike hZ.alike A.2.1) hg hs hd t ?_
  rw [len_of S1 N1]
  exact k
end OwnKit
theorem own_eqi {t : Term} {n : Int32} {args : Array Value} {s : State} (h : (Jvm.Cond.eq t (.int n)).value args s none s [] = some true) : t.eval args s none [] s = some (.int n) := by
  obtain ⟨x, y, h1, h2, h3, -⟩ := cmp_v (Or.inl h)
  cases (Term.int_eval n).symm.trans h2
  cases x <;> simp [Kin, Value.isRef] at h3
  rw [h1]
  have q := h
  simp [Jvm.Cond.value, h1, Term.int_eval] at q
  rw [q]
theorem own_lenw {t : Term} {n : Int32} {args : Array Value} {s : State} {x : Addr} {cl : Cell} {ty : FieldType} (h : (Jvm.Cond.eq (Term.length t) (.int n)).value args s none s [] = some true) (ht : t.eval args s none [] s = some (.ref x)) (A : Arr s s.heap x cl ty) : cl.slots.size < 2 ^ 31 ∧ cl.slots.size.toInt32 = n := by
  obtain ⟨b, cell, e1, e2, e4⟩ := Term.length_spec (own_eqi h)
  obtain rfl : x = b := Value.ref.inj (Option.some.inj (ht.symm.trans e1))
  obtain rfl : cl = cell := Option.some.inj ((A.fin (Vm.Alike.refl _)).symm.trans e2)
  exact ⟨Jvm.Free.SBG.length_lt e1 e2 (own_eqi h), (Value.int.inj e4).symm⟩
theorem own_elemw {t u : Term} {j : Int32} {args : Array Value} {s : State} {x y : Addr} {cl : Cell} {ty : FieldType} (h : (Jvm.Cond.eq (Term.elem t (.int j)) u).value args s none s [] = some true) (ht : t.eval args s none [] s = some (.ref x)) (hu : u.eval args s none [] s = some (.ref y)) (A : Arr s s.heap x cl ty) : cl.slots[j.toNatClampNeg]? = some (.ref y) := by
  obtain ⟨v, w, h1, h2, h3, h4⟩ := cmp_v (Or.inl h)
  cases hu.symm.trans h2
  obtain ⟨-, q⟩ := elem_in h1 ht (Term.int_eval j) A.1
  have r : v = .ref y := gotT (eq_R h1 hu h4.2 rfl) h
  rw [q, r]
theorem own_elemi {t : Term} {j k : Int32} {args : Array Value} {s : State} {x : Addr} {cl : Cell} {ty : FieldType} (h : (Jvm.Cond.eq (Term.elem t (.int j)) (.int k)).value args s none s [] = some true) (ht : t.eval args s none [] s = some (.ref x)) (A : Arr s s.heap x cl ty) : cl.slots[j.toNatClampNeg]? = some (.int k) := by
  obtain ⟨-, q⟩ := elem_in (own_eqi h) ht (Term.int_eval j) A.1
  exact q
abbrev own_W (Z : State) (a0 : Array Value) : Prop := ∀ d ∈ tables_1, d.before a0 Z = true
theorem own_w0 {Z : State} {a0 : Array Value} (hw : own_W Z a0) : (Jvm.Cond.arrayClass Jvm.ClassFile.FieldType.boolean).before a0 Z = true := hw _ (List.mem_of_getElem? (i := 0) rfl)
theorem own_w1 {Z : State} {a0 : Array Value} (hw : own_W Z a0) : (Jvm.Cond.methodLink "com/example/grenze/grenze/lock/LockKindCoversPinLaw" (22 : Nat) ({ cls := "com/example/grenze/grenze/lock/LockKindCoversPinLaw", name := "kindOf", desc := "(I)Lcom/example/grenze/grenze/lock/LockKind;" } : Jvm.MethodName)).before a0 Z = true := hw _ (List.mem_of_getElem? (i := 1) rfl)
theorem own_w2 {Z : State} {a0 : Array Value} (hw : own_W Z a0) : (Jvm.Cond.static ({ cls := "com/example/grenze/grenze/lock/LockKindCoversPinLaw", name := "kindOf", desc := "(I)Lcom/example/grenze/grenze/lock/LockKind;" } : Jvm.MethodName)).before a0 Z = true := hw _ (List.mem_of_getElem? (i := 2) rfl)
theorem own_w3 {Z : State} {a0 : Array Value} (hw : own_W Z a0) : (Jvm.Cond.initialized "com/example/grenze/grenze/lock/LockKindCoversPinLaw").before a0 Z = true := hw _ (List.mem_of_getElem? (i := 3) rfl)
theorem own_w4 {Z : State} {a0 : Array Value} (hw : own_W Z a0) : (Jvm.Cond.code ({ cls := "com/example/grenze/grenze/lock/LockKindCoversPinLaw", name := "kindOf", desc := "(I)Lcom/example/grenze/grenze/lock/LockKind;" } : Jvm.MethodName) method_2_code (1 : Nat) (Option.some (Jvm.ClassFile.FieldType.object "com/example/grenze/grenze/lock/LockKind"))).before a0 Z = true := hw _ (List.mem_of_getElem? (i := 4) rfl)
theorem own_w5 {Z : State} {a0 : Array Value} (hw : own_W Z a0) : (Jvm.Cond.fieldLink "com/example/grenze/grenze/lock/LockKindCoversPinLaw" (7 : Nat) "com/example/grenze/grenze/lock/LockKind" "NEXT_KEY" "Lcom/example/grenze/grenze/lock/LockKind;").before a0 Z = true := hw _ (List.mem_of_getElem? (i := 5) rfl)
theorem own_w6 {Z : State} {a0 : Array Value} (hw : own_W Z a0) : (Jvm.Cond.initialized "com/example/grenze/grenze/lock/LockKind").before a0 Z = true := hw _ (List.mem_of_getElem? (i := 6) rfl)
theorem own_w7 {Z : State} {a0 : Array Value} (hw : own_W Z a0) : (Jvm.Cond.laysStatic "com/example/grenze/grenze/lock/LockKind" "NEXT_KEY" "Lcom/example/grenze/grenze/lock/LockKind;").before a0 Z = true := hw _ (List.mem_of_getElem? (i := 7) rfl)
theorem own_w8 {Z : State} {a0 : Array Value} (hw : own_W Z a0) : (Jvm.Cond.fieldLink "com/example/grenze/grenze/lock/LockKindCoversPinLaw" (19 : Nat) "com/example/grenze/grenze/lock/LockKind" "INSERT_INTENTION" "Lcom/example/grenze/grenze/lock/LockKind;").before a0 Z = true := hw _ (List.mem_of_getElem? (i := 8) rfl)
theorem own_w9 {Z : State} {a0 : Array Value} (hw : own_W Z a0) : (Jvm.Cond.laysStatic "com/example/grenze/grenze/lock/LockKind" "INSERT_INTENTION" "Lcom/example/grenze/grenze/lock/LockKind;").before a0 Z = true := hw _ (List.mem_of_getElem? (i := 9) rfl)
theorem own_w10 {Z : State} {a0 : Array Value} (hw : own_W Z a0) : (Jvm.Cond.methodLink "com/example/grenze/grenze/lock/LockKindCoversPinLaw" (28 : Nat) ({ cls := "com/example/grenze/grenze/lock/LockKind", name := "covers", desc := "(Lcom/example/grenze/grenze/lock/LockKind;)Z" } : Jvm.MethodName)).before a0 Z = true := hw _ (List.mem_of_getElem? (i := 10) rfl)
theorem own_w11 {Z : State} {a0 : Array Value} (hw : own_W Z a0) : (Jvm.Cond.declares ({ cls := "com/example/grenze/grenze/lock/LockKind", name := "covers", desc := "(Lcom/example/grenze/grenze/lock/LockKind;)Z" } : Jvm.MethodName)).before a0 Z = true := hw _ (List.mem_of_getElem? (i := 11) rfl)
theorem own_w12 {Z : State} {a0 : Array Value} (hw : own_W Z a0) : (Jvm.Cond.instanceMethod ({ cls := "com/example/grenze/grenze/lock/LockKind", name := "covers", desc := "(Lcom/example/grenze/grenze/lock/LockKind;)Z" } : Jvm.MethodName)).before a0 Z = true := hw _ (List.mem_of_getElem? (i := 12) rfl)
theorem own_w13 {Z : State} {a0 : Array Value} (hw : own_W Z a0) : (Jvm.Cond.selects "com/example/grenze/grenze/lock/LockKind" ({ cls := "com/example/grenze/grenze/lock/LockKind", name := "covers", desc := "(Lcom/example/grenze/grenze/lock/LockKind;)Z" } : Jvm.MethodName) ({ cls := "com/example/grenze/grenze/lock/LockKind", name := "covers", desc := "(Lcom/example/grenze/grenze/lock/LockKind;)Z" } : Jvm.MethodName)).before a0 Z = true := hw _ (List.mem_of_getElem? (i := 13) rfl)
theorem own_w14 {Z : State} {a0 : Array Value} (hw : own_W Z a0) : (Jvm.Cond.code ({ cls := "com/example/grenze/grenze/lock/LockKind", name := "covers", desc := "(Lcom/example/grenze/grenze/lock/LockKind;)Z" } : Jvm.MethodName) prog_71_method_6_code (2 : Nat) (Option.some Jvm.ClassFile.FieldType.boolean)).before a0 Z = true := hw _ (List.mem_of_getElem? (i := 14) rfl)
theorem own_w15 {Z : State} {a0 : Array Value} (hw : own_W Z a0) : (Jvm.Cond.fieldLink "com/example/grenze/grenze/lock/LockKind" (13 : Nat) "com/example/grenze/grenze/lock/LockKind" "INSERT_INTENTION" "Lcom/example/grenze/grenze/lock/LockKind;").before a0 Z = true := hw _ (List.mem_of_getElem? (i := 15) rfl)
theorem own_w16 {Z : State} {a0 : Array Value} (hw : own_W Z a0) : (Jvm.Cond.fieldLink "com/example/grenze/grenze/lock/LockKindCoversPinLaw" (16 : Nat) "com/example/grenze/grenze/lock/LockKind" "GAP" "Lcom/example/grenze/grenze/lock/LockKind;").before a0 Z = true := hw _ (List.mem_of_getElem? (i := 16) rfl)
theorem own_w17 {Z : State} {a0 : Array Value} (hw : own_W Z a0) : (Jvm.Cond.laysStatic "com/example/grenze/grenze/lock/LockKind" "GAP" "Lcom/example/grenze/grenze/lock/LockKind;").before a0 Z = true := hw _ (List.mem_of_getElem? (i := 17) rfl)
theorem own_w18 {Z : State} {a0 : Array Value} (hw : own_W Z a0) : (Jvm.Cond.fieldLink "com/example/grenze/grenze/lock/LockKindCoversPinLaw" (13 : Nat) "com/example/grenze/grenze/lock/LockKind" "RECORD" "Lcom/example/grenze/grenze/lock/LockKind;").before a0 Z = true := hw _ (List.mem_of_getElem? (i := 18) rfl)
theorem own_w19 {Z : State} {a0 : Array Value} (hw : own_W Z a0) : (Jvm.Cond.laysStatic "com/example/grenze/grenze/lock/LockKind" "RECORD" "Lcom/example/grenze/grenze/lock/LockKind;").before a0 Z = true := hw _ (List.mem_of_getElem? (i := 19) rfl)
theorem own_w20 {Z : State} {a0 : Array Value} (hw : own_W Z a0) : (Jvm.Cond.fieldLink "com/example/grenze/grenze/lock/LockKind" (3 : Nat) "com/example/grenze/grenze/lock/LockKind" "NEXT_KEY" "Lcom/example/grenze/grenze/lock/LockKind;").before a0 Z = true := hw _ (List.mem_of_getElem? (i := 20) rfl)
theorem own_d1_0 : decode method_2_code 0 = .ok (.iload_n 0, 1) := by decide +kernel
theorem own_d1_1 : decode method_2_code 1 = .ok (.ifCond .ne 7, 3) := by decide +kernel
theorem own_d1_4 : decode method_2_code 4 = .ok (.getstatic 7, 3) := by decide +kernel
theorem own_d1_7 : decode method_2_code 7 = .ok (.areturn, 1) := by decide +kernel
theorem own_d1_8 : decode method_2_code 8 = .ok (.iload_n 0, 1) := by decide +kernel
theorem own_d1_9 : decode method_2_code 9 = .ok (.iconst 1, 1) := by decide +kernel
theorem own_d1_10 : decode method_2_code 10 = .ok (.if_icmp .ne 7, 3) := by decide +kernel
theorem own_d1_13 : decode method_2_code 13 = .ok (.getstatic 13, 3) := by decide +kernel
theorem own_d1_16 : decode method_2_code 16 = .ok (.areturn, 1) := by decide +kernel
theorem own_d1_17 : decode method_2_code 17 = .ok (.iload_n 0, 1) := by decide +kernel
theorem own_d1_18 : decode method_2_code 18 = .ok (.iconst 2, 1) := by decide +kernel
theorem own_d1_19 : decode method_2_code 19 = .ok (.if_icmp .ne 7, 3) := by decide +kernel
theorem own_d1_22 : decode method_2_code 22 = .ok (.getstatic 16, 3) := by decide +kernel
theorem own_d1_25 : decode method_2_code 25 = .ok (.areturn, 1) := by decide +kernel
theorem own_d1_26 : decode method_2_code 26 = .ok (.getstatic 19, 3) := by decide +kernel
theorem own_d1_29 : decode method_2_code 29 = .ok (.areturn, 1) := by decide +kernel
theorem own_d2_0 : decode prog_71_method_6_code 0 = .ok (.aload_n 1, 1) := by decide +kernel
theorem own_d2_1 : decode prog_71_method_6_code 1 = .ok (.getstatic 13, 3) := by decide +kernel
theorem own_d2_4 : decode prog_71_method_6_code 4 = .ok (.if_acmp .eq 19, 3) := by decide +kernel
theorem own_d2_7 : decode prog_71_method_6_code 7 = .ok (.aload_n 0, 1) := by decide +kernel
theorem own_d2_8 : decode prog_71_method_6_code 8 = .ok (.aload_n 1, 1) := by decide +kernel
theorem own_d2_9 : decode prog_71_method_6_code 9 = .ok (.if_acmp .eq 10, 3) := by decide +kernel
theorem own_d2_12 : decode prog_71_method_6_code 12 = .ok (.aload_n 0, 1) := by decide +kernel
theorem own_d2_13 : decode prog_71_method_6_code 13 = .ok (.getstatic 3, 3) := by decide +kernel
theorem own_d2_16 : decode prog_71_method_6_code 16 = .ok (.if_acmp .ne 7, 3) := by decide +kernel
theorem own_d2_19 : decode prog_71_method_6_code 19 = .ok (.iconst 1, 1) := by decide +kernel
theorem own_d2_20 : decode prog_71_method_6_code 20 = .ok (.goto 4, 3) := by decide +kernel
theorem own_d2_23 : decode prog_71_method_6_code 23 = .ok (.iconst 0, 1) := by decide +kernel
theorem own_d2_24 : decode prog_71_method_6_code 24 = .ok (.ireturn, 1) := by decide +kernel
theorem own_pd0 : parseMethodDescriptor "(I)Lcom/example/grenze/grenze/lock/LockKind;" = some ⟨[.int], some (.object "com/example/grenze/grenze/lock/LockKind")⟩ := by decide +kernel
theorem own_pd1 : parseMethodDescriptor "(Lcom/example/grenze/grenze/lock/LockKind;)Z" = some ⟨[(.object "com/example/grenze/grenze/lock/LockKind")], some .boolean⟩ := by decide +kernel
theorem own_pn0 : plainName "com/example/grenze/grenze/lock/LockKindCoversPinLaw" = true := by first | (simp [plainName, overriddenIn]; done) | decide +kernel
theorem own_pn1 : plainName "com/example/grenze/grenze/lock/LockKind" = true := by first | (simp [plainName, overriddenIn]; done) | decide +kernel
theorem own_ef1 (m : MethodId) (p1 : Int32) : entryFrame m #[(.int p1)] 1 = mkF m 0 #[.val (.int p1)] [] := by first | (simp [entryFrame, mkF, argsToLocals, Value.category]; done) | rfl
theorem own_ef2 (m : MethodId) (a1 : Addr) (a2 : Addr) : entryFrame m #[(.ref a1), (.ref a2)] 2 = mkF m 0 #[.val (.ref a1), .val (.ref a2)] [] := by first | (simp [entryFrame, mkF, argsToLocals, Value.category]; done) | rfl
theorem own_ef0 (m : MethodId) (p1 : Int32) (p2 : Int32) : entryFrame m #[(.int p1), (.int p2)] maxLocals = mkF m 0 #[.val (.int p1), .val (.int p2), .unset, .unset, .unset, .unset, .unset, .unset, .unset] [] := by first | (simp [entryFrame, mkF, argsToLocals, Value.category, maxLocals]; done) | rfl
def own_pick (i : Int32) (w0 w1 w2 w3 : Addr) : Addr := if i = 0 then w0 else if i = 1 then w1 else if i = 2 then w2 else w3
def own_cov (a b w0 w3 : Addr) : Int32 := if b = w3 then 0 else if a = b then 1 else if a = w0 then 1 else 0
theorem own_and3 (x : Int32) : x &&& 3 = 0 ∨ x &&& 3 = 1 ∨ x &&& 3 = 2 ∨ x &&& 3 = 3 := by
  have h := c_and x 3 (by decide)
  have h3 : (3 : Int32).toInt = 3 := by decide
  rw [h3] at h
  have : (x &&& 3).toInt = 0 ∨ (x &&& 3).toInt = 1 ∨ (x &&& 3).toInt = 2 ∨ (x &&& 3).toInt = 3 := by omega
  rcases this with q | q | q | q
  · exact Or.inl (Int32.toInt_inj.mp q)
  · exact Or.inr (Or.inl (Int32.toInt_inj.mp q))
  · exact Or.inr (Or.inr (Or.inl (Int32.toInt_inj.mp q)))
  · exact Or.inr (Or.inr (Or.inr (Int32.toInt_inj.mp q)))
def own_kind_Q (Z : State) (p1 : Int32) (w0 w1 w2 w3 : Addr) (h0 : Heap) (n0 : Nat) (v : Option Value) (h : Heap) (L : List Loc) : Prop := v = some (.ref (own_pick p1 w0 w1 w2 w3)) ∧ Fr n0 L ∧ h = h0
set_option maxRecDepth 65536 in
set_option maxHeartbeats 40000000 in
theorem own_kind (l : Launch) {Z : State} {a0 : Array Value} (hw : own_W Z a0) (ws : List Jvm.Cond) (p1 : Int32) (w0 w1 w2 w3 : Addr) (h0 : Heap) (n0 : Nat) (Z0 : n0 ≤ h0.size) (S0 : Sta Z h0 "com/example/grenze/grenze/lock/LockKind" "NEXT_KEY" "Lcom/example/grenze/grenze/lock/LockKind;" (.ref w0)) (S1 : Sta Z h0 "com/example/grenze/grenze/lock/LockKind" "RECORD" "Lcom/example/grenze/grenze/lock/LockKind;" (.ref w1)) (S2 : Sta Z h0 "com/example/grenze/grenze/lock/LockKind" "GAP" "Lcom/example/grenze/grenze/lock/LockKind;" (.ref w2)) (S3 : Sta Z h0 "com/example/grenze/grenze/lock/LockKind" "INSERT_INTENTION" "Lcom/example/grenze/grenze/lock/LockKind;" (.ref w3)) :
    MetFree l (⟨"com/example/grenze/grenze/lock/LockKindCoversPinLaw", "kindOf", "(I)Lcom/example/grenze/grenze/lock/LockKind;"⟩ : MethodName) (head1 (Jvm.Cond.code (⟨"com/example/grenze/grenze/lock/LockKindCoversPinLaw", "kindOf", "(I)Lcom/example/grenze/grenze/lock/LockKind;"⟩ : MethodName) method_2_code 1 (some (.object "com/example/grenze/grenze/lock/LockKind")) :: ws) ({ frames := 0, cells := 0, slots := 0, locals := 0 } : Room)) (fun a U => a = #[(.int p1)] ∧ Z.Warmed39 U.vm ∧ U.heap = h0) (fun _ _ _ _ _ => True) (fun _ U o U' => ∃ v L, o = .returned v ∧ own_kind_Q Z p1 w0 w1 w2 w3 h0 n0 v U'.heap L ∧ FrameEnd U o U' L ({ frames := 0, cells := 0, slots := 0, locals := 0 } : Room).cells ({ frames := 0, cells := 0, slots := 0, locals := 0 } : Room).slots) := by
  refine own_enter (C := ({ frames := 0, cells := 0, slots := 0, locals := 0 } : Room).cells) (S := ({ frames := 0, cells := 0, slots := 0, locals := 0 } : Room).slots) (plainFor_of_name own_pn0) ?_
  intro p e s m below meth c T0 X0 I e0
  obtain ⟨hx, hby, hml, hown, hnm, hret, hlk, hZ⟩ := I
  have N0 := Fr.nil n0
  have O0 := own_extr h0
  refine own_cast (own_ef1 m p1) ?_
  show own_Go _ _ _ _ T0 (mkF m 0 #[.val (.int p1)] [])
  refine own_st (fun _ k => XS.iloadN X0.here hx rfl (hb hby own_d1_0) rfl k) ?_
  show own_Go _ _ _ _ T0 (mkF m 1 #[.val (.int p1)] [(.int p1)])
  by_cases hc1 : p1 = (0 : Int32)
  · refine own_st (fun _ k => XS.ifNo X0.here hx rfl (hb hby own_d1_1) rfl ((if0 _ _).trans (teq (hc1 : p1 = (0 : Int32))).2) k) ?_
    show own_Go _ _ _ _ T0 (mkF m 4 #[.val (.int p1)] [])
    obtain ⟨T1, X1, e1, st1⟩ := getS2 X0 hx hZ hown (host := "") (Or.inl (own_w5 hw)) Via.refl e0 (S0.ext O0) (g := (mkF m 4 #[.val (.int p1)] [])) rfl (hb hby own_d1_4)
    refine own_st st1 ?_
    show own_Go _ _ _ _ T1 (mkF m 7 #[.val (.int p1)] [(.ref w0)])
    exact own_retA X1 hx hret rfl hlk rfl (hb hby own_d1_7) ⟨by simp [own_pick, *], N0, e1⟩ (by decide) (by decide)
  · refine own_st (fun _ k => XS.ifYes X0.here hx rfl (pc0 := 1) (pc' := 8) rfl (hb hby own_d1_1) rfl ((if0 _ _).trans (feq (hc1 : ¬ (p1 = (0 : Int32)))).2) (by decide) (by decide) k) ?_
    show own_Go _ _ _ _ T0 (mkF m 8 #[.val (.int p1)] [])
    refine own_st (fun _ k => XS.iloadN X0.here hx rfl (hb hby own_d1_8) rfl k) ?_
    show own_Go _ _ _ _ T0 (mkF m 9 #[.val (.int p1)] [(.int p1)])
    refine own_st (fun _ k => XS.iconst X0.here hx rfl (hb hby own_d1_9) k) ?_
    show own_Go _ _ _ _ T0 (mkF m 10 #[.val (.int p1)] [(.int (1 : Int32)), (.int p1)])
    by_cases hc2 : p1 = (1 : Int32)
    · refine own_st (fun _ k => XS.icmpNo X0.here hx rfl (hb hby own_d1_10) rfl (teq (hc2 : p1 = (1 : Int32))).2 k) ?_
      show own_Go _ _ _ _ T0 (mkF m 13 #[.val (.int p1)] [])
      obtain ⟨T2, X2, e2, st2⟩ := getS2 X0 hx hZ hown (host := "") (Or.inl (own_w18 hw)) Via.refl e0 (S1.ext O0) (g := (mkF m 13 #[.val (.int p1)] [])) rfl (hb hby own_d1_13)
      refine own_st st2 ?_
      show own_Go _ _ _ _ T2 (mkF m 16 #[.val (.int p1)] [(.ref w1)])
      exact own_retA X2 hx hret rfl hlk rfl (hb hby own_d1_16) ⟨by simp [own_pick, *], N0, e2⟩ (by decide) (by decide)
    · refine own_st (fun _ k => XS.icmpYes X0.here hx rfl (pc0 := 10) (pc' := 17) rfl (hb hby own_d1_10) rfl (feq (hc2 : ¬ (p1 = (1 : Int32)))).2 (by decide) (by decide) k) ?_
      show own_Go _ _ _ _ T0 (mkF m 17 #[.val (.int p1)] [])
      refine own_st (fun _ k => XS.iloadN X0.here hx rfl (hb hby own_d1_17) rfl k) ?_
      show own_Go _ _ _ _ T0 (mkF m 18 #[.val (.int p1)] [(.int p1)])
      refine own_st (fun _ k => XS.iconst X0.here hx rfl (hb hby own_d1_18) k) ?_
      show own_Go _ _ _ _ T0 (mkF m 19 #[.val (.int p1)] [(.int (2 : Int32)), (.int p1)])
      by_cases hc3 : p1 = (2 : Int32)
      · refine own_st (fun _ k => XS.icmpNo X0.here hx rfl (hb hby own_d1_19) rfl (teq (hc3 : p1 = (2 : Int32))).2 k) ?_
        show own_Go _ _ _ _ T0 (mkF m 22 #[.val (.int p1)] [])
        obtain ⟨T3, X3, e3, st3⟩ := getS2 X0 hx hZ hown (host := "") (Or.inl (own_w16 hw)) Via.refl e0 (S2.ext O0) (g := (mkF m 22 #[.val (.int p1)] [])) rfl (hb hby own_d1_22)
        refine own_st st3 ?_
        show own_Go _ _ _ _ T3 (mkF m 25 #[.val (.int p1)] [(.ref w2)])
        exact own_retA X3 hx hret rfl hlk rfl (hb hby own_d1_25) ⟨by simp [own_pick, *], N0, e3⟩ (by decide) (by decide)
      · refine own_st (fun _ k => XS.icmpYes X0.here hx rfl (pc0 := 19) (pc' := 26) rfl (hb hby own_d1_19) rfl (feq (hc3 : ¬ (p1 = (2 : Int32)))).2 (by decide) (by decide) k) ?_
        show own_Go _ _ _ _ T0 (mkF m 26 #[.val (.int p1)] [])
        obtain ⟨T4, X4, e4, st4⟩ := getS2 X0 hx hZ hown (host := "") (Or.inl (own_w8 hw)) Via.refl e0 (S3.ext O0) (g := (mkF m 26 #[.val (.int p1)] [])) rfl (hb hby own_d1_26)
        refine own_st st4 ?_
        show own_Go _ _ _ _ T4 (mkF m 29 #[.val (.int p1)] [(.ref w3)])
        exact own_retA X4 hx hret rfl hlk rfl (hb hby own_d1_29) ⟨by simp [own_pick, *], N0, e4⟩ (by decide) (by decide)
def own_covers_Q (Z : State) (a1 a2 : Addr) (w0 w1 w2 w3 : Addr) (h0 : Heap) (n0 : Nat) (v : Option Value) (h : Heap) (L : List Loc) : Prop := v = some (.int (own_cov a1 a2 w0 w3)) ∧ Fr n0 L ∧ h = h0
set_option maxRecDepth 65536 in
set_option maxHeartbeats 40000000 in
theorem own_covers (l : Launch) {Z : State} {a0 : Array Value} (hw : own_W Z a0) (ws : List Jvm.Cond) (a1 a2 : Addr) (w0 w1 w2 w3 : Addr) (h0 : Heap) (n0 : Nat) (Z0 : n0 ≤ h0.size) (S0 : Sta Z h0 "com/example/grenze/grenze/lock/LockKind" "NEXT_KEY" "Lcom/example/grenze/grenze/lock/LockKind;" (.ref w0)) (S1 : Sta Z h0 "com/example/grenze/grenze/lock/LockKind" "RECORD" "Lcom/example/grenze/grenze/lock/LockKind;" (.ref w1)) (S2 : Sta Z h0 "com/example/grenze/grenze/lock/LockKind" "GAP" "Lcom/example/grenze/grenze/lock/LockKind;" (.ref w2)) (S3 : Sta Z h0 "com/example/grenze/grenze/lock/LockKind" "INSERT_INTENTION" "Lcom/example/grenze/grenze/lock/LockKind;" (.ref w3)) :
    MetFree l (⟨"com/example/grenze/grenze/lock/LockKind", "covers", "(Lcom/example/grenze/grenze/lock/LockKind;)Z"⟩ : MethodName) (head1 (Jvm.Cond.code (⟨"com/example/grenze/grenze/lock/LockKind", "covers", "(Lcom/example/grenze/grenze/lock/LockKind;)Z"⟩ : MethodName) prog_71_method_6_code 2 (some .boolean) :: ws) ({ frames := 0, cells := 0, slots := 0, locals := 0 } : Room)) (fun a U => a = #[(.ref a1), (.ref a2)] ∧ Z.Warmed39 U.vm ∧ U.heap = h0) (fun _ _ _ _ _ => True) (fun _ U o U' => ∃ v L, o = .returned v ∧ own_covers_Q Z a1 a2 w0 w1 w2 w3 h0 n0 v U'.heap L ∧ FrameEnd U o U' L ({ frames := 0, cells := 0, slots := 0, locals := 0 } : Room).cells ({ frames := 0, cells := 0, slots := 0, locals := 0 } : Room).slots) := by
  refine own_enter (C := ({ frames := 0, cells := 0, slots := 0, locals := 0 } : Room).cells) (S := ({ frames := 0, cells := 0, slots := 0, locals := 0 } : Room).slots) (plainFor_of_name own_pn1) ?_
  intro p e s m below meth c T0 X0 I e0
  obtain ⟨hx, hby, hml, hown, hnm, hret, hlk, hZ⟩ := I
  have N0 := Fr.nil n0
  have O0 := own_extr h0
  refine own_cast (own_ef2 m a1 a2) ?_
  show own_Go _ _ _ _ T0 (mkF m 0 #[.val (.ref a1), .val (.ref a2)] [])
  refine own_st (fun _ k => XS.aloadN X0.here hx rfl (hb hby own_d2_0) rfl rfl k) ?_
  show own_Go _ _ _ _ T0 (mkF m 1 #[.val (.ref a1), .val (.ref a2)] [(.ref a2)])
  obtain ⟨T1, X1, e1, st1⟩ := getS2 X0 hx hZ hown (host := "") (Or.inl (own_w15 hw)) Via.refl e0 (S3.ext O0) (g := (mkF m 1 #[.val (.ref a1), .val (.ref a2)] [(.ref a2)])) rfl (hb hby own_d2_1)
  refine own_st st1 ?_
  show own_Go _ _ _ _ T1 (mkF m 4 #[.val (.ref a1), .val (.ref a2)] [(.ref w3), (.ref a2)])
  by_cases ha1 : a2 = w3
  · refine own_st (fun _ k => Jvm.RoadKit.acmp (g := (mkF m 4 #[.val (.ref a1), .val (.ref a2)] [(.ref w3), (.ref a2)])) X1 hx rfl rfl rfl (pc0 := 4) (pc' := 23) (same := true) rfl (hb hby own_d2_4) rfl (decide_eq_true (congrArg Value.ref ha1)) (by decide) (by decide) k) ?_
    show own_Go _ _ _ _ T1 (mkF m 23 #[.val (.ref a1), .val (.ref a2)] [])
    refine own_st (fun _ k => XS.iconst X1.here hx rfl (hb hby own_d2_23) k) ?_
    show own_Go _ _ _ _ T1 (mkF m 24 #[.val (.ref a1), .val (.ref a2)] [(.int (0 : Int32))])
    exact own_retN X1 hx hret (by simp) hlk (hb hby own_d2_24) ⟨by simp [own_cov, nar, *], N0, e1⟩ (by decide) (by decide)
  · refine own_st (fun _ k => Jvm.RoadKit.acmp (g := (mkF m 4 #[.val (.ref a1), .val (.ref a2)] [(.ref w3), (.ref a2)])) X1 hx rfl rfl rfl (pc0 := 4) (pc' := 7) (same := false) rfl (hb hby own_d2_4) rfl (decide_eq_false fun q => ha1 (Value.ref.inj q)) (by decide) (by decide) k) ?_
    show own_Go _ _ _ _ T1 (mkF m 7 #[.val (.ref a1), .val (.ref a2)] [])
    refine own_st (fun _ k => XS.aloadN X1.here hx rfl (hb hby own_d2_7) rfl rfl k) ?_
    show own_Go _ _ _ _ T1 (mkF m 8 #[.val (.ref a1), .val (.ref a2)] [(.ref a1)])
    refine own_st (fun _ k => XS.aloadN X1.here hx rfl (hb hby own_d2_8) rfl rfl k) ?_
    show own_Go _ _ _ _ T1 (mkF m 9 #[.val (.ref a1), .val (.ref a2)] [(.ref a2), (.ref a1)])
    by_cases ha2 : a1 = a2
    · refine own_st (fun _ k => Jvm.RoadKit.acmp (g := (mkF m 9 #[.val (.ref a1), .val (.ref a2)] [(.ref a2), (.ref a1)])) X1 hx rfl rfl rfl (pc0 := 9) (pc' := 19) (same := true) rfl (hb hby own_d2_9) rfl (decide_eq_true (congrArg Value.ref ha2)) (by decide) (by decide) k) ?_
      show own_Go _ _ _ _ T1 (mkF m 19 #[.val (.ref a1), .val (.ref a2)] [])
      refine own_st (fun _ k => XS.iconst X1.here hx rfl (hb hby own_d2_19) k) ?_
      show own_Go _ _ _ _ T1 (mkF m 20 #[.val (.ref a1), .val (.ref a2)] [(.int (1 : Int32))])
      refine own_st (fun _ k => XS.goto X1.here hx rfl (pc0 := 20) (pc' := 24) rfl (hb hby own_d2_20) (by decide) (by decide) k) ?_
      show own_Go _ _ _ _ T1 (mkF m 24 #[.val (.ref a1), .val (.ref a2)] [(.int (1 : Int32))])
      exact own_retN X1 hx hret (by simp) hlk (hb hby own_d2_24) ⟨by simp [own_cov, nar, *], N0, e1⟩ (by decide) (by decide)
    · refine own_st (fun _ k => Jvm.RoadKit.acmp (g := (mkF m 9 #[.val (.ref a1), .val (.ref a2)] [(.ref a2), (.ref a1)])) X1 hx rfl rfl rfl (pc0 := 9) (pc' := 12) (same := false) rfl (hb hby own_d2_9) rfl (decide_eq_false fun q => ha2 (Value.ref.inj q)) (by decide) (by decide) k) ?_
      show own_Go _ _ _ _ T1 (mkF m 12 #[.val (.ref a1), .val (.ref a2)] [])
      refine own_st (fun _ k => XS.aloadN X1.here hx rfl (hb hby own_d2_12) rfl rfl k) ?_
      show own_Go _ _ _ _ T1 (mkF m 13 #[.val (.ref a1), .val (.ref a2)] [(.ref a1)])
      obtain ⟨T2, X2, e2, st2⟩ := getS2 X1 hx hZ hown (host := "") (Or.inl (own_w20 hw)) Via.refl e1 (S0.ext O0) (g := (mkF m 13 #[.val (.ref a1), .val (.ref a2)] [(.ref a1)])) rfl (hb hby own_d2_13)
      refine own_st st2 ?_
      show own_Go _ _ _ _ T2 (mkF m 16 #[.val (.ref a1), .val (.ref a2)] [(.ref w0), (.ref a1)])
      by_cases ha3 : a1 = w0
      · refine own_st (fun _ k => Jvm.RoadKit.acmp (g := (mkF m 16 #[.val (.ref a1), .val (.ref a2)] [(.ref w0), (.ref a1)])) X2 hx rfl rfl rfl (pc0 := 16) (pc' := 19) (same := true) rfl (hb hby own_d2_16) rfl (decide_eq_true (congrArg Value.ref ha3)) (by decide) (by decide) k) ?_
        show own_Go _ _ _ _ T2 (mkF m 19 #[.val (.ref a1), .val (.ref a2)] [])
        refine own_st (fun _ k => XS.iconst X2.here hx rfl (hb hby own_d2_19) k) ?_
        show own_Go _ _ _ _ T2 (mkF m 20 #[.val (.ref a1), .val (.ref a2)] [(.int (1 : Int32))])
        refine own_st (fun _ k => XS.goto X2.here hx rfl (pc0 := 20) (pc' := 24) rfl (hb hby own_d2_20) (by decide) (by decide) k) ?_
        show own_Go _ _ _ _ T2 (mkF m 24 #[.val (.ref a1), .val (.ref a2)] [(.int (1 : Int32))])
        exact own_retN X2 hx hret (by simp) hlk (hb hby own_d2_24) ⟨by simp [own_cov, nar, *], N0, e2⟩ (by decide) (by decide)
      · refine own_st (fun _ k => Jvm.RoadKit.acmp (g := (mkF m 16 #[.val (.ref a1), .val (.ref a2)] [(.ref w0), (.ref a1)])) X2 hx rfl rfl rfl (pc0 := 16) (pc' := 23) (same := false) rfl (hb hby own_d2_16) rfl (decide_eq_false fun q => ha3 (Value.ref.inj q)) (by decide) (by decide) k) ?_
        show own_Go _ _ _ _ T2 (mkF m 23 #[.val (.ref a1), .val (.ref a2)] [])
        refine own_st (fun _ k => XS.iconst X2.here hx rfl (hb hby own_d2_23) k) ?_
        show own_Go _ _ _ _ T2 (mkF m 24 #[.val (.ref a1), .val (.ref a2)] [(.int (0 : Int32))])
        exact own_retN X2 hx hret (by simp) hlk (hb hby own_d2_24) ⟨by simp [own_cov, nar, *], N0, e2⟩ (by decide) (by decide)
def own_law_Q (Z : State) (p1 p2 : Int32) (w0 w1 w2 w3 : Addr) (h0 : Heap) (n0 : Nat) (v : Option Value) (h : Heap) (L : List Loc) : Prop := v = some (.int 1) ∧ Fr n0 L
set_option maxRecDepth 65536 in
set_option maxHeartbeats 40000000 in
theorem own_law (l : Launch) {Z : State} {a0 : Array Value} (hw : own_W Z a0) (ws : List Jvm.Cond) (p1 p2 : Int32) (w0 w1 w2 w3 : Addr) (h0 : Heap) (n0 : Nat) (Z0 : n0 ≤ h0.size) (S0 : Sta Z h0 "com/example/grenze/grenze/lock/LockKind" "NEXT_KEY" "Lcom/example/grenze/grenze/lock/LockKind;" (.ref w0)) (S1 : Sta Z h0 "com/example/grenze/grenze/lock/LockKind" "RECORD" "Lcom/example/grenze/grenze/lock/LockKind;" (.ref w1)) (S2 : Sta Z h0 "com/example/grenze/grenze/lock/LockKind" "GAP" "Lcom/example/grenze/grenze/lock/LockKind;" (.ref w2)) (S3 : Sta Z h0 "com/example/grenze/grenze/lock/LockKind" "INSERT_INTENTION" "Lcom/example/grenze/grenze/lock/LockKind;" (.ref w3)) (E0 : Exa Z h0 w0 "com/example/grenze/grenze/lock/LockKind") (E1 : Exa Z h0 w1 "com/example/grenze/grenze/lock/LockKind") (E2 : Exa Z h0 w2 "com/example/grenze/grenze/lock/LockKind") (E3 : Exa Z h0 w3 "com/example/grenze/grenze/lock/LockKind") (n10 : w1 ≠ w0) (n20 : w2 ≠ w0) (n21 : w2 ≠ w1) (n30 : w3 ≠ w0) (n31 : w3 ≠ w1) (n32 : w3 ≠ w2) :
    MetFree l x (head1 (Jvm.Cond.code x code maxLocals ret :: ws) room_1) (fun a U => a = #[(.int p1), (.int p2)] ∧ Z.Warmed39 U.vm ∧ U.heap = h0) (fun _ _ _ _ _ => True) (fun _ U o U' => ∃ v L, o = .returned v ∧ own_law_Q Z p1 p2 w0 w1 w2 w3 h0 n0 v U'.heap L ∧ FrameEnd U o U' L 16 128) := by
  refine own_enter (C := 16) (S := 128) (plainFor_of_name own_pn0) ?_
  intro p e s m below meth c T0 X0 I e0
  obtain ⟨hx, hby, hml, hown, hnm, hret, hlk, hZ⟩ := I
  have N0 := Fr.nil n0
  have O0 := own_extr h0
  refine own_cast (own_ef0 m p1 p2) ?_
  show own_Go _ _ _ _ T0 (mkF m 0 #[.val (.int p1), .val (.int p2), .unset, .unset, .unset, .unset, .unset, .unset, .unset] [])
  refine own_st (fun _ k => XS.iloadN X0.here hx rfl (hb hby at_0) rfl k) ?_
  show own_Go _ _ _ _ T0 (mkF m 1 #[.val (.int p1), .val (.int p2), .unset, .unset, .unset, .unset, .unset, .unset, .unset] [(.int p1)])
  refine own_st (fun _ k => XS.iconst X0.here hx rfl (hb hby at_1) k) ?_
  show own_Go _ _ _ _ T0 (mkF m 2 #[.val (.int p1), .val (.int p2), .unset, .unset, .unset, .unset, .unset, .unset, .unset] [(.int (3 : Int32)), (.int p1)])
  refine own_st (fun _ k => XS.iand X0.here hx rfl (hb hby at_2) rfl k) ?_
  show own_Go _ _ _ _ T0 (mkF m 3 #[.val (.int p1), .val (.int p2), .unset, .unset, .unset, .unset, .unset, .unset, .unset] [(.int (p1 &&& (3 : Int32)))])
  refine own_st (fun _ k => XS.istoreN X0.here hx rfl (hb hby at_3) rfl (l' := #[.val (.int p1), .val (.int p2), .val (.int (p1 &&& (3 : Int32))), .unset, .unset, .unset, .unset, .unset, .unset]) rfl k) ?_
  show own_Go _ _ _ _ T0 (mkF m 4 #[.val (.int p1), .val (.int p2), .val (.int (p1 &&& (3 : Int32))), .unset, .unset, .unset, .unset, .unset, .unset] [])
  refine own_st (fun _ k => XS.iloadN X0.here hx rfl (hb hby at_4) rfl k) ?_
  show own_Go _ _ _ _ T0 (mkF m 5 #[.val (.int p1), .val (.int p2), .val (.int (p1 &&& (3 : Int32))), .unset, .unset, .unset, .unset, .unset, .unset] [(.int p2)])
  refine own_st (fun _ k => XS.iconst X0.here hx rfl (hb hby at_5) k) ?_
  show own_Go _ _ _ _ T0 (mkF m 6 #[.val (.int p1), .val (.int p2), .val (.int (p1 &&& (3 : Int32))), .unset, .unset, .unset, .unset, .unset, .unset] [(.int (3 : Int32)), (.int p2)])
  refine own_st (fun _ k => XS.iand X0.here hx rfl (hb hby at_6) rfl k) ?_
  show own_Go _ _ _ _ T0 (mkF m 7 #[.val (.int p1), .val (.int p2), .val (.int (p1 &&& (3 : Int32))), .unset, .unset, .unset, .unset, .unset, .unset] [(.int (p2 &&& (3 : Int32)))])
  refine own_st (fun _ k => XS.istoreN X0.here hx rfl (hb hby at_7) rfl (l' := #[.val (.int p1), .val (.int p2), .val (.int (p1 &&& (3 : Int32))), .val (.int (p2 &&& (3 : Int32))), .unset, .unset, .unset, .unset, .unset]) rfl k) ?_
  show own_Go _ _ _ _ T0 (mkF m 8 #[.val (.int p1), .val (.int p2), .val (.int (p1 &&& (3 : Int32))), .val (.int (p2 &&& (3 : Int32))), .unset, .unset, .unset, .unset, .unset] [])
  refine own_st (fun _ k => XS.iconst X0.here hx rfl (hb hby at_8) k) ?_
  show own_Go _ _ _ _ T0 (mkF m 9 #[.val (.int p1), .val (.int p2), .val (.int (p1 &&& (3 : Int32))), .val (.int (p2 &&& (3 : Int32))), .unset, .unset, .unset, .unset, .unset] [(.int (4 : Int32))])
  obtain ⟨T1, hp1, kk1, X1, e1, Et1, A1, st1⟩ := newP X0 hx hZ (aty := .boolean) (own_w0 hw) e0 (g := (mkF m 9 #[.val (.int p1), .val (.int p2), .val (.int (p1 &&& (3 : Int32))), .val (.int (p2 &&& (3 : Int32))), .unset, .unset, .unset, .unset, .unset] [(.int (4 : Int32))])) rfl (hb hby at_9) rfl (by decide) (cap := 4) (by decide) (by decide) (by decide) (by decide)
  obtain ⟨b1, g1⟩ : ∃ z, z = h0.size := ⟨_, rfl⟩
  rw [← g1] at A1 st1
  have s_b1 : h0.size ≤ b1 := Nat.le_trans O0.1 (Nat.le_of_eq g1.symm)
  have g_b1 : n0 ≤ b1 := Nat.le_trans Z0 s_b1
  have O1 := own_extt O0 Et1
  have Va1 : Arv Z hp1 b1 kk1 .boolean (4 : Int32) [(.int (0 : Int32)), (.int (0 : Int32)), (.int (0 : Int32)), (.int (0 : Int32))] (.int (0 : Int32)) := (Arv.new A1 (by decide)).pad (pad_rep [] (.int (0 : Int32)) 4)
  refine own_st st1 ?_
  show own_Go _ _ _ _ T1 (mkF m 11 #[.val (.int p1), .val (.int p2), .val (.int (p1 &&& (3 : Int32))), .val (.int (p2 &&& (3 : Int32))), .unset, .unset, .unset, .unset, .unset] [(.ref b1)])
  refine own_st (fun _ k => XS.dup X1.here hx rfl (hb hby at_11) rfl rfl k) ?_
  show own_Go _ _ _ _ T1 (mkF m 12 #[.val (.int p1), .val (.int p2), .val (.int (p1 &&& (3 : Int32))), .val (.int (p2 &&& (3 : Int32))), .unset, .unset, .unset, .unset, .unset] [(.ref b1), (.ref b1)])
  refine own_st (fun _ k => XS.iconst X1.here hx rfl (hb hby at_12) k) ?_
  show own_Go _ _ _ _ T1 (mkF m 13 #[.val (.int p1), .val (.int p2), .val (.int (p1 &&& (3 : Int32))), .val (.int (p2 &&& (3 : Int32))), .unset, .unset, .unset, .unset, .unset] [(.int (0 : Int32)), (.ref b1), (.ref b1)])
  refine own_st (fun _ k => XS.iconst X1.here hx rfl (hb hby at_13) k) ?_
  show own_Go _ _ _ _ T1 (mkF m 14 #[.val (.int p1), .val (.int p2), .val (.int (p1 &&& (3 : Int32))), .val (.int (p2 &&& (3 : Int32))), .unset, .unset, .unset, .unset, .unset] [(.int (1 : Int32)), (.int (0 : Int32)), (.ref b1), (.ref b1)])
  obtain ⟨T2, hp2, X2, e2, W2, Va2, st2⟩ := own_stZ X1 hx hZ e1 Va1 (by decide) 0 (by decide) (by decide) (g := (mkF m 14 #[.val (.int p1), .val (.int p2), .val (.int (p1 &&& (3 : Int32))), .val (.int (p2 &&& (3 : Int32))), .unset, .unset, .unset, .unset, .unset] [(.int (1 : Int32)), (.int (0 : Int32)), (.ref b1), (.ref b1)])) rfl rfl (hb hby at_14)
  have O2 := own_extw O1 W2 s_b1
  have Va2 : Arv Z hp2 b1 kk1 .boolean (4 : Int32) [(.int (1 : Int32)), (.int (0 : Int32)), (.int (0 : Int32)), (.int (0 : Int32))] (.int (0 : Int32)) := Va2
  have N2 := Fr.snoc X2 N0 g_b1
  refine own_st st2 ?_
  show own_Go _ _ _ _ T2 (mkF m 15 #[.val (.int p1), .val (.int p2), .val (.int (p1 &&& (3 : Int32))), .val (.int (p2 &&& (3 : Int32))), .unset, .unset, .unset, .unset, .unset] [(.ref b1)])
  refine own_st (fun _ k => XS.dup X2.here hx rfl (hb hby at_15) rfl rfl k) ?_
  show own_Go _ _ _ _ T2 (mkF m 16 #[.val (.int p1), .val (.int p2), .val (.int (p1 &&& (3 : Int32))), .val (.int (p2 &&& (3 : Int32))), .unset, .unset, .unset, .unset, .unset] [(.ref b1), (.ref b1)])
  refine own_st (fun _ k => XS.iconst X2.here hx rfl (hb hby at_16) k) ?_
  show own_Go _ _ _ _ T2 (mkF m 17 #[.val (.int p1), .val (.int p2), .val (.int (p1 &&& (3 : Int32))), .val (.int (p2 &&& (3 : Int32))), .unset, .unset, .unset, .unset, .unset] [(.int (1 : Int32)), (.ref b1), (.ref b1)])
  refine own_st (fun _ k => XS.iconst X2.here hx rfl (hb hby at_17) k) ?_
  show own_Go _ _ _ _ T2 (mkF m 18 #[.val (.int p1), .val (.int p2), .val (.int (p1 &&& (3 : Int32))), .val (.int (p2 &&& (3 : Int32))), .unset, .unset, .unset, .unset, .unset] [(.int (1 : Int32)), (.int (1 : Int32)), (.ref b1), (.ref b1)])
  obtain ⟨T3, hp3, X3, e3, W3, Va3, st3⟩ := own_stZ X2 hx hZ e2 Va2 (by decide) 1 (by decide) (by decide) (g := (mkF m 18 #[.val (.int p1), .val (.int p2), .val (.int (p1 &&& (3 : Int32))), .val (.int (p2 &&& (3 : Int32))), .unset, .unset, .unset, .unset, .unset] [(.int (1 : Int32)), (.int (1 : Int32)), (.ref b1), (.ref b1)])) rfl rfl (hb hby at_18)
  have O3 := own_extw O2 W3 s_b1
  have Va3 : Arv Z hp3 b1 kk1 .boolean (4 : Int32) [(.int (1 : Int32)), (.int (1 : Int32)), (.int (0 : Int32)), (.int (0 : Int32))] (.int (0 : Int32)) := Va3
  have N3 := Fr.snoc X3 N2 g_b1
  refine own_st st3 ?_
  show own_Go _ _ _ _ T3 (mkF m 19 #[.val (.int p1), .val (.int p2), .val (.int (p1 &&& (3 : Int32))), .val (.int (p2 &&& (3 : Int32))), .unset, .unset, .unset, .unset, .unset] [(.ref b1)])
  refine own_st (fun _ k => XS.dup X3.here hx rfl (hb hby at_19) rfl rfl k) ?_
  show own_Go _ _ _ _ T3 (mkF m 20 #[.val (.int p1), .val (.int p2), .val (.int (p1 &&& (3 : Int32))), .val (.int (p2 &&& (3 : Int32))), .unset, .unset, .unset, .unset, .unset] [(.ref b1), (.ref b1)])
  refine own_st (fun _ k => XS.iconst X3.here hx rfl (hb hby at_20) k) ?_
  show own_Go _ _ _ _ T3 (mkF m 21 #[.val (.int p1), .val (.int p2), .val (.int (p1 &&& (3 : Int32))), .val (.int (p2 &&& (3 : Int32))), .unset, .unset, .unset, .unset, .unset] [(.int (2 : Int32)), (.ref b1), (.ref b1)])
  refine own_st (fun _ k => XS.iconst X3.here hx rfl (hb hby at_21) k) ?_
  show own_Go _ _ _ _ T3 (mkF m 22 #[.val (.int p1), .val (.int p2), .val (.int (p1 &&& (3 : Int32))), .val (.int (p2 &&& (3 : Int32))), .unset, .unset, .unset, .unset, .unset] [(.int (0 : Int32)), (.int (2 : Int32)), (.ref b1), (.ref b1)])
  obtain ⟨T4, hp4, X4, e4, W4, Va4, st4⟩ := own_stZ X3 hx hZ e3 Va3 (by decide) 2 (by decide) (by decide) (g := (mkF m 22 #[.val (.int p1), .val (.int p2), .val (.int (p1 &&& (3 : Int32))), .val (.int (p2 &&& (3 : Int32))), .unset, .unset, .unset, .unset, .unset] [(.int (0 : Int32)), (.int (2 : Int32)), (.ref b1), (.ref b1)])) rfl rfl (hb hby at_22)
  have O4 := own_extw O3 W4 s_b1
  have Va4 : Arv Z hp4 b1 kk1 .boolean (4 : Int32) [(.int (1 : Int32)), (.int (1 : Int32)), (.int (0 : Int32)), (.int (0 : Int32))] (.int (0 : Int32)) := Va4
  have N4 := Fr.snoc X4 N3 g_b1
  refine own_st st4 ?_
  show own_Go _ _ _ _ T4 (mkF m 23 #[.val (.int p1), .val (.int p2), .val (.int (p1 &&& (3 : Int32))), .val (.int (p2 &&& (3 : Int32))), .unset, .unset, .unset, .unset, .unset] [(.ref b1)])
  refine own_st (fun _ k => XS.dup X4.here hx rfl (hb hby at_23) rfl rfl k) ?_
  show own_Go _ _ _ _ T4 (mkF m 24 #[.val (.int p1), .val (.int p2), .val (.int (p1 &&& (3 : Int32))), .val (.int (p2 &&& (3 : Int32))), .unset, .unset, .unset, .unset, .unset] [(.ref b1), (.ref b1)])
  refine own_st (fun _ k => XS.iconst X4.here hx rfl (hb hby at_24) k) ?_
  show own_Go _ _ _ _ T4 (mkF m 25 #[.val (.int p1), .val (.int p2), .val (.int (p1 &&& (3 : Int32))), .val (.int (p2 &&& (3 : Int32))), .unset, .unset, .unset, .unset, .unset] [(.int (3 : Int32)), (.ref b1), (.ref b1)])
  refine own_st (fun _ k => XS.iconst X4.here hx rfl (hb hby at_25) k) ?_
  show own_Go _ _ _ _ T4 (mkF m 26 #[.val (.int p1), .val (.int p2), .val (.int (p1 &&& (3 : Int32))), .val (.int (p2 &&& (3 : Int32))), .unset, .unset, .unset, .unset, .unset] [(.int (0 : Int32)), (.int (3 : Int32)), (.ref b1), (.ref b1)])
  obtain ⟨T5, hp5, X5, e5, W5, Va5, st5⟩ := own_stZ X4 hx hZ e4 Va4 (by decide) 3 (by decide) (by decide) (g := (mkF m 26 #[.val (.int p1), .val (.int p2), .val (.int (p1 &&& (3 : Int32))), .val (.int (p2 &&& (3 : Int32))), .unset, .unset, .unset, .unset, .unset] [(.int (0 : Int32)), (.int (3 : Int32)), (.ref b1), (.ref b1)])) rfl rfl (hb hby at_26)
  have O5 := own_extw O4 W5 s_b1
  have Va5 : Arv Z hp5 b1 kk1 .boolean (4 : Int32) [(.int (1 : Int32)), (.int (1 : Int32)), (.int (0 : Int32)), (.int (0 : Int32))] (.int (0 : Int32)) := Va5
  have N5 := Fr.snoc X5 N4 g_b1
  refine own_st st5 ?_
  show own_Go _ _ _ _ T5 (mkF m 27 #[.val (.int p1), .val (.int p2), .val (.int (p1 &&& (3 : Int32))), .val (.int (p2 &&& (3 : Int32))), .unset, .unset, .unset, .unset, .unset] [(.ref b1)])
  refine own_st (fun _ k => XS.astore X5.here hx rfl (hb hby at_27) rfl rfl (l' := #[.val (.int p1), .val (.int p2), .val (.int (p1 &&& (3 : Int32))), .val (.int (p2 &&& (3 : Int32))), .val (.ref b1), .unset, .unset, .unset, .unset]) rfl k) ?_
  show own_Go _ _ _ _ T5 (mkF m 29 #[.val (.int p1), .val (.int p2), .val (.int (p1 &&& (3 : Int32))), .val (.int (p2 &&& (3 : Int32))), .val (.ref b1), .unset, .unset, .unset, .unset] [])
  refine own_st (fun _ k => XS.iconst X5.here hx rfl (hb hby at_29) k) ?_
  show own_Go _ _ _ _ T5 (mkF m 30 #[.val (.int p1), .val (.int p2), .val (.int (p1 &&& (3 : Int32))), .val (.int (p2 &&& (3 : Int32))), .val (.ref b1), .unset, .unset, .unset, .unset] [(.int (4 : Int32))])
  obtain ⟨T6, hp6, kk6, X6, e6, Et6, A6, st6⟩ := newP X5 hx hZ (aty := .boolean) (own_w0 hw) e5 (g := (mkF m 30 #[.val (.int p1), .val (.int p2), .val (.int (p1 &&& (3 : Int32))), .val (.int (p2 &&& (3 : Int32))), .val (.ref b1), .unset, .unset, .unset, .unset] [(.int (4 : Int32))])) rfl (hb hby at_30) rfl (by decide) (cap := 4) (by decide) (by decide) (by decide) (by decide)
  obtain ⟨b6, g6⟩ : ∃ z, z = hp5.size := ⟨_, rfl⟩
  rw [← g6] at A6 st6
  have s_b6 : h0.size ≤ b6 := Nat.le_trans O5.1 (Nat.le_of_eq g6.symm)
  have g_b6 : n0 ≤ b6 := Nat.le_trans Z0 s_b6
  have lt_b1_b6 : b1 < b6 := Nat.lt_of_lt_of_le Va5.lt (Nat.le_of_eq g6.symm)
  have O6 := own_extt O5 Et6
  have V_b1_6 := Va5.ext Et6
  have Va6 : Arv Z hp6 b6 kk6 .boolean (4 : Int32) [(.int (0 : Int32)), (.int (0 : Int32)), (.int (0 : Int32)), (.int (0 : Int32))] (.int (0 : Int32)) := (Arv.new A6 (by decide)).pad (pad_rep [] (.int (0 : Int32)) 4)
  refine own_st st6 ?_
  show own_Go _ _ _ _ T6 (mkF m 32 #[.val (.int p1), .val (.int p2), .val (.int (p1 &&& (3 : Int32))), .val (.int (p2 &&& (3 : Int32))), .val (.ref b1), .unset, .unset, .unset, .unset] [(.ref b6)])
  refine own_st (fun _ k => XS.dup X6.here hx rfl (hb hby at_32) rfl rfl k) ?_
  show own_Go _ _ _ _ T6 (mkF m 33 #[.val (.int p1), .val (.int p2), .val (.int (p1 &&& (3 : Int32))), .val (.int (p2 &&& (3 : Int32))), .val (.ref b1), .unset, .unset, .unset, .unset] [(.ref b6), (.ref b6)])
  refine own_st (fun _ k => XS.iconst X6.here hx rfl (hb hby at_33) k) ?_
  show own_Go _ _ _ _ T6 (mkF m 34 #[.val (.int p1), .val (.int p2), .val (.int (p1 &&& (3 : Int32))), .val (.int (p2 &&& (3 : Int32))), .val (.ref b1), .unset, .unset, .unset, .unset] [(.int (0 : Int32)), (.ref b6), (.ref b6)])
  refine own_st (fun _ k => XS.iconst X6.here hx rfl (hb hby at_34) k) ?_
  show own_Go _ _ _ _ T6 (mkF m 35 #[.val (.int p1), .val (.int p2), .val (.int (p1 &&& (3 : Int32))), .val (.int (p2 &&& (3 : Int32))), .val (.ref b1), .unset, .unset, .unset, .unset] [(.int (1 : Int32)), (.int (0 : Int32)), (.ref b6), (.ref b6)])
  obtain ⟨T7, hp7, X7, e7, W7, Va7, st7⟩ := own_stZ X6 hx hZ e6 Va6 (by decide) 0 (by decide) (by decide) (g := (mkF m 35 #[.val (.int p1), .val (.int p2), .val (.int (p1 &&& (3 : Int32))), .val (.int (p2 &&& (3 : Int32))), .val (.ref b1), .unset, .unset, .unset, .unset] [(.int (1 : Int32)), (.int (0 : Int32)), (.ref b6), (.ref b6)])) rfl rfl (hb hby at_35)
  have O7 := own_extw O6 W7 s_b6
  have V_b1_7 := V_b1_6.other W7 (Nat.ne_of_lt lt_b1_b6)
  have Va7 : Arv Z hp7 b6 kk6 .boolean (4 : Int32) [(.int (1 : Int32)), (.int (0 : Int32)), (.int (0 : Int32)), (.int (0 : Int32))] (.int (0 : Int32)) := Va7
  have N7 := Fr.snoc X7 N5 g_b6
  refine own_st st7 ?_
  show own_Go _ _ _ _ T7 (mkF m 36 #[.val (.int p1), .val (.int p2), .val (.int (p1 &&& (3 : Int32))), .val (.int (p2 &&& (3 : Int32))), .val (.ref b1), .unset, .unset, .unset, .unset] [(.ref b6)])
  refine own_st (fun _ k => XS.dup X7.here hx rfl (hb hby at_36) rfl rfl k) ?_
  show own_Go _ _ _ _ T7 (mkF m 37 #[.val (.int p1), .val (.int p2), .val (.int (p1 &&& (3 : Int32))), .val (.int (p2 &&& (3 : Int32))), .val (.ref b1), .unset, .unset, .unset, .unset] [(.ref b6), (.ref b6)])
  refine own_st (fun _ k => XS.iconst X7.here hx rfl (hb hby at_37) k) ?_
  show own_Go _ _ _ _ T7 (mkF m 38 #[.val (.int p1), .val (.int p2), .val (.int (p1 &&& (3 : Int32))), .val (.int (p2 &&& (3 : Int32))), .val (.ref b1), .unset, .unset, .unset, .unset] [(.int (1 : Int32)), (.ref b6), (.ref b6)])
  refine own_st (fun _ k => XS.iconst X7.here hx rfl (hb hby at_38) k) ?_
  show own_Go _ _ _ _ T7 (mkF m 39 #[.val (.int p1), .val (.int p2), .val (.int (p1 &&& (3 : Int32))), .val (.int (p2 &&& (3 : Int32))), .val (.ref b1), .unset, .unset, .unset, .unset] [(.int (0 : Int32)), (.int (1 : Int32)), (.ref b6), (.ref b6)])
  obtain ⟨T8, hp8, X8, e8, W8, Va8, st8⟩ := own_stZ X7 hx hZ e7 Va7 (by decide) 1 (by decide) (by decide) (g := (mkF m 39 #[.val (.int p1), .val (.int p2), .val (.int (p1 &&& (3 : Int32))), .val (.int (p2 &&& (3 : Int32))), .val (.ref b1), .unset, .unset, .unset, .unset] [(.int (0 : Int32)), (.int (1 : Int32)), (.ref b6), (.ref b6)])) rfl rfl (hb hby at_39)
  have O8 := own_extw O7 W8 s_b6
  have V_b1_8 := V_b1_7.other W8 (Nat.ne_of_lt lt_b1_b6)
  have Va8 : Arv Z hp8 b6 kk6 .boolean (4 : Int32) [(.int (1 : Int32)), (.int (0 : Int32)), (.int (0 : Int32)), (.int (0 : Int32))] (.int (0 : Int32)) := Va8
  have N8 := Fr.snoc X8 N7 g_b6
  refine own_st st8 ?_
  show own_Go _ _ _ _ T8 (mkF m 40 #[.val (.int p1), .val (.int p2), .val (.int (p1 &&& (3 : Int32))), .val (.int (p2 &&& (3 : Int32))), .val (.ref b1), .unset, .unset, .unset, .unset] [(.ref b6)])
  refine own_st (fun _ k => XS.dup X8.here hx rfl (hb hby at_40) rfl rfl k) ?_
  show own_Go _ _ _ _ T8 (mkF m 41 #[.val (.int p1), .val (.int p2), .val (.int (p1 &&& (3 : Int32))), .val (.int (p2 &&& (3 : Int32))), .val (.ref b1), .unset, .unset, .unset, .unset] [(.ref b6), (.ref b6)])
  refine own_st (fun _ k => XS.iconst X8.here hx rfl (hb hby at_41) k) ?_
  show own_Go _ _ _ _ T8 (mkF m 42 #[.val (.int p1), .val (.int p2), .val (.int (p1 &&& (3 : Int32))), .val (.int (p2 &&& (3 : Int32))), .val (.ref b1), .unset, .unset, .unset, .unset] [(.int (2 : Int32)), (.ref b6), (.ref b6)])
  refine own_st (fun _ k => XS.iconst X8.here hx rfl (hb hby at_42) k) ?_
  show own_Go _ _ _ _ T8 (mkF m 43 #[.val (.int p1), .val (.int p2), .val (.int (p1 &&& (3 : Int32))), .val (.int (p2 &&& (3 : Int32))), .val (.ref b1), .unset, .unset, .unset, .unset] [(.int (1 : Int32)), (.int (2 : Int32)), (.ref b6), (.ref b6)])
  obtain ⟨T9, hp9, X9, e9, W9, Va9, st9⟩ := own_stZ X8 hx hZ e8 Va8 (by decide) 2 (by decide) (by decide) (g := (mkF m 43 #[.val (.int p1), .val (.int p2), .val (.int (p1 &&& (3 : Int32))), .val (.int (p2 &&& (3 : Int32))), .val (.ref b1), .unset, .unset, .unset, .unset] [(.int (1 : Int32)), (.int (2 : Int32)), (.ref b6), (.ref b6)])) rfl rfl (hb hby at_43)
  have O9 := own_extw O8 W9 s_b6
  have V_b1_9 := V_b1_8.other W9 (Nat.ne_of_lt lt_b1_b6)
  have Va9 : Arv Z hp9 b6 kk6 .boolean (4 : Int32) [(.int (1 : Int32)), (.int (0 : Int32)), (.int (1 : Int32)), (.int (0 : Int32))] (.int (0 : Int32)) := Va9
  have N9 := Fr.snoc X9 N8 g_b6
  refine own_st st9 ?_
  show own_Go _ _ _ _ T9 (mkF m 44 #[.val (.int p1), .val (.int p2), .val (.int (p1 &&& (3 : Int32))), .val (.int (p2 &&& (3 : Int32))), .val (.ref b1), .unset, .unset, .unset, .unset] [(.ref b6)])
  refine own_st (fun _ k => XS.dup X9.here hx rfl (hb hby at_44) rfl rfl k) ?_
  show own_Go _ _ _ _ T9 (mkF m 45 #[.val (.int p1), .val (.int p2), .val (.int (p1 &&& (3 : Int32))), .val (.int (p2 &&& (3 : Int32))), .val (.ref b1), .unset, .unset, .unset, .unset] [(.ref b6), (.ref b6)])
  refine own_st (fun _ k => XS.iconst X9.here hx rfl (hb hby at_45) k) ?_
  show own_Go _ _ _ _ T9 (mkF m 46 #[.val (.int p1), .val (.int p2), .val (.int (p1 &&& (3 : Int32))), .val (.int (p2 &&& (3 : Int32))), .val (.ref b1), .unset, .unset, .unset, .unset] [(.int (3 : Int32)), (.ref b6), (.ref b6)])
  refine own_st (fun _ k => XS.iconst X9.here hx rfl (hb hby at_46) k) ?_
  show own_Go _ _ _ _ T9 (mkF m 47 #[.val (.int p1), .val (.int p2), .val (.int (p1 &&& (3 : Int32))), .val (.int (p2 &&& (3 : Int32))), .val (.ref b1), .unset, .unset, .unset, .unset] [(.int (0 : Int32)), (.int (3 : Int32)), (.ref b6), (.ref b6)])
  obtain ⟨T10, hp10, X10, e10, W10, Va10, st10⟩ := own_stZ X9 hx hZ e9 Va9 (by decide) 3 (by decide) (by decide) (g := (mkF m 47 #[.val (.int p1), .val (.int p2), .val (.int (p1 &&& (3 : Int32))), .val (.int (p2 &&& (3 : Int32))), .val (.ref b1), .unset, .unset, .unset, .unset] [(.int (0 : Int32)), (.int (3 : Int32)), (.ref b6), (.ref b6)])) rfl rfl (hb hby at_47)
  have O10 := own_extw O9 W10 s_b6
  have V_b1_10 := V_b1_9.other W10 (Nat.ne_of_lt lt_b1_b6)
  have Va10 : Arv Z hp10 b6 kk6 .boolean (4 : Int32) [(.int (1 : Int32)), (.int (0 : Int32)), (.int (1 : Int32)), (.int (0 : Int32))] (.int (0 : Int32)) := Va10
  have N10 := Fr.snoc X10 N9 g_b6
  refine own_st st10 ?_
  show own_Go _ _ _ _ T10 (mkF m 48 #[.val (.int p1), .val (.int p2), .val (.int (p1 &&& (3 : Int32))), .val (.int (p2 &&& (3 : Int32))), .val (.ref b1), .unset, .unset, .unset, .unset] [(.ref b6)])
  refine own_st (fun _ k => XS.astore X10.here hx rfl (hb hby at_48) rfl rfl (l' := #[.val (.int p1), .val (.int p2), .val (.int (p1 &&& (3 : Int32))), .val (.int (p2 &&& (3 : Int32))), .val (.ref b1), .val (.ref b6), .unset, .unset, .unset]) rfl k) ?_
  show own_Go _ _ _ _ T10 (mkF m 50 #[.val (.int p1), .val (.int p2), .val (.int (p1 &&& (3 : Int32))), .val (.int (p2 &&& (3 : Int32))), .val (.ref b1), .val (.ref b6), .unset, .unset, .unset] [])
  refine own_st (fun _ k => XS.iloadN X10.here hx rfl (hb hby at_50) rfl k) ?_
  show own_Go _ _ _ _ T10 (mkF m 51 #[.val (.int p1), .val (.int p2), .val (.int (p1 &&& (3 : Int32))), .val (.int (p2 &&& (3 : Int32))), .val (.ref b1), .val (.ref b6), .unset, .unset, .unset] [(.int (p1 &&& (3 : Int32)))])
  obtain ⟨v11, T11, L11, hQ11, X11, st11⟩ := own_callS X10 hx hZ (y := (⟨"com/example/grenze/grenze/lock/LockKindCoversPinLaw", "kindOf", "(I)Lcom/example/grenze/grenze/lock/LockKind;"⟩ : MethodName)) hown (own_w1 hw) (own_w2 hw) (own_w3 hw) (own_w4 hw) (by decide) (own_kind l hw [] (p1 &&& (3 : Int32)) w0 w1 w2 w3 hp10 n0 (Nat.le_trans Z0 O10.1) (S0.ext O10) (S1.ext O10) (S2.ext O10) (S3.ext O10)) e10 (g := (mkF m 51 #[.val (.int p1), .val (.int p2), .val (.int (p1 &&& (3 : Int32))), .val (.int (p2 &&& (3 : Int32))), .val (.ref b1), .val (.ref b6), .unset, .unset, .unset] [(.int (p1 &&& (3 : Int32)))])) rfl (by rw [hml]; rfl) (argsL := [(.int (p1 &&& (3 : Int32)))]) (rest := []) (lenOf own_pd0 rfl) rfl rfl (W := 0) (Nat.le_of_eq rfl) (hb hby at_51) (by decide) (by decide) (by decide) (by decide)
  obtain ⟨rfl, N11, e11⟩ := hQ11
  have N11' := Fr.app N10 N11
  refine own_st st11 ?_
  show own_Go _ _ _ _ T11 (mkF m 54 #[.val (.int p1), .val (.int p2), .val (.int (p1 &&& (3 : Int32))), .val (.int (p2 &&& (3 : Int32))), .val (.ref b1), .val (.ref b6), .unset, .unset, .unset] [(.ref (own_pick (p1 &&& (3 : Int32)) w0 w1 w2 w3))])
  refine own_st (fun _ k => XS.astore X11.here hx rfl (hb hby at_54) rfl rfl (l' := #[.val (.int p1), .val (.int p2), .val (.int (p1 &&& (3 : Int32))), .val (.int (p2 &&& (3 : Int32))), .val (.ref b1), .val (.ref b6), .val (.ref (own_pick (p1 &&& (3 : Int32)) w0 w1 w2 w3)), .unset, .unset]) rfl k) ?_
  show own_Go _ _ _ _ T11 (mkF m 56 #[.val (.int p1), .val (.int p2), .val (.int (p1 &&& (3 : Int32))), .val (.int (p2 &&& (3 : Int32))), .val (.ref b1), .val (.ref b6), .val (.ref (own_pick (p1 &&& (3 : Int32)) w0 w1 w2 w3)), .unset, .unset] [])
  refine own_st (fun _ k => XS.iloadN X11.here hx rfl (hb hby at_56) rfl k) ?_
  show own_Go _ _ _ _ T11 (mkF m 57 #[.val (.int p1), .val (.int p2), .val (.int (p1 &&& (3 : Int32))), .val (.int (p2 &&& (3 : Int32))), .val (.ref b1), .val (.ref b6), .val (.ref (own_pick (p1 &&& (3 : Int32)) w0 w1 w2 w3)), .unset, .unset] [(.int (p2 &&& (3 : Int32)))])
  obtain ⟨v12, T12, L12, hQ12, X12, st12⟩ := own_callS X11 hx hZ (y := (⟨"com/example/grenze/grenze/lock/LockKindCoversPinLaw", "kindOf", "(I)Lcom/example/grenze/grenze/lock/LockKind;"⟩ : MethodName)) hown (own_w1 hw) (own_w2 hw) (own_w3 hw) (own_w4 hw) (by decide) (own_kind l hw [] (p2 &&& (3 : Int32)) w0 w1 w2 w3 hp10 n0 (Nat.le_trans Z0 O10.1) (S0.ext O10) (S1.ext O10) (S2.ext O10) (S3.ext O10)) e11 (g := (mkF m 57 #[.val (.int p1), .val (.int p2), .val (.int (p1 &&& (3 : Int32))), .val (.int (p2 &&& (3 : Int32))), .val (.ref b1), .val (.ref b6), .val (.ref (own_pick (p1 &&& (3 : Int32)) w0 w1 w2 w3)), .unset, .unset] [(.int (p2 &&& (3 : Int32)))])) rfl (by rw [hml]; rfl) (argsL := [(.int (p2 &&& (3 : Int32)))]) (rest := []) (lenOf own_pd0 rfl) rfl rfl (W := 0) (Nat.le_of_eq rfl) (hb hby at_57) (by decide) (by decide) (by decide) (by decide)
  obtain ⟨rfl, N12, e12⟩ := hQ12
  have N12' := Fr.app N11' N12
  refine own_st st12 ?_
  show own_Go _ _ _ _ T12 (mkF m 60 #[.val (.int p1), .val (.int p2), .val (.int (p1 &&& (3 : Int32))), .val (.int (p2 &&& (3 : Int32))), .val (.ref b1), .val (.ref b6), .val (.ref (own_pick (p1 &&& (3 : Int32)) w0 w1 w2 w3)), .unset, .unset] [(.ref (own_pick (p2 &&& (3 : Int32)) w0 w1 w2 w3))])
  refine own_st (fun _ k => XS.astore X12.here hx rfl (hb hby at_60) rfl rfl (l' := #[.val (.int p1), .val (.int p2), .val (.int (p1 &&& (3 : Int32))), .val (.int (p2 &&& (3 : Int32))), .val (.ref b1), .val (.ref b6), .val (.ref (own_pick (p1 &&& (3 : Int32)) w0 w1 w2 w3)), .val (.ref (own_pick (p2 &&& (3 : Int32)) w0 w1 w2 w3)), .unset]) rfl k) ?_
  show own_Go _ _ _ _ T12 (mkF m 62 #[.val (.int p1), .val (.int p2), .val (.int (p1 &&& (3 : Int32))), .val (.int (p2 &&& (3 : Int32))), .val (.ref b1), .val (.ref b6), .val (.ref (own_pick (p1 &&& (3 : Int32)) w0 w1 w2 w3)), .val (.ref (own_pick (p2 &&& (3 : Int32)) w0 w1 w2 w3)), .unset] [])
  have tl : ∀ (xa xb ex : Int32) (ra rb : Addr) (Ea : Exa Z h0 ra "com/example/grenze/grenze/lock/LockKind") (hx2 : own_cov ra rb w0 w3 = ex), own_Go p.tables e below (own_F below s (own_law_Q Z p1 p2 w0 w1 w2 w3 h0 n0) 16 128) T12 (mkF m 100 #[.val (.int p1), .val (.int p2), .val (.int xa), .val (.int xb), .val (.ref b1), .val (.ref b6), .val (.ref ra), .val (.ref rb), .unset] [(.int ex)]) := by
    intro xa xb ex ra rb Ea hx2
    refine own_st (fun _ k => XS.istore X12.here hx rfl (hb hby at_100) rfl (l' := #[.val (.int p1), .val (.int p2), .val (.int xa), .val (.int xb), .val (.ref b1), .val (.ref b6), .val (.ref ra), .val (.ref rb), .val (.int ex)]) rfl k) ?_
    show own_Go _ _ _ _ T12 (mkF m 102 #[.val (.int p1), .val (.int p2), .val (.int xa), .val (.int xb), .val (.ref b1), .val (.ref b6), .val (.ref ra), .val (.ref rb), .val (.int ex)] [])
    refine own_st (fun _ k => XS.aload X12.here hx rfl (hb hby at_102) rfl rfl k) ?_
    show own_Go _ _ _ _ T12 (mkF m 104 #[.val (.int p1), .val (.int p2), .val (.int xa), .val (.int xb), .val (.ref b1), .val (.ref b6), .val (.ref ra), .val (.ref rb), .val (.int ex)] [(.ref ra)])
    refine own_st (fun _ k => XS.aload X12.here hx rfl (hb hby at_104) rfl rfl k) ?_
    show own_Go _ _ _ _ T12 (mkF m 106 #[.val (.int p1), .val (.int p2), .val (.int xa), .val (.int xb), .val (.ref b1), .val (.ref b6), .val (.ref ra), .val (.ref rb), .val (.int ex)] [(.ref rb), (.ref ra)])
    obtain ⟨v13, T13, L13, hQ13, X13, st13⟩ := own_callV X12 hx hZ (y := (⟨"com/example/grenze/grenze/lock/LockKind", "covers", "(Lcom/example/grenze/grenze/lock/LockKind;)Z"⟩ : MethodName)) hown (own_w10 hw) (own_w11 hw) (own_w13 hw) (own_w12 hw) (own_w6 hw) (own_w14 hw) (by decide) (own_covers l hw [] ra rb w0 w1 w2 w3 hp10 n0 (Nat.le_trans Z0 O10.1) (S0.ext O10) (S1.ext O10) (S2.ext O10) (S3.ext O10)) e12 (Ea.ext O10) (g := (mkF m 106 #[.val (.int p1), .val (.int p2), .val (.int xa), .val (.int xb), .val (.ref b1), .val (.ref b6), .val (.ref ra), .val (.ref rb), .val (.int ex)] [(.ref rb), (.ref ra)])) rfl (by rw [hml]; rfl) (argsL := [(.ref rb)]) (rest := []) (lenOf own_pd1 rfl) rfl rfl (W := 0) (Nat.le_of_eq rfl) (hb hby at_106) (by decide) (by decide) (by decide) (by decide)
    obtain ⟨rfl, N13, e13⟩ := hQ13
    have N13' := Fr.app N12' N13
    refine own_st st13 ?_
    show own_Go _ _ _ _ T13 (mkF m 109 #[.val (.int p1), .val (.int p2), .val (.int xa), .val (.int xb), .val (.ref b1), .val (.ref b6), .val (.ref ra), .val (.ref rb), .val (.int ex)] [(.int (own_cov ra rb w0 w3))])
    refine own_st (fun _ k => XS.iload X13.here hx rfl (hb hby at_109) rfl k) ?_
    show own_Go _ _ _ _ T13 (mkF m 111 #[.val (.int p1), .val (.int p2), .val (.int xa), .val (.int xb), .val (.ref b1), .val (.ref b6), .val (.ref ra), .val (.ref rb), .val (.int ex)] [(.int ex), (.int (own_cov ra rb w0 w3))])
    refine own_st (fun _ k => XS.icmpNo X13.here hx rfl (hb hby at_111) rfl (teq (hx2 : (own_cov ra rb w0 w3) = ex)).2 k) ?_
    show own_Go _ _ _ _ T13 (mkF m 114 #[.val (.int p1), .val (.int p2), .val (.int xa), .val (.int xb), .val (.ref b1), .val (.ref b6), .val (.ref ra), .val (.ref rb), .val (.int ex)] [])
    refine own_st (fun _ k => XS.iconst X13.here hx rfl (hb hby at_114) k) ?_
    show own_Go _ _ _ _ T13 (mkF m 115 #[.val (.int p1), .val (.int p2), .val (.int xa), .val (.int xb), .val (.ref b1), .val (.ref b6), .val (.ref ra), .val (.ref rb), .val (.int ex)] [(.int (1 : Int32))])
    refine own_st (fun _ k => XS.goto X13.here hx rfl (pc0 := 115) (pc' := 119) rfl (hb hby at_115) (by decide) (by decide) k) ?_
    show own_Go _ _ _ _ T13 (mkF m 119 #[.val (.int p1), .val (.int p2), .val (.int xa), .val (.int xb), .val (.ref b1), .val (.ref b6), .val (.ref ra), .val (.ref rb), .val (.int ex)] [(.int (1 : Int32))])
    exact own_retN X13 hx hret (by simp) hlk (hb hby at_119) ⟨rfl, N13'⟩ (by decide) (by decide)
  rcases own_and3 p1 with ha | ha | ha | ha
  · rcases own_and3 p2 with hb' | hb' | hb' | hb'
    · rw [ha, hb']
      show own_Go _ _ _ _ T12 (mkF m 62 #[.val (.int p1), .val (.int p2), .val (.int (0 : Int32)), .val (.int (0 : Int32)), .val (.ref b1), .val (.ref b6), .val (.ref w0), .val (.ref w0), .unset] [])
      refine own_st (fun _ k => XS.iloadN X12.here hx rfl (hb hby at_62) rfl k) ?_
      show own_Go _ _ _ _ T12 (mkF m 63 #[.val (.int p1), .val (.int p2), .val (.int (0 : Int32)), .val (.int (0 : Int32)), .val (.ref b1), .val (.ref b6), .val (.ref w0), .val (.ref w0), .unset] [(.int (0 : Int32))])
      refine own_st (fun _ k => XS.iconst X12.here hx rfl (hb hby at_63) k) ?_
      show own_Go _ _ _ _ T12 (mkF m 64 #[.val (.int p1), .val (.int p2), .val (.int (0 : Int32)), .val (.int (0 : Int32)), .val (.ref b1), .val (.ref b6), .val (.ref w0), .val (.ref w0), .unset] [(.int (3 : Int32)), (.int (0 : Int32))])
      refine own_st (fun _ k => XS.icmpNo X12.here hx rfl (hb hby at_64) rfl (feq (by decide : ¬ ((0 : Int32) = (3 : Int32)))).1 k) ?_
      show own_Go _ _ _ _ T12 (mkF m 67 #[.val (.int p1), .val (.int p2), .val (.int (0 : Int32)), .val (.int (0 : Int32)), .val (.ref b1), .val (.ref b6), .val (.ref w0), .val (.ref w0), .unset] [])
      refine own_st (fun _ k => XS.aload X12.here hx rfl (hb hby at_67) rfl rfl k) ?_
      show own_Go _ _ _ _ T12 (mkF m 69 #[.val (.int p1), .val (.int p2), .val (.int (0 : Int32)), .val (.int (0 : Int32)), .val (.ref b1), .val (.ref b6), .val (.ref w0), .val (.ref w0), .unset] [(.ref b1)])
      refine own_st (fun _ k => XS.iloadN X12.here hx rfl (hb hby at_69) rfl k) ?_
      show own_Go _ _ _ _ T12 (mkF m 70 #[.val (.int p1), .val (.int p2), .val (.int (0 : Int32)), .val (.int (0 : Int32)), .val (.ref b1), .val (.ref b6), .val (.ref w0), .val (.ref w0), .unset] [(.int (0 : Int32)), (.ref b1)])
      refine own_st (own_ldZ X12 hx hZ e12 V_b1_10 (j := (0 : Int32)) (by decide) (v := (.int (1 : Int32))) rfl (g := (mkF m 70 #[.val (.int p1), .val (.int p2), .val (.int (0 : Int32)), .val (.int (0 : Int32)), .val (.ref b1), .val (.ref b6), .val (.ref w0), .val (.ref w0), .unset] [(.int (0 : Int32)), (.ref b1)])) rfl rfl (hb hby at_70)) ?_
      show own_Go _ _ _ _ T12 (mkF m 71 #[.val (.int p1), .val (.int p2), .val (.int (0 : Int32)), .val (.int (0 : Int32)), .val (.ref b1), .val (.ref b6), .val (.ref w0), .val (.ref w0), .unset] [(.int (1 : Int32))])
      refine own_st (fun _ k => XS.ifNo X12.here hx rfl (hb hby at_71) rfl ((if0 _ _).trans (feq (by decide : ¬ ((1 : Int32) = (0 : Int32)))).1) k) ?_
      show own_Go _ _ _ _ T12 (mkF m 74 #[.val (.int p1), .val (.int p2), .val (.int (0 : Int32)), .val (.int (0 : Int32)), .val (.ref b1), .val (.ref b6), .val (.ref w0), .val (.ref w0), .unset] [])
      refine own_st (fun _ k => XS.aload X12.here hx rfl (hb hby at_74) rfl rfl k) ?_
      show own_Go _ _ _ _ T12 (mkF m 76 #[.val (.int p1), .val (.int p2), .val (.int (0 : Int32)), .val (.int (0 : Int32)), .val (.ref b1), .val (.ref b6), .val (.ref w0), .val (.ref w0), .unset] [(.ref b1)])
      refine own_st (fun _ k => XS.iloadN X12.here hx rfl (hb hby at_76) rfl k) ?_
      show own_Go _ _ _ _ T12 (mkF m 77 #[.val (.int p1), .val (.int p2), .val (.int (0 : Int32)), .val (.int (0 : Int32)), .val (.ref b1), .val (.ref b6), .val (.ref w0), .val (.ref w0), .unset] [(.int (0 : Int32)), (.ref b1)])
      refine own_st (own_ldZ X12 hx hZ e12 V_b1_10 (j := (0 : Int32)) (by decide) (v := (.int (1 : Int32))) rfl (g := (mkF m 77 #[.val (.int p1), .val (.int p2), .val (.int (0 : Int32)), .val (.int (0 : Int32)), .val (.ref b1), .val (.ref b6), .val (.ref w0), .val (.ref w0), .unset] [(.int (0 : Int32)), (.ref b1)])) rfl rfl (hb hby at_77)) ?_
      show own_Go _ _ _ _ T12 (mkF m 78 #[.val (.int p1), .val (.int p2), .val (.int (0 : Int32)), .val (.int (0 : Int32)), .val (.ref b1), .val (.ref b6), .val (.ref w0), .val (.ref w0), .unset] [(.int (1 : Int32))])
      refine own_st (fun _ k => XS.ifNo X12.here hx rfl (hb hby at_78) rfl ((if0 _ _).trans (feq (by decide : ¬ ((1 : Int32) = (0 : Int32)))).1) k) ?_
      show own_Go _ _ _ _ T12 (mkF m 81 #[.val (.int p1), .val (.int p2), .val (.int (0 : Int32)), .val (.int (0 : Int32)), .val (.ref b1), .val (.ref b6), .val (.ref w0), .val (.ref w0), .unset] [])
      refine own_st (fun _ k => XS.aload X12.here hx rfl (hb hby at_81) rfl rfl k) ?_
      show own_Go _ _ _ _ T12 (mkF m 83 #[.val (.int p1), .val (.int p2), .val (.int (0 : Int32)), .val (.int (0 : Int32)), .val (.ref b1), .val (.ref b6), .val (.ref w0), .val (.ref w0), .unset] [(.ref b6)])
      refine own_st (fun _ k => XS.iloadN X12.here hx rfl (hb hby at_83) rfl k) ?_
      show own_Go _ _ _ _ T12 (mkF m 84 #[.val (.int p1), .val (.int p2), .val (.int (0 : Int32)), .val (.int (0 : Int32)), .val (.ref b1), .val (.ref b6), .val (.ref w0), .val (.ref w0), .unset] [(.int (0 : Int32)), (.ref b6)])
      refine own_st (own_ldZ X12 hx hZ e12 Va10 (j := (0 : Int32)) (by decide) (v := (.int (1 : Int32))) rfl (g := (mkF m 84 #[.val (.int p1), .val (.int p2), .val (.int (0 : Int32)), .val (.int (0 : Int32)), .val (.ref b1), .val (.ref b6), .val (.ref w0), .val (.ref w0), .unset] [(.int (0 : Int32)), (.ref b6)])) rfl rfl (hb hby at_84)) ?_
      show own_Go _ _ _ _ T12 (mkF m 85 #[.val (.int p1), .val (.int p2), .val (.int (0 : Int32)), .val (.int (0 : Int32)), .val (.ref b1), .val (.ref b6), .val (.ref w0), .val (.ref w0), .unset] [(.int (1 : Int32))])
      refine own_st (fun _ k => XS.ifNo X12.here hx rfl (hb hby at_85) rfl ((if0 _ _).trans (feq (by decide : ¬ ((1 : Int32) = (0 : Int32)))).1) k) ?_
      show own_Go _ _ _ _ T12 (mkF m 88 #[.val (.int p1), .val (.int p2), .val (.int (0 : Int32)), .val (.int (0 : Int32)), .val (.ref b1), .val (.ref b6), .val (.ref w0), .val (.ref w0), .unset] [])
      refine own_st (fun _ k => XS.aload X12.here hx rfl (hb hby at_88) rfl rfl k) ?_
      show own_Go _ _ _ _ T12 (mkF m 90 #[.val (.int p1), .val (.int p2), .val (.int (0 : Int32)), .val (.int (0 : Int32)), .val (.ref b1), .val (.ref b6), .val (.ref w0), .val (.ref w0), .unset] [(.ref b6)])
      refine own_st (fun _ k => XS.iloadN X12.here hx rfl (hb hby at_90) rfl k) ?_
      show own_Go _ _ _ _ T12 (mkF m 91 #[.val (.int p1), .val (.int p2), .val (.int (0 : Int32)), .val (.int (0 : Int32)), .val (.ref b1), .val (.ref b6), .val (.ref w0), .val (.ref w0), .unset] [(.int (0 : Int32)), (.ref b6)])
      refine own_st (own_ldZ X12 hx hZ e12 Va10 (j := (0 : Int32)) (by decide) (v := (.int (1 : Int32))) rfl (g := (mkF m 91 #[.val (.int p1), .val (.int p2), .val (.int (0 : Int32)), .val (.int (0 : Int32)), .val (.ref b1), .val (.ref b6), .val (.ref w0), .val (.ref w0), .unset] [(.int (0 : Int32)), (.ref b6)])) rfl rfl (hb hby at_91)) ?_
      show own_Go _ _ _ _ T12 (mkF m 92 #[.val (.int p1), .val (.int p2), .val (.int (0 : Int32)), .val (.int (0 : Int32)), .val (.ref b1), .val (.ref b6), .val (.ref w0), .val (.ref w0), .unset] [(.int (1 : Int32))])
      refine own_st (fun _ k => XS.ifNo X12.here hx rfl (hb hby at_92) rfl ((if0 _ _).trans (feq (by decide : ¬ ((1 : Int32) = (0 : Int32)))).1) k) ?_
      show own_Go _ _ _ _ T12 (mkF m 95 #[.val (.int p1), .val (.int p2), .val (.int (0 : Int32)), .val (.int (0 : Int32)), .val (.ref b1), .val (.ref b6), .val (.ref w0), .val (.ref w0), .unset] [])
      refine own_st (fun _ k => XS.iconst X12.here hx rfl (hb hby at_95) k) ?_
      show own_Go _ _ _ _ T12 (mkF m 96 #[.val (.int p1), .val (.int p2), .val (.int (0 : Int32)), .val (.int (0 : Int32)), .val (.ref b1), .val (.ref b6), .val (.ref w0), .val (.ref w0), .unset] [(.int (1 : Int32))])
      refine own_st (fun _ k => XS.goto X12.here hx rfl (pc0 := 96) (pc' := 100) rfl (hb hby at_96) (by decide) (by decide) k) ?_
      show own_Go _ _ _ _ T12 (mkF m 100 #[.val (.int p1), .val (.int p2), .val (.int (0 : Int32)), .val (.int (0 : Int32)), .val (.ref b1), .val (.ref b6), .val (.ref w0), .val (.ref w0), .unset] [(.int (1 : Int32))])
      exact tl _ _ _ _ _ E0 (by simp [own_cov, n10, n10.symm, n20, n20.symm, n21, n21.symm, n30, n30.symm, n31, n31.symm, n32, n32.symm])
    · rw [ha, hb']
      show own_Go _ _ _ _ T12 (mkF m 62 #[.val (.int p1), .val (.int p2), .val (.int (0 : Int32)), .val (.int (1 : Int32)), .val (.ref b1), .val (.ref b6), .val (.ref w0), .val (.ref w1), .unset] [])
      refine own_st (fun _ k => XS.iloadN X12.here hx rfl (hb hby at_62) rfl k) ?_
      show own_Go _ _ _ _ T12 (mkF m 63 #[.val (.int p1), .val (.int p2), .val (.int (0 : Int32)), .val (.int (1 : Int32)), .val (.ref b1), .val (.ref b6), .val (.ref w0), .val (.ref w1), .unset] [(.int (1 : Int32))])
      refine own_st (fun _ k => XS.iconst X12.here hx rfl (hb hby at_63) k) ?_
      show own_Go _ _ _ _ T12 (mkF m 64 #[.val (.int p1), .val (.int p2), .val (.int (0 : Int32)), .val (.int (1 : Int32)), .val (.ref b1), .val (.ref b6), .val (.ref w0), .val (.ref w1), .unset] [(.int (3 : Int32)), (.int (1 : Int32))])
      refine own_st (fun _ k => XS.icmpNo X12.here hx rfl (hb hby at_64) rfl (feq (by decide : ¬ ((1 : Int32) = (3 : Int32)))).1 k) ?_
      show own_Go _ _ _ _ T12 (mkF m 67 #[.val (.int p1), .val (.int p2), .val (.int (0 : Int32)), .val (.int (1 : Int32)), .val (.ref b1), .val (.ref b6), .val (.ref w0), .val (.ref w1), .unset] [])
      refine own_st (fun _ k => XS.aload X12.here hx rfl (hb hby at_67) rfl rfl k) ?_
      show own_Go _ _ _ _ T12 (mkF m 69 #[.val (.int p1), .val (.int p2), .val (.int (0 : Int32)), .val (.int (1 : Int32)), .val (.ref b1), .val (.ref b6), .val (.ref w0), .val (.ref w1), .unset] [(.ref b1)])
      refine own_st (fun _ k => XS.iloadN X12.here hx rfl (hb hby at_69) rfl k) ?_
      show own_Go _ _ _ _ T12 (mkF m 70 #[.val (.int p1), .val (.int p2), .val (.int (0 : Int32)), .val (.int (1 : Int32)), .val (.ref b1), .val (.ref b6), .val (.ref w0), .val (.ref w1), .unset] [(.int (1 : Int32)), (.ref b1)])
      refine own_st (own_ldZ X12 hx hZ e12 V_b1_10 (j := (1 : Int32)) (by decide) (v := (.int (1 : Int32))) rfl (g := (mkF m 70 #[.val (.int p1), .val (.int p2), .val (.int (0 : Int32)), .val (.int (1 : Int32)), .val (.ref b1), .val (.ref b6), .val (.ref w0), .val (.ref w1), .unset] [(.int (1 : Int32)), (.ref b1)])) rfl rfl (hb hby at_70)) ?_
      show own_Go _ _ _ _ T12 (mkF m 71 #[.val (.int p1), .val (.int p2), .val (.int (0 : Int32)), .val (.int (1 : Int32)), .val (.ref b1), .val (.ref b6), .val (.ref w0), .val (.ref w1), .unset] [(.int (1 : Int32))])
      refine own_st (fun _ k => XS.ifNo X12.here hx rfl (hb hby at_71) rfl ((if0 _ _).trans (feq (by decide : ¬ ((1 : Int32) = (0 : Int32)))).1) k) ?_
      show own_Go _ _ _ _ T12 (mkF m 74 #[.val (.int p1), .val (.int p2), .val (.int (0 : Int32)), .val (.int (1 : Int32)), .val (.ref b1), .val (.ref b6), .val (.ref w0), .val (.ref w1), .unset] [])
      refine own_st (fun _ k => XS.aload X12.here hx rfl (hb hby at_74) rfl rfl k) ?_
      show own_Go _ _ _ _ T12 (mkF m 76 #[.val (.int p1), .val (.int p2), .val (.int (0 : Int32)), .val (.int (1 : Int32)), .val (.ref b1), .val (.ref b6), .val (.ref w0), .val (.ref w1), .unset] [(.ref b1)])
      refine own_st (fun _ k => XS.iloadN X12.here hx rfl (hb hby at_76) rfl k) ?_
      show own_Go _ _ _ _ T12 (mkF m 77 #[.val (.int p1), .val (.int p2), .val (.int (0 : Int32)), .val (.int (1 : Int32)), .val (.ref b1), .val (.ref b6), .val (.ref w0), .val (.ref w1), .unset] [(.int (0 : Int32)), (.ref b1)])
      refine own_st (own_ldZ X12 hx hZ e12 V_b1_10 (j := (0 : Int32)) (by decide) (v := (.int (1 : Int32))) rfl (g := (mkF m 77 #[.val (.int p1), .val (.int p2), .val (.int (0 : Int32)), .val (.int (1 : Int32)), .val (.ref b1), .val (.ref b6), .val (.ref w0), .val (.ref w1), .unset] [(.int (0 : Int32)), (.ref b1)])) rfl rfl (hb hby at_77)) ?_
      show own_Go _ _ _ _ T12 (mkF m 78 #[.val (.int p1), .val (.int p2), .val (.int (0 : Int32)), .val (.int (1 : Int32)), .val (.ref b1), .val (.ref b6), .val (.ref w0), .val (.ref w1), .unset] [(.int (1 : Int32))])
      refine own_st (fun _ k => XS.ifNo X12.here hx rfl (hb hby at_78) rfl ((if0 _ _).trans (feq (by decide : ¬ ((1 : Int32) = (0 : Int32)))).1) k) ?_
      show own_Go _ _ _ _ T12 (mkF m 81 #[.val (.int p1), .val (.int p2), .val (.int (0 : Int32)), .val (.int (1 : Int32)), .val (.ref b1), .val (.ref b6), .val (.ref w0), .val (.ref w1), .unset] [])
      refine own_st (fun _ k => XS.aload X12.here hx rfl (hb hby at_81) rfl rfl k) ?_
      show own_Go _ _ _ _ T12 (mkF m 83 #[.val (.int p1), .val (.int p2), .val (.int (0 : Int32)), .val (.int (1 : Int32)), .val (.ref b1), .val (.ref b6), .val (.ref w0), .val (.ref w1), .unset] [(.ref b6)])
      refine own_st (fun _ k => XS.iloadN X12.here hx rfl (hb hby at_83) rfl k) ?_
      show own_Go _ _ _ _ T12 (mkF m 84 #[.val (.int p1), .val (.int p2), .val (.int (0 : Int32)), .val (.int (1 : Int32)), .val (.ref b1), .val (.ref b6), .val (.ref w0), .val (.ref w1), .unset] [(.int (1 : Int32)), (.ref b6)])
      refine own_st (own_ldZ X12 hx hZ e12 Va10 (j := (1 : Int32)) (by decide) (v := (.int (0 : Int32))) rfl (g := (mkF m 84 #[.val (.int p1), .val (.int p2), .val (.int (0 : Int32)), .val (.int (1 : Int32)), .val (.ref b1), .val (.ref b6), .val (.ref w0), .val (.ref w1), .unset] [(.int (1 : Int32)), (.ref b6)])) rfl rfl (hb hby at_84)) ?_
      show own_Go _ _ _ _ T12 (mkF m 85 #[.val (.int p1), .val (.int p2), .val (.int (0 : Int32)), .val (.int (1 : Int32)), .val (.ref b1), .val (.ref b6), .val (.ref w0), .val (.ref w1), .unset] [(.int (0 : Int32))])
      refine own_st (fun _ k => XS.ifYes X12.here hx rfl (pc0 := 85) (pc' := 95) rfl (hb hby at_85) rfl ((if0 _ _).trans (teq (by decide : (0 : Int32) = (0 : Int32))).1) (by decide) (by decide) k) ?_
      show own_Go _ _ _ _ T12 (mkF m 95 #[.val (.int p1), .val (.int p2), .val (.int (0 : Int32)), .val (.int (1 : Int32)), .val (.ref b1), .val (.ref b6), .val (.ref w0), .val (.ref w1), .unset] [])
      refine own_st (fun _ k => XS.iconst X12.here hx rfl (hb hby at_95) k) ?_
      show own_Go _ _ _ _ T12 (mkF m 96 #[.val (.int p1), .val (.int p2), .val (.int (0 : Int32)), .val (.int (1 : Int32)), .val (.ref b1), .val (.ref b6), .val (.ref w0), .val (.ref w1), .unset] [(.int (1 : Int32))])
      refine own_st (fun _ k => XS.goto X12.here hx rfl (pc0 := 96) (pc' := 100) rfl (hb hby at_96) (by decide) (by decide) k) ?_
      show own_Go _ _ _ _ T12 (mkF m 100 #[.val (.int p1), .val (.int p2), .val (.int (0 : Int32)), .val (.int (1 : Int32)), .val (.ref b1), .val (.ref b6), .val (.ref w0), .val (.ref w1), .unset] [(.int (1 : Int32))])
      exact tl _ _ _ _ _ E0 (by simp [own_cov, n10, n10.symm, n20, n20.symm, n21, n21.symm, n30, n30.symm, n31, n31.symm, n32, n32.symm])
    · rw [ha, hb']
      show own_Go _ _ _ _ T12 (mkF m 62 #[.val (.int p1), .val (.int p2), .val (.int (0 : Int32)), .val (.int (2 : Int32)), .val (.ref b1), .val (.ref b6), .val (.ref w0), .val (.ref w2), .unset] [])
      refine own_st (fun _ k => XS.iloadN X12.here hx rfl (hb hby at_62) rfl k) ?_
      show own_Go _ _ _ _ T12 (mkF m 63 #[.val (.int p1), .val (.int p2), .val (.int (0 : Int32)), .val (.int (2 : Int32)), .val (.ref b1), .val (.ref b6), .val (.ref w0), .val (.ref w2), .unset] [(.int (2 : Int32))])
      refine own_st (fun _ k => XS.iconst X12.here hx rfl (hb hby at_63) k) ?_
      show own_Go _ _ _ _ T12 (mkF m 64 #[.val (.int p1), .val (.int p2), .val (.int (0 : Int32)), .val (.int (2 : Int32)), .val (.ref b1), .val (.ref b6), .val (.ref w0), .val (.ref w2), .unset] [(.int (3 : Int32)), (.int (2 : Int32))])
      refine own_st (fun _ k => XS.icmpNo X12.here hx rfl (hb hby at_64) rfl (feq (by decide : ¬ ((2 : Int32) = (3 : Int32)))).1 k) ?_
      show own_Go _ _ _ _ T12 (mkF m 67 #[.val (.int p1), .val (.int p2), .val (.int (0 : Int32)), .val (.int (2 : Int32)), .val (.ref b1), .val (.ref b6), .val (.ref w0), .val (.ref w2), .unset] [])
      refine own_st (fun _ k => XS.aload X12.here hx rfl (hb hby at_67) rfl rfl k) ?_
      show own_Go _ _ _ _ T12 (mkF m 69 #[.val (.int p1), .val (.int p2), .val (.int (0 : Int32)), .val (.int (2 : Int32)), .val (.ref b1), .val (.ref b6), .val (.ref w0), .val (.ref w2), .unset] [(.ref b1)])
      refine own_st (fun _ k => XS.iloadN X12.here hx rfl (hb hby at_69) rfl k) ?_
      show own_Go _ _ _ _ T12 (mkF m 70 #[.val (.int p1), .val (.int p2), .val (.int (0 : Int32)), .val (.int (2 : Int32)), .val (.ref b1), .val (.ref b6), .val (.ref w0), .val (.ref w2), .unset] [(.int (2 : Int32)), (.ref b1)])
      refine own_st (own_ldZ X12 hx hZ e12 V_b1_10 (j := (2 : Int32)) (by decide) (v := (.int (0 : Int32))) rfl (g := (mkF m 70 #[.val (.int p1), .val (.int p2), .val (.int (0 : Int32)), .val (.int (2 : Int32)), .val (.ref b1), .val (.ref b6), .val (.ref w0), .val (.ref w2), .unset] [(.int (2 : Int32)), (.ref b1)])) rfl rfl (hb hby at_70)) ?_
      show own_Go _ _ _ _ T12 (mkF m 71 #[.val (.int p1), .val (.int p2), .val (.int (0 : Int32)), .val (.int (2 : Int32)), .val (.ref b1), .val (.ref b6), .val (.ref w0), .val (.ref w2), .unset] [(.int (0 : Int32))])
      refine own_st (fun _ k => XS.ifYes X12.here hx rfl (pc0 := 71) (pc' := 81) rfl (hb hby at_71) rfl ((if0 _ _).trans (teq (by decide : (0 : Int32) = (0 : Int32))).1) (by decide) (by decide) k) ?_
      show own_Go _ _ _ _ T12 (mkF m 81 #[.val (.int p1), .val (.int p2), .val (.int (0 : Int32)), .val (.int (2 : Int32)), .val (.ref b1), .val (.ref b6), .val (.ref w0), .val (.ref w2), .unset] [])
      refine own_st (fun _ k => XS.aload X12.here hx rfl (hb hby at_81) rfl rfl k) ?_
      show own_Go _ _ _ _ T12 (mkF m 83 #[.val (.int p1), .val (.int p2), .val (.int (0 : Int32)), .val (.int (2 : Int32)), .val (.ref b1), .val (.ref b6), .val (.ref w0), .val (.ref w2), .unset] [(.ref b6)])
      refine own_st (fun _ k => XS.iloadN X12.here hx rfl (hb hby at_83) rfl k) ?_
      show own_Go _ _ _ _ T12 (mkF m 84 #[.val (.int p1), .val (.int p2), .val (.int (0 : Int32)), .val (.int (2 : Int32)), .val (.ref b1), .val (.ref b6), .val (.ref w0), .val (.ref w2), .unset] [(.int (2 : Int32)), (.ref b6)])
      refine own_st (own_ldZ X12 hx hZ e12 Va10 (j := (2 : Int32)) (by decide) (v := (.int (1 : Int32))) rfl (g := (mkF m 84 #[.val (.int p1), .val (.int p2), .val (.int (0 : Int32)), .val (.int (2 : Int32)), .val (.ref b1), .val (.ref b6), .val (.ref w0), .val (.ref w2), .unset] [(.int (2 : Int32)), (.ref b6)])) rfl rfl (hb hby at_84)) ?_
      show own_Go _ _ _ _ T12 (mkF m 85 #[.val (.int p1), .val (.int p2), .val (.int (0 : Int32)), .val (.int (2 : Int32)), .val (.ref b1), .val (.ref b6), .val (.ref w0), .val (.ref w2), .unset] [(.int (1 : Int32))])
      refine own_st (fun _ k => XS.ifNo X12.here hx rfl (hb hby at_85) rfl ((if0 _ _).trans (feq (by decide : ¬ ((1 : Int32) = (0 : Int32)))).1) k) ?_
      show own_Go _ _ _ _ T12 (mkF m 88 #[.val (.int p1), .val (.int p2), .val (.int (0 : Int32)), .val (.int (2 : Int32)), .val (.ref b1), .val (.ref b6), .val (.ref w0), .val (.ref w2), .unset] [])
      refine own_st (fun _ k => XS.aload X12.here hx rfl (hb hby at_88) rfl rfl k) ?_
      show own_Go _ _ _ _ T12 (mkF m 90 #[.val (.int p1), .val (.int p2), .val (.int (0 : Int32)), .val (.int (2 : Int32)), .val (.ref b1), .val (.ref b6), .val (.ref w0), .val (.ref w2), .unset] [(.ref b6)])
      refine own_st (fun _ k => XS.iloadN X12.here hx rfl (hb hby at_90) rfl k) ?_
      show own_Go _ _ _ _ T12 (mkF m 91 #[.val (.int p1), .val (.int p2), .val (.int (0 : Int32)), .val (.int (2 : Int32)), .val (.ref b1), .val (.ref b6), .val (.ref w0), .val (.ref w2), .unset] [(.int (0 : Int32)), (.ref b6)])
      refine own_st (own_ldZ X12 hx hZ e12 Va10 (j := (0 : Int32)) (by decide) (v := (.int (1 : Int32))) rfl (g := (mkF m 91 #[.val (.int p1), .val (.int p2), .val (.int (0 : Int32)), .val (.int (2 : Int32)), .val (.ref b1), .val (.ref b6), .val (.ref w0), .val (.ref w2), .unset] [(.int (0 : Int32)), (.ref b6)])) rfl rfl (hb hby at_91)) ?_
      show own_Go _ _ _ _ T12 (mkF m 92 #[.val (.int p1), .val (.int p2), .val (.int (0 : Int32)), .val (.int (2 : Int32)), .val (.ref b1), .val (.ref b6), .val (.ref w0), .val (.ref w2), .unset] [(.int (1 : Int32))])
      refine own_st (fun _ k => XS.ifNo X12.here hx rfl (hb hby at_92) rfl ((if0 _ _).trans (feq (by decide : ¬ ((1 : Int32) = (0 : Int32)))).1) k) ?_
      show own_Go _ _ _ _ T12 (mkF m 95 #[.val (.int p1), .val (.int p2), .val (.int (0 : Int32)), .val (.int (2 : Int32)), .val (.ref b1), .val (.ref b6), .val (.ref w0), .val (.ref w2), .unset] [])
      refine own_st (fun _ k => XS.iconst X12.here hx rfl (hb hby at_95) k) ?_
      show own_Go _ _ _ _ T12 (mkF m 96 #[.val (.int p1), .val (.int p2), .val (.int (0 : Int32)), .val (.int (2 : Int32)), .val (.ref b1), .val (.ref b6), .val (.ref w0), .val (.ref w2), .unset] [(.int (1 : Int32))])
      refine own_st (fun _ k => XS.goto X12.here hx rfl (pc0 := 96) (pc' := 100) rfl (hb hby at_96) (by decide) (by decide) k) ?_
      show own_Go _ _ _ _ T12 (mkF m 100 #[.val (.int p1), .val (.int p2), .val (.int (0 : Int32)), .val (.int (2 : Int32)), .val (.ref b1), .val (.ref b6), .val (.ref w0), .val (.ref w2), .unset] [(.int (1 : Int32))])
      exact tl _ _ _ _ _ E0 (by simp [own_cov, n10, n10.symm, n20, n20.symm, n21, n21.symm, n30, n30.symm, n31, n31.symm, n32, n32.symm])
    · rw [ha, hb']
      show own_Go _ _ _ _ T12 (mkF m 62 #[.val (.int p1), .val (.int p2), .val (.int (0 : Int32)), .val (.int (3 : Int32)), .val (.ref b1), .val (.ref b6), .val (.ref w0), .val (.ref w3), .unset] [])
      refine own_st (fun _ k => XS.iloadN X12.here hx rfl (hb hby at_62) rfl k) ?_
      show own_Go _ _ _ _ T12 (mkF m 63 #[.val (.int p1), .val (.int p2), .val (.int (0 : Int32)), .val (.int (3 : Int32)), .val (.ref b1), .val (.ref b6), .val (.ref w0), .val (.ref w3), .unset] [(.int (3 : Int32))])
      refine own_st (fun _ k => XS.iconst X12.here hx rfl (hb hby at_63) k) ?_
      show own_Go _ _ _ _ T12 (mkF m 64 #[.val (.int p1), .val (.int p2), .val (.int (0 : Int32)), .val (.int (3 : Int32)), .val (.ref b1), .val (.ref b6), .val (.ref w0), .val (.ref w3), .unset] [(.int (3 : Int32)), (.int (3 : Int32))])
      refine own_st (fun _ k => XS.icmpYes X12.here hx rfl (pc0 := 64) (pc' := 99) rfl (hb hby at_64) rfl (teq (by decide : (3 : Int32) = (3 : Int32))).1 (by decide) (by decide) k) ?_
      show own_Go _ _ _ _ T12 (mkF m 99 #[.val (.int p1), .val (.int p2), .val (.int (0 : Int32)), .val (.int (3 : Int32)), .val (.ref b1), .val (.ref b6), .val (.ref w0), .val (.ref w3), .unset] [])
      refine own_st (fun _ k => XS.iconst X12.here hx rfl (hb hby at_99) k) ?_
      show own_Go _ _ _ _ T12 (mkF m 100 #[.val (.int p1), .val (.int p2), .val (.int (0 : Int32)), .val (.int (3 : Int32)), .val (.ref b1), .val (.ref b6), .val (.ref w0), .val (.ref w3), .unset] [(.int (0 : Int32))])
      exact tl _ _ _ _ _ E0 (by simp [own_cov, n10, n10.symm, n20, n20.symm, n21, n21.symm, n30, n30.symm, n31, n31.symm, n32, n32.symm])
  · rcases own_and3 p2 with hb' | hb' | hb' | hb'
    · rw [ha, hb']
      show own_Go _ _ _ _ T12 (mkF m 62 #[.val (.int p1), .val (.int p2), .val (.int (1 : Int32)), .val (.int (0 : Int32)), .val (.ref b1), .val (.ref b6), .val (.ref w1), .val (.ref w0), .unset] [])
      refine own_st (fun _ k => XS.iloadN X12.here hx rfl (hb hby at_62) rfl k) ?_
      show own_Go _ _ _ _ T12 (mkF m 63 #[.val (.int p1), .val (.int p2), .val (.int (1 : Int32)), .val (.int (0 : Int32)), .val (.ref b1), .val (.ref b6), .val (.ref w1), .val (.ref w0), .unset] [(.int (0 : Int32))])
      refine own_st (fun _ k => XS.iconst X12.here hx rfl (hb hby at_63) k) ?_
      show own_Go _ _ _ _ T12 (mkF m 64 #[.val (.int p1), .val (.int p2), .val (.int (1 : Int32)), .val (.int (0 : Int32)), .val (.ref b1), .val (.ref b6), .val (.ref w1), .val (.ref w0), .unset] [(.int (3 : Int32)), (.int (0 : Int32))])
      refine own_st (fun _ k => XS.icmpNo X12.here hx rfl (hb hby at_64) rfl (feq (by decide : ¬ ((0 : Int32) = (3 : Int32)))).1 k) ?_
      show own_Go _ _ _ _ T12 (mkF m 67 #[.val (.int p1), .val (.int p2), .val (.int (1 : Int32)), .val (.int (0 : Int32)), .val (.ref b1), .val (.ref b6), .val (.ref w1), .val (.ref w0), .unset] [])
      refine own_st (fun _ k => XS.aload X12.here hx rfl (hb hby at_67) rfl rfl k) ?_
      show own_Go _ _ _ _ T12 (mkF m 69 #[.val (.int p1), .val (.int p2), .val (.int (1 : Int32)), .val (.int (0 : Int32)), .val (.ref b1), .val (.ref b6), .val (.ref w1), .val (.ref w0), .unset] [(.ref b1)])
      refine own_st (fun _ k => XS.iloadN X12.here hx rfl (hb hby at_69) rfl k) ?_
      show own_Go _ _ _ _ T12 (mkF m 70 #[.val (.int p1), .val (.int p2), .val (.int (1 : Int32)), .val (.int (0 : Int32)), .val (.ref b1), .val (.ref b6), .val (.ref w1), .val (.ref w0), .unset] [(.int (0 : Int32)), (.ref b1)])
      refine own_st (own_ldZ X12 hx hZ e12 V_b1_10 (j := (0 : Int32)) (by decide) (v := (.int (1 : Int32))) rfl (g := (mkF m 70 #[.val (.int p1), .val (.int p2), .val (.int (1 : Int32)), .val (.int (0 : Int32)), .val (.ref b1), .val (.ref b6), .val (.ref w1), .val (.ref w0), .unset] [(.int (0 : Int32)), (.ref b1)])) rfl rfl (hb hby at_70)) ?_
      show own_Go _ _ _ _ T12 (mkF m 71 #[.val (.int p1), .val (.int p2), .val (.int (1 : Int32)), .val (.int (0 : Int32)), .val (.ref b1), .val (.ref b6), .val (.ref w1), .val (.ref w0), .unset] [(.int (1 : Int32))])
      refine own_st (fun _ k => XS.ifNo X12.here hx rfl (hb hby at_71) rfl ((if0 _ _).trans (feq (by decide : ¬ ((1 : Int32) = (0 : Int32)))).1) k) ?_
      show own_Go _ _ _ _ T12 (mkF m 74 #[.val (.int p1), .val (.int p2), .val (.int (1 : Int32)), .val (.int (0 : Int32)), .val (.ref b1), .val (.ref b6), .val (.ref w1), .val (.ref w0), .unset] [])
      refine own_st (fun _ k => XS.aload X12.here hx rfl (hb hby at_74) rfl rfl k) ?_
      show own_Go _ _ _ _ T12 (mkF m 76 #[.val (.int p1), .val (.int p2), .val (.int (1 : Int32)), .val (.int (0 : Int32)), .val (.ref b1), .val (.ref b6), .val (.ref w1), .val (.ref w0), .unset] [(.ref b1)])
      refine own_st (fun _ k => XS.iloadN X12.here hx rfl (hb hby at_76) rfl k) ?_
      show own_Go _ _ _ _ T12 (mkF m 77 #[.val (.int p1), .val (.int p2), .val (.int (1 : Int32)), .val (.int (0 : Int32)), .val (.ref b1), .val (.ref b6), .val (.ref w1), .val (.ref w0), .unset] [(.int (1 : Int32)), (.ref b1)])
      refine own_st (own_ldZ X12 hx hZ e12 V_b1_10 (j := (1 : Int32)) (by decide) (v := (.int (1 : Int32))) rfl (g := (mkF m 77 #[.val (.int p1), .val (.int p2), .val (.int (1 : Int32)), .val (.int (0 : Int32)), .val (.ref b1), .val (.ref b6), .val (.ref w1), .val (.ref w0), .unset] [(.int (1 : Int32)), (.ref b1)])) rfl rfl (hb hby at_77)) ?_
      show own_Go _ _ _ _ T12 (mkF m 78 #[.val (.int p1), .val (.int p2), .val (.int (1 : Int32)), .val (.int (0 : Int32)), .val (.ref b1), .val (.ref b6), .val (.ref w1), .val (.ref w0), .unset] [(.int (1 : Int32))])
      refine own_st (fun _ k => XS.ifNo X12.here hx rfl (hb hby at_78) rfl ((if0 _ _).trans (feq (by decide : ¬ ((1 : Int32) = (0 : Int32)))).1) k) ?_
      show own_Go _ _ _ _ T12 (mkF m 81 #[.val (.int p1), .val (.int p2), .val (.int (1 : Int32)), .val (.int (0 : Int32)), .val (.ref b1), .val (.ref b6), .val (.ref w1), .val (.ref w0), .unset] [])
      refine own_st (fun _ k => XS.aload X12.here hx rfl (hb hby at_81) rfl rfl k) ?_
      show own_Go _ _ _ _ T12 (mkF m 83 #[.val (.int p1), .val (.int p2), .val (.int (1 : Int32)), .val (.int (0 : Int32)), .val (.ref b1), .val (.ref b6), .val (.ref w1), .val (.ref w0), .unset] [(.ref b6)])
      refine own_st (fun _ k => XS.iloadN X12.here hx rfl (hb hby at_83) rfl k) ?_
      show own_Go _ _ _ _ T12 (mkF m 84 #[.val (.int p1), .val (.int p2), .val (.int (1 : Int32)), .val (.int (0 : Int32)), .val (.ref b1), .val (.ref b6), .val (.ref w1), .val (.ref w0), .unset] [(.int (0 : Int32)), (.ref b6)])
      refine own_st (own_ldZ X12 hx hZ e12 Va10 (j := (0 : Int32)) (by decide) (v := (.int (1 : Int32))) rfl (g := (mkF m 84 #[.val (.int p1), .val (.int p2), .val (.int (1 : Int32)), .val (.int (0 : Int32)), .val (.ref b1), .val (.ref b6), .val (.ref w1), .val (.ref w0), .unset] [(.int (0 : Int32)), (.ref b6)])) rfl rfl (hb hby at_84)) ?_
      show own_Go _ _ _ _ T12 (mkF m 85 #[.val (.int p1), .val (.int p2), .val (.int (1 : Int32)), .val (.int (0 : Int32)), .val (.ref b1), .val (.ref b6), .val (.ref w1), .val (.ref w0), .unset] [(.int (1 : Int32))])
      refine own_st (fun _ k => XS.ifNo X12.here hx rfl (hb hby at_85) rfl ((if0 _ _).trans (feq (by decide : ¬ ((1 : Int32) = (0 : Int32)))).1) k) ?_
      show own_Go _ _ _ _ T12 (mkF m 88 #[.val (.int p1), .val (.int p2), .val (.int (1 : Int32)), .val (.int (0 : Int32)), .val (.ref b1), .val (.ref b6), .val (.ref w1), .val (.ref w0), .unset] [])
      refine own_st (fun _ k => XS.aload X12.here hx rfl (hb hby at_88) rfl rfl k) ?_
      show own_Go _ _ _ _ T12 (mkF m 90 #[.val (.int p1), .val (.int p2), .val (.int (1 : Int32)), .val (.int (0 : Int32)), .val (.ref b1), .val (.ref b6), .val (.ref w1), .val (.ref w0), .unset] [(.ref b6)])
      refine own_st (fun _ k => XS.iloadN X12.here hx rfl (hb hby at_90) rfl k) ?_
      show own_Go _ _ _ _ T12 (mkF m 91 #[.val (.int p1), .val (.int p2), .val (.int (1 : Int32)), .val (.int (0 : Int32)), .val (.ref b1), .val (.ref b6), .val (.ref w1), .val (.ref w0), .unset] [(.int (1 : Int32)), (.ref b6)])
      refine own_st (own_ldZ X12 hx hZ e12 Va10 (j := (1 : Int32)) (by decide) (v := (.int (0 : Int32))) rfl (g := (mkF m 91 #[.val (.int p1), .val (.int p2), .val (.int (1 : Int32)), .val (.int (0 : Int32)), .val (.ref b1), .val (.ref b6), .val (.ref w1), .val (.ref w0), .unset] [(.int (1 : Int32)), (.ref b6)])) rfl rfl (hb hby at_91)) ?_
      show own_Go _ _ _ _ T12 (mkF m 92 #[.val (.int p1), .val (.int p2), .val (.int (1 : Int32)), .val (.int (0 : Int32)), .val (.ref b1), .val (.ref b6), .val (.ref w1), .val (.ref w0), .unset] [(.int (0 : Int32))])
      refine own_st (fun _ k => XS.ifYes X12.here hx rfl (pc0 := 92) (pc' := 99) rfl (hb hby at_92) rfl ((if0 _ _).trans (teq (by decide : (0 : Int32) = (0 : Int32))).1) (by decide) (by decide) k) ?_
      show own_Go _ _ _ _ T12 (mkF m 99 #[.val (.int p1), .val (.int p2), .val (.int (1 : Int32)), .val (.int (0 : Int32)), .val (.ref b1), .val (.ref b6), .val (.ref w1), .val (.ref w0), .unset] [])
      refine own_st (fun _ k => XS.iconst X12.here hx rfl (hb hby at_99) k) ?_
      show own_Go _ _ _ _ T12 (mkF m 100 #[.val (.int p1), .val (.int p2), .val (.int (1 : Int32)), .val (.int (0 : Int32)), .val (.ref b1), .val (.ref b6), .val (.ref w1), .val (.ref w0), .unset] [(.int (0 : Int32))])
      exact tl _ _ _ _ _ E1 (by simp [own_cov, n10, n10.symm, n20, n20.symm, n21, n21.symm, n30, n30.symm, n31, n31.symm, n32, n32.symm])
    · rw [ha, hb']
      show own_Go _ _ _ _ T12 (mkF m 62 #[.val (.int p1), .val (.int p2), .val (.int (1 : Int32)), .val (.int (1 : Int32)), .val (.ref b1), .val (.ref b6), .val (.ref w1), .val (.ref w1), .unset] [])
      refine own_st (fun _ k => XS.iloadN X12.here hx rfl (hb hby at_62) rfl k) ?_
      show own_Go _ _ _ _ T12 (mkF m 63 #[.val (.int p1), .val (.int p2), .val (.int (1 : Int32)), .val (.int (1 : Int32)), .val (.ref b1), .val (.ref b6), .val (.ref w1), .val (.ref w1), .unset] [(.int (1 : Int32))])
      refine own_st (fun _ k => XS.iconst X12.here hx rfl (hb hby at_63) k) ?_
      show own_Go _ _ _ _ T12 (mkF m 64 #[.val (.int p1), .val (.int p2), .val (.int (1 : Int32)), .val (.int (1 : Int32)), .val (.ref b1), .val (.ref b6), .val (.ref w1), .val (.ref w1), .unset] [(.int (3 : Int32)), (.int (1 : Int32))])
      refine own_st (fun _ k => XS.icmpNo X12.here hx rfl (hb hby at_64) rfl (feq (by decide : ¬ ((1 : Int32) = (3 : Int32)))).1 k) ?_
      show own_Go _ _ _ _ T12 (mkF m 67 #[.val (.int p1), .val (.int p2), .val (.int (1 : Int32)), .val (.int (1 : Int32)), .val (.ref b1), .val (.ref b6), .val (.ref w1), .val (.ref w1), .unset] [])
      refine own_st (fun _ k => XS.aload X12.here hx rfl (hb hby at_67) rfl rfl k) ?_
      show own_Go _ _ _ _ T12 (mkF m 69 #[.val (.int p1), .val (.int p2), .val (.int (1 : Int32)), .val (.int (1 : Int32)), .val (.ref b1), .val (.ref b6), .val (.ref w1), .val (.ref w1), .unset] [(.ref b1)])
      refine own_st (fun _ k => XS.iloadN X12.here hx rfl (hb hby at_69) rfl k) ?_
      show own_Go _ _ _ _ T12 (mkF m 70 #[.val (.int p1), .val (.int p2), .val (.int (1 : Int32)), .val (.int (1 : Int32)), .val (.ref b1), .val (.ref b6), .val (.ref w1), .val (.ref w1), .unset] [(.int (1 : Int32)), (.ref b1)])
      refine own_st (own_ldZ X12 hx hZ e12 V_b1_10 (j := (1 : Int32)) (by decide) (v := (.int (1 : Int32))) rfl (g := (mkF m 70 #[.val (.int p1), .val (.int p2), .val (.int (1 : Int32)), .val (.int (1 : Int32)), .val (.ref b1), .val (.ref b6), .val (.ref w1), .val (.ref w1), .unset] [(.int (1 : Int32)), (.ref b1)])) rfl rfl (hb hby at_70)) ?_
      show own_Go _ _ _ _ T12 (mkF m 71 #[.val (.int p1), .val (.int p2), .val (.int (1 : Int32)), .val (.int (1 : Int32)), .val (.ref b1), .val (.ref b6), .val (.ref w1), .val (.ref w1), .unset] [(.int (1 : Int32))])
      refine own_st (fun _ k => XS.ifNo X12.here hx rfl (hb hby at_71) rfl ((if0 _ _).trans (feq (by decide : ¬ ((1 : Int32) = (0 : Int32)))).1) k) ?_
      show own_Go _ _ _ _ T12 (mkF m 74 #[.val (.int p1), .val (.int p2), .val (.int (1 : Int32)), .val (.int (1 : Int32)), .val (.ref b1), .val (.ref b6), .val (.ref w1), .val (.ref w1), .unset] [])
      refine own_st (fun _ k => XS.aload X12.here hx rfl (hb hby at_74) rfl rfl k) ?_
      show own_Go _ _ _ _ T12 (mkF m 76 #[.val (.int p1), .val (.int p2), .val (.int (1 : Int32)), .val (.int (1 : Int32)), .val (.ref b1), .val (.ref b6), .val (.ref w1), .val (.ref w1), .unset] [(.ref b1)])
      refine own_st (fun _ k => XS.iloadN X12.here hx rfl (hb hby at_76) rfl k) ?_
      show own_Go _ _ _ _ T12 (mkF m 77 #[.val (.int p1), .val (.int p2), .val (.int (1 : Int32)), .val (.int (1 : Int32)), .val (.ref b1), .val (.ref b6), .val (.ref w1), .val (.ref w1), .unset] [(.int (1 : Int32)), (.ref b1)])
      refine own_st (own_ldZ X12 hx hZ e12 V_b1_10 (j := (1 : Int32)) (by decide) (v := (.int (1 : Int32))) rfl (g := (mkF m 77 #[.val (.int p1), .val (.int p2), .val (.int (1 : Int32)), .val (.int (1 : Int32)), .val (.ref b1), .val (.ref b6), .val (.ref w1), .val (.ref w1), .unset] [(.int (1 : Int32)), (.ref b1)])) rfl rfl (hb hby at_77)) ?_
      show own_Go _ _ _ _ T12 (mkF m 78 #[.val (.int p1), .val (.int p2), .val (.int (1 : Int32)), .val (.int (1 : Int32)), .val (.ref b1), .val (.ref b6), .val (.ref w1), .val (.ref w1), .unset] [(.int (1 : Int32))])
      refine own_st (fun _ k => XS.ifNo X12.here hx rfl (hb hby at_78) rfl ((if0 _ _).trans (feq (by decide : ¬ ((1 : Int32) = (0 : Int32)))).1) k) ?_
      show own_Go _ _ _ _ T12 (mkF m 81 #[.val (.int p1), .val (.int p2), .val (.int (1 : Int32)), .val (.int (1 : Int32)), .val (.ref b1), .val (.ref b6), .val (.ref w1), .val (.ref w1), .unset] [])
      refine own_st (fun _ k => XS.aload X12.here hx rfl (hb hby at_81) rfl rfl k) ?_
      show own_Go _ _ _ _ T12 (mkF m 83 #[.val (.int p1), .val (.int p2), .val (.int (1 : Int32)), .val (.int (1 : Int32)), .val (.ref b1), .val (.ref b6), .val (.ref w1), .val (.ref w1), .unset] [(.ref b6)])
      refine own_st (fun _ k => XS.iloadN X12.here hx rfl (hb hby at_83) rfl k) ?_
      show own_Go _ _ _ _ T12 (mkF m 84 #[.val (.int p1), .val (.int p2), .val (.int (1 : Int32)), .val (.int (1 : Int32)), .val (.ref b1), .val (.ref b6), .val (.ref w1), .val (.ref w1), .unset] [(.int (1 : Int32)), (.ref b6)])
      refine own_st (own_ldZ X12 hx hZ e12 Va10 (j := (1 : Int32)) (by decide) (v := (.int (0 : Int32))) rfl (g := (mkF m 84 #[.val (.int p1), .val (.int p2), .val (.int (1 : Int32)), .val (.int (1 : Int32)), .val (.ref b1), .val (.ref b6), .val (.ref w1), .val (.ref w1), .unset] [(.int (1 : Int32)), (.ref b6)])) rfl rfl (hb hby at_84)) ?_
      show own_Go _ _ _ _ T12 (mkF m 85 #[.val (.int p1), .val (.int p2), .val (.int (1 : Int32)), .val (.int (1 : Int32)), .val (.ref b1), .val (.ref b6), .val (.ref w1), .val (.ref w1), .unset] [(.int (0 : Int32))])
      refine own_st (fun _ k => XS.ifYes X12.here hx rfl (pc0 := 85) (pc' := 95) rfl (hb hby at_85) rfl ((if0 _ _).trans (teq (by decide : (0 : Int32) = (0 : Int32))).1) (by decide) (by decide) k) ?_
      show own_Go _ _ _ _ T12 (mkF m 95 #[.val (.int p1), .val (.int p2), .val (.int (1 : Int32)), .val (.int (1 : Int32)), .val (.ref b1), .val (.ref b6), .val (.ref w1), .val (.ref w1), .unset] [])
      refine own_st (fun _ k => XS.iconst X12.here hx rfl (hb hby at_95) k) ?_
      show own_Go _ _ _ _ T12 (mkF m 96 #[.val (.int p1), .val (.int p2), .val (.int (1 : Int32)), .val (.int (1 : Int32)), .val (.ref b1), .val (.ref b6), .val (.ref w1), .val (.ref w1), .unset] [(.int (1 : Int32))])
      refine own_st (fun _ k => XS.goto X12.here hx rfl (pc0 := 96) (pc' := 100) rfl (hb hby at_96) (by decide) (by decide) k) ?_
      show own_Go _ _ _ _ T12 (mkF m 100 #[.val (.int p1), .val (.int p2), .val (.int (1 : Int32)), .val (.int (1 : Int32)), .val (.ref b1), .val (.ref b6), .val (.ref w1), .val (.ref w1), .unset] [(.int (1 : Int32))])
      exact tl _ _ _ _ _ E1 (by simp [own_cov, n10, n10.symm, n20, n20.symm, n21, n21.symm, n30, n30.symm, n31, n31.symm, n32, n32.symm])
    · rw [ha, hb']
      show own_Go _ _ _ _ T12 (mkF m 62 #[.val (.int p1), .val (.int p2), .val (.int (1 : Int32)), .val (.int (2 : Int32)), .val (.ref b1), .val (.ref b6), .val (.ref w1), .val (.ref w2), .unset] [])
      refine own_st (fun _ k => XS.iloadN X12.here hx rfl (hb hby at_62) rfl k) ?_
      show own_Go _ _ _ _ T12 (mkF m 63 #[.val (.int p1), .val (.int p2), .val (.int (1 : Int32)), .val (.int (2 : Int32)), .val (.ref b1), .val (.ref b6), .val (.ref w1), .val (.ref w2), .unset] [(.int (2 : Int32))])
      refine own_st (fun _ k => XS.iconst X12.here hx rfl (hb hby at_63) k) ?_
      show own_Go _ _ _ _ T12 (mkF m 64 #[.val (.int p1), .val (.int p2), .val (.int (1 : Int32)), .val (.int (2 : Int32)), .val (.ref b1), .val (.ref b6), .val (.ref w1), .val (.ref w2), .unset] [(.int (3 : Int32)), (.int (2 : Int32))])
      refine own_st (fun _ k => XS.icmpNo X12.here hx rfl (hb hby at_64) rfl (feq (by decide : ¬ ((2 : Int32) = (3 : Int32)))).1 k) ?_
      show own_Go _ _ _ _ T12 (mkF m 67 #[.val (.int p1), .val (.int p2), .val (.int (1 : Int32)), .val (.int (2 : Int32)), .val (.ref b1), .val (.ref b6), .val (.ref w1), .val (.ref w2), .unset] [])
      refine own_st (fun _ k => XS.aload X12.here hx rfl (hb hby at_67) rfl rfl k) ?_
      show own_Go _ _ _ _ T12 (mkF m 69 #[.val (.int p1), .val (.int p2), .val (.int (1 : Int32)), .val (.int (2 : Int32)), .val (.ref b1), .val (.ref b6), .val (.ref w1), .val (.ref w2), .unset] [(.ref b1)])
      refine own_st (fun _ k => XS.iloadN X12.here hx rfl (hb hby at_69) rfl k) ?_
      show own_Go _ _ _ _ T12 (mkF m 70 #[.val (.int p1), .val (.int p2), .val (.int (1 : Int32)), .val (.int (2 : Int32)), .val (.ref b1), .val (.ref b6), .val (.ref w1), .val (.ref w2), .unset] [(.int (2 : Int32)), (.ref b1)])
      refine own_st (own_ldZ X12 hx hZ e12 V_b1_10 (j := (2 : Int32)) (by decide) (v := (.int (0 : Int32))) rfl (g := (mkF m 70 #[.val (.int p1), .val (.int p2), .val (.int (1 : Int32)), .val (.int (2 : Int32)), .val (.ref b1), .val (.ref b6), .val (.ref w1), .val (.ref w2), .unset] [(.int (2 : Int32)), (.ref b1)])) rfl rfl (hb hby at_70)) ?_
      show own_Go _ _ _ _ T12 (mkF m 71 #[.val (.int p1), .val (.int p2), .val (.int (1 : Int32)), .val (.int (2 : Int32)), .val (.ref b1), .val (.ref b6), .val (.ref w1), .val (.ref w2), .unset] [(.int (0 : Int32))])
      refine own_st (fun _ k => XS.ifYes X12.here hx rfl (pc0 := 71) (pc' := 81) rfl (hb hby at_71) rfl ((if0 _ _).trans (teq (by decide : (0 : Int32) = (0 : Int32))).1) (by decide) (by decide) k) ?_
      show own_Go _ _ _ _ T12 (mkF m 81 #[.val (.int p1), .val (.int p2), .val (.int (1 : Int32)), .val (.int (2 : Int32)), .val (.ref b1), .val (.ref b6), .val (.ref w1), .val (.ref w2), .unset] [])
      refine own_st (fun _ k => XS.aload X12.here hx rfl (hb hby at_81) rfl rfl k) ?_
      show own_Go _ _ _ _ T12 (mkF m 83 #[.val (.int p1), .val (.int p2), .val (.int (1 : Int32)), .val (.int (2 : Int32)), .val (.ref b1), .val (.ref b6), .val (.ref w1), .val (.ref w2), .unset] [(.ref b6)])
      refine own_st (fun _ k => XS.iloadN X12.here hx rfl (hb hby at_83) rfl k) ?_
      show own_Go _ _ _ _ T12 (mkF m 84 #[.val (.int p1), .val (.int p2), .val (.int (1 : Int32)), .val (.int (2 : Int32)), .val (.ref b1), .val (.ref b6), .val (.ref w1), .val (.ref w2), .unset] [(.int (2 : Int32)), (.ref b6)])
      refine own_st (own_ldZ X12 hx hZ e12 Va10 (j := (2 : Int32)) (by decide) (v := (.int (1 : Int32))) rfl (g := (mkF m 84 #[.val (.int p1), .val (.int p2), .val (.int (1 : Int32)), .val (.int (2 : Int32)), .val (.ref b1), .val (.ref b6), .val (.ref w1), .val (.ref w2), .unset] [(.int (2 : Int32)), (.ref b6)])) rfl rfl (hb hby at_84)) ?_
      show own_Go _ _ _ _ T12 (mkF m 85 #[.val (.int p1), .val (.int p2), .val (.int (1 : Int32)), .val (.int (2 : Int32)), .val (.ref b1), .val (.ref b6), .val (.ref w1), .val (.ref w2), .unset] [(.int (1 : Int32))])
      refine own_st (fun _ k => XS.ifNo X12.here hx rfl (hb hby at_85) rfl ((if0 _ _).trans (feq (by decide : ¬ ((1 : Int32) = (0 : Int32)))).1) k) ?_
      show own_Go _ _ _ _ T12 (mkF m 88 #[.val (.int p1), .val (.int p2), .val (.int (1 : Int32)), .val (.int (2 : Int32)), .val (.ref b1), .val (.ref b6), .val (.ref w1), .val (.ref w2), .unset] [])
      refine own_st (fun _ k => XS.aload X12.here hx rfl (hb hby at_88) rfl rfl k) ?_
      show own_Go _ _ _ _ T12 (mkF m 90 #[.val (.int p1), .val (.int p2), .val (.int (1 : Int32)), .val (.int (2 : Int32)), .val (.ref b1), .val (.ref b6), .val (.ref w1), .val (.ref w2), .unset] [(.ref b6)])
      refine own_st (fun _ k => XS.iloadN X12.here hx rfl (hb hby at_90) rfl k) ?_
      show own_Go _ _ _ _ T12 (mkF m 91 #[.val (.int p1), .val (.int p2), .val (.int (1 : Int32)), .val (.int (2 : Int32)), .val (.ref b1), .val (.ref b6), .val (.ref w1), .val (.ref w2), .unset] [(.int (1 : Int32)), (.ref b6)])
      refine own_st (own_ldZ X12 hx hZ e12 Va10 (j := (1 : Int32)) (by decide) (v := (.int (0 : Int32))) rfl (g := (mkF m 91 #[.val (.int p1), .val (.int p2), .val (.int (1 : Int32)), .val (.int (2 : Int32)), .val (.ref b1), .val (.ref b6), .val (.ref w1), .val (.ref w2), .unset] [(.int (1 : Int32)), (.ref b6)])) rfl rfl (hb hby at_91)) ?_
      show own_Go _ _ _ _ T12 (mkF m 92 #[.val (.int p1), .val (.int p2), .val (.int (1 : Int32)), .val (.int (2 : Int32)), .val (.ref b1), .val (.ref b6), .val (.ref w1), .val (.ref w2), .unset] [(.int (0 : Int32))])
      refine own_st (fun _ k => XS.ifYes X12.here hx rfl (pc0 := 92) (pc' := 99) rfl (hb hby at_92) rfl ((if0 _ _).trans (teq (by decide : (0 : Int32) = (0 : Int32))).1) (by decide) (by decide) k) ?_
      show own_Go _ _ _ _ T12 (mkF m 99 #[.val (.int p1), .val (.int p2), .val (.int (1 : Int32)), .val (.int (2 : Int32)), .val (.ref b1), .val (.ref b6), .val (.ref w1), .val (.ref w2), .unset] [])
      refine own_st (fun _ k => XS.iconst X12.here hx rfl (hb hby at_99) k) ?_
      show own_Go _ _ _ _ T12 (mkF m 100 #[.val (.int p1), .val (.int p2), .val (.int (1 : Int32)), .val (.int (2 : Int32)), .val (.ref b1), .val (.ref b6), .val (.ref w1), .val (.ref w2), .unset] [(.int (0 : Int32))])
      exact tl _ _ _ _ _ E1 (by simp [own_cov, n10, n10.symm, n20, n20.symm, n21, n21.symm, n30, n30.symm, n31, n31.symm, n32, n32.symm])
    · rw [ha, hb']
      show own_Go _ _ _ _ T12 (mkF m 62 #[.val (.int p1), .val (.int p2), .val (.int (1 : Int32)), .val (.int (3 : Int32)), .val (.ref b1), .val (.ref b6), .val (.ref w1), .val (.ref w3), .unset] [])
      refine own_st (fun _ k => XS.iloadN X12.here hx rfl (hb hby at_62) rfl k) ?_
      show own_Go _ _ _ _ T12 (mkF m 63 #[.val (.int p1), .val (.int p2), .val (.int (1 : Int32)), .val (.int (3 : Int32)), .val (.ref b1), .val (.ref b6), .val (.ref w1), .val (.ref w3), .unset] [(.int (3 : Int32))])
      refine own_st (fun _ k => XS.iconst X12.here hx rfl (hb hby at_63) k) ?_
      show own_Go _ _ _ _ T12 (mkF m 64 #[.val (.int p1), .val (.int p2), .val (.int (1 : Int32)), .val (.int (3 : Int32)), .val (.ref b1), .val (.ref b6), .val (.ref w1), .val (.ref w3), .unset] [(.int (3 : Int32)), (.int (3 : Int32))])
      refine own_st (fun _ k => XS.icmpYes X12.here hx rfl (pc0 := 64) (pc' := 99) rfl (hb hby at_64) rfl (teq (by decide : (3 : Int32) = (3 : Int32))).1 (by decide) (by decide) k) ?_
      show own_Go _ _ _ _ T12 (mkF m 99 #[.val (.int p1), .val (.int p2), .val (.int (1 : Int32)), .val (.int (3 : Int32)), .val (.ref b1), .val (.ref b6), .val (.ref w1), .val (.ref w3), .unset] [])
      refine own_st (fun _ k => XS.iconst X12.here hx rfl (hb hby at_99) k) ?_
      show own_Go _ _ _ _ T12 (mkF m 100 #[.val (.int p1), .val (.int p2), .val (.int (1 : Int32)), .val (.int (3 : Int32)), .val (.ref b1), .val (.ref b6), .val (.ref w1), .val (.ref w3), .unset] [(.int (0 : Int32))])
      exact tl _ _ _ _ _ E1 (by simp [own_cov, n10, n10.symm, n20, n20.symm, n21, n21.symm, n30, n30.symm, n31, n31.symm, n32, n32.symm])
  · rcases own_and3 p2 with hb' | hb' | hb' | hb'
    · rw [ha, hb']
      show own_Go _ _ _ _ T12 (mkF m 62 #[.val (.int p1), .val (.int p2), .val (.int (2 : Int32)), .val (.int (0 : Int32)), .val (.ref b1), .val (.ref b6), .val (.ref w2), .val (.ref w0), .unset] [])
      refine own_st (fun _ k => XS.iloadN X12.here hx rfl (hb hby at_62) rfl k) ?_
      show own_Go _ _ _ _ T12 (mkF m 63 #[.val (.int p1), .val (.int p2), .val (.int (2 : Int32)), .val (.int (0 : Int32)), .val (.ref b1), .val (.ref b6), .val (.ref w2), .val (.ref w0), .unset] [(.int (0 : Int32))])
      refine own_st (fun _ k => XS.iconst X12.here hx rfl (hb hby at_63) k) ?_
      show own_Go _ _ _ _ T12 (mkF m 64 #[.val (.int p1), .val (.int p2), .val (.int (2 : Int32)), .val (.int (0 : Int32)), .val (.ref b1), .val (.ref b6), .val (.ref w2), .val (.ref w0), .unset] [(.int (3 : Int32)), (.int (0 : Int32))])
      refine own_st (fun _ k => XS.icmpNo X12.here hx rfl (hb hby at_64) rfl (feq (by decide : ¬ ((0 : Int32) = (3 : Int32)))).1 k) ?_
      show own_Go _ _ _ _ T12 (mkF m 67 #[.val (.int p1), .val (.int p2), .val (.int (2 : Int32)), .val (.int (0 : Int32)), .val (.ref b1), .val (.ref b6), .val (.ref w2), .val (.ref w0), .unset] [])
      refine own_st (fun _ k => XS.aload X12.here hx rfl (hb hby at_67) rfl rfl k) ?_
      show own_Go _ _ _ _ T12 (mkF m 69 #[.val (.int p1), .val (.int p2), .val (.int (2 : Int32)), .val (.int (0 : Int32)), .val (.ref b1), .val (.ref b6), .val (.ref w2), .val (.ref w0), .unset] [(.ref b1)])
      refine own_st (fun _ k => XS.iloadN X12.here hx rfl (hb hby at_69) rfl k) ?_
      show own_Go _ _ _ _ T12 (mkF m 70 #[.val (.int p1), .val (.int p2), .val (.int (2 : Int32)), .val (.int (0 : Int32)), .val (.ref b1), .val (.ref b6), .val (.ref w2), .val (.ref w0), .unset] [(.int (0 : Int32)), (.ref b1)])
      refine own_st (own_ldZ X12 hx hZ e12 V_b1_10 (j := (0 : Int32)) (by decide) (v := (.int (1 : Int32))) rfl (g := (mkF m 70 #[.val (.int p1), .val (.int p2), .val (.int (2 : Int32)), .val (.int (0 : Int32)), .val (.ref b1), .val (.ref b6), .val (.ref w2), .val (.ref w0), .unset] [(.int (0 : Int32)), (.ref b1)])) rfl rfl (hb hby at_70)) ?_
      show own_Go _ _ _ _ T12 (mkF m 71 #[.val (.int p1), .val (.int p2), .val (.int (2 : Int32)), .val (.int (0 : Int32)), .val (.ref b1), .val (.ref b6), .val (.ref w2), .val (.ref w0), .unset] [(.int (1 : Int32))])
      refine own_st (fun _ k => XS.ifNo X12.here hx rfl (hb hby at_71) rfl ((if0 _ _).trans (feq (by decide : ¬ ((1 : Int32) = (0 : Int32)))).1) k) ?_
      show own_Go _ _ _ _ T12 (mkF m 74 #[.val (.int p1), .val (.int p2), .val (.int (2 : Int32)), .val (.int (0 : Int32)), .val (.ref b1), .val (.ref b6), .val (.ref w2), .val (.ref w0), .unset] [])
      refine own_st (fun _ k => XS.aload X12.here hx rfl (hb hby at_74) rfl rfl k) ?_
      show own_Go _ _ _ _ T12 (mkF m 76 #[.val (.int p1), .val (.int p2), .val (.int (2 : Int32)), .val (.int (0 : Int32)), .val (.ref b1), .val (.ref b6), .val (.ref w2), .val (.ref w0), .unset] [(.ref b1)])
      refine own_st (fun _ k => XS.iloadN X12.here hx rfl (hb hby at_76) rfl k) ?_
      show own_Go _ _ _ _ T12 (mkF m 77 #[.val (.int p1), .val (.int p2), .val (.int (2 : Int32)), .val (.int (0 : Int32)), .val (.ref b1), .val (.ref b6), .val (.ref w2), .val (.ref w0), .unset] [(.int (2 : Int32)), (.ref b1)])
      refine own_st (own_ldZ X12 hx hZ e12 V_b1_10 (j := (2 : Int32)) (by decide) (v := (.int (0 : Int32))) rfl (g := (mkF m 77 #[.val (.int p1), .val (.int p2), .val (.int (2 : Int32)), .val (.int (0 : Int32)), .val (.ref b1), .val (.ref b6), .val (.ref w2), .val (.ref w0), .unset] [(.int (2 : Int32)), (.ref b1)])) rfl rfl (hb hby at_77)) ?_
      show own_Go _ _ _ _ T12 (mkF m 78 #[.val (.int p1), .val (.int p2), .val (.int (2 : Int32)), .val (.int (0 : Int32)), .val (.ref b1), .val (.ref b6), .val (.ref w2), .val (.ref w0), .unset] [(.int (0 : Int32))])
      refine own_st (fun _ k => XS.ifYes X12.here hx rfl (pc0 := 78) (pc' := 99) rfl (hb hby at_78) rfl ((if0 _ _).trans (teq (by decide : (0 : Int32) = (0 : Int32))).1) (by decide) (by decide) k) ?_
      show own_Go _ _ _ _ T12 (mkF m 99 #[.val (.int p1), .val (.int p2), .val (.int (2 : Int32)), .val (.int (0 : Int32)), .val (.ref b1), .val (.ref b6), .val (.ref w2), .val (.ref w0), .unset] [])
      refine own_st (fun _ k => XS.iconst X12.here hx rfl (hb hby at_99) k) ?_
      show own_Go _ _ _ _ T12 (mkF m 100 #[.val (.int p1), .val (.int p2), .val (.int (2 : Int32)), .val (.int (0 : Int32)), .val (.ref b1), .val (.ref b6), .val (.ref w2), .val (.ref w0), .unset] [(.int (0 : Int32))])
      exact tl _ _ _ _ _ E2 (by simp [own_cov, n10, n10.symm, n20, n20.symm, n21, n21.symm, n30, n30.symm, n31, n31.symm, n32, n32.symm])
    · rw [ha, hb']
      show own_Go _ _ _ _ T12 (mkF m 62 #[.val (.int p1), .val (.int p2), .val (.int (2 : Int32)), .val (.int (1 : Int32)), .val (.ref b1), .val (.ref b6), .val (.ref w2), .val (.ref w1), .unset] [])
      refine own_st (fun _ k => XS.iloadN X12.here hx rfl (hb hby at_62) rfl k) ?_
      show own_Go _ _ _ _ T12 (mkF m 63 #[.val (.int p1), .val (.int p2), .val (.int (2 : Int32)), .val (.int (1 : Int32)), .val (.ref b1), .val (.ref b6), .val (.ref w2), .val (.ref w1), .unset] [(.int (1 : Int32))])
      refine own_st (fun _ k => XS.iconst X12.here hx rfl (hb hby at_63) k) ?_
      show own_Go _ _ _ _ T12 (mkF m 64 #[.val (.int p1), .val (.int p2), .val (.int (2 : Int32)), .val (.int (1 : Int32)), .val (.ref b1), .val (.ref b6), .val (.ref w2), .val (.ref w1), .unset] [(.int (3 : Int32)), (.int (1 : Int32))])
      refine own_st (fun _ k => XS.icmpNo X12.here hx rfl (hb hby at_64) rfl (feq (by decide : ¬ ((1 : Int32) = (3 : Int32)))).1 k) ?_
      show own_Go _ _ _ _ T12 (mkF m 67 #[.val (.int p1), .val (.int p2), .val (.int (2 : Int32)), .val (.int (1 : Int32)), .val (.ref b1), .val (.ref b6), .val (.ref w2), .val (.ref w1), .unset] [])
      refine own_st (fun _ k => XS.aload X12.here hx rfl (hb hby at_67) rfl rfl k) ?_
      show own_Go _ _ _ _ T12 (mkF m 69 #[.val (.int p1), .val (.int p2), .val (.int (2 : Int32)), .val (.int (1 : Int32)), .val (.ref b1), .val (.ref b6), .val (.ref w2), .val (.ref w1), .unset] [(.ref b1)])
      refine own_st (fun _ k => XS.iloadN X12.here hx rfl (hb hby at_69) rfl k) ?_
      show own_Go _ _ _ _ T12 (mkF m 70 #[.val (.int p1), .val (.int p2), .val (.int (2 : Int32)), .val (.int (1 : Int32)), .val (.ref b1), .val (.ref b6), .val (.ref w2), .val (.ref w1), .unset] [(.int (1 : Int32)), (.ref b1)])
      refine own_st (own_ldZ X12 hx hZ e12 V_b1_10 (j := (1 : Int32)) (by decide) (v := (.int (1 : Int32))) rfl (g := (mkF m 70 #[.val (.int p1), .val (.int p2), .val (.int (2 : Int32)), .val (.int (1 : Int32)), .val (.ref b1), .val (.ref b6), .val (.ref w2), .val (.ref w1), .unset] [(.int (1 : Int32)), (.ref b1)])) rfl rfl (hb hby at_70)) ?_
      show own_Go _ _ _ _ T12 (mkF m 71 #[.val (.int p1), .val (.int p2), .val (.int (2 : Int32)), .val (.int (1 : Int32)), .val (.ref b1), .val (.ref b6), .val (.ref w2), .val (.ref w1), .unset] [(.int (1 : Int32))])
      refine own_st (fun _ k => XS.ifNo X12.here hx rfl (hb hby at_71) rfl ((if0 _ _).trans (feq (by decide : ¬ ((1 : Int32) = (0 : Int32)))).1) k) ?_
      show own_Go _ _ _ _ T12 (mkF m 74 #[.val (.int p1), .val (.int p2), .val (.int (2 : Int32)), .val (.int (1 : Int32)), .val (.ref b1), .val (.ref b6), .val (.ref w2), .val (.ref w1), .unset] [])
      refine own_st (fun _ k => XS.aload X12.here hx rfl (hb hby at_74) rfl rfl k) ?_
      show own_Go _ _ _ _ T12 (mkF m 76 #[.val (.int p1), .val (.int p2), .val (.int (2 : Int32)), .val (.int (1 : Int32)), .val (.ref b1), .val (.ref b6), .val (.ref w2), .val (.ref w1), .unset] [(.ref b1)])
      refine own_st (fun _ k => XS.iloadN X12.here hx rfl (hb hby at_76) rfl k) ?_
      show own_Go _ _ _ _ T12 (mkF m 77 #[.val (.int p1), .val (.int p2), .val (.int (2 : Int32)), .val (.int (1 : Int32)), .val (.ref b1), .val (.ref b6), .val (.ref w2), .val (.ref w1), .unset] [(.int (2 : Int32)), (.ref b1)])
      refine own_st (own_ldZ X12 hx hZ e12 V_b1_10 (j := (2 : Int32)) (by decide) (v := (.int (0 : Int32))) rfl (g := (mkF m 77 #[.val (.int p1), .val (.int p2), .val (.int (2 : Int32)), .val (.int (1 : Int32)), .val (.ref b1), .val (.ref b6), .val (.ref w2), .val (.ref w1), .unset] [(.int (2 : Int32)), (.ref b1)])) rfl rfl (hb hby at_77)) ?_
      show own_Go _ _ _ _ T12 (mkF m 78 #[.val (.int p1), .val (.int p2), .val (.int (2 : Int32)), .val (.int (1 : Int32)), .val (.ref b1), .val (.ref b6), .val (.ref w2), .val (.ref w1), .unset] [(.int (0 : Int32))])
      refine own_st (fun _ k => XS.ifYes X12.here hx rfl (pc0 := 78) (pc' := 99) rfl (hb hby at_78) rfl ((if0 _ _).trans (teq (by decide : (0 : Int32) = (0 : Int32))).1) (by decide) (by decide) k) ?_
      show own_Go _ _ _ _ T12 (mkF m 99 #[.val (.int p1), .val (.int p2), .val (.int (2 : Int32)), .val (.int (1 : Int32)), .val (.ref b1), .val (.ref b6), .val (.ref w2), .val (.ref w1), .unset] [])
      refine own_st (fun _ k => XS.iconst X12.here hx rfl (hb hby at_99) k) ?_
      show own_Go _ _ _ _ T12 (mkF m 100 #[.val (.int p1), .val (.int p2), .val (.int (2 : Int32)), .val (.int (1 : Int32)), .val (.ref b1), .val (.ref b6), .val (.ref w2), .val (.ref w1), .unset] [(.int (0 : Int32))])
      exact tl _ _ _ _ _ E2 (by simp [own_cov, n10, n10.symm, n20, n20.symm, n21, n21.symm, n30, n30.symm, n31, n31.symm, n32, n32.symm])
    · rw [ha, hb']
      show own_Go _ _ _ _ T12 (mkF m 62 #[.val (.int p1), .val (.int p2), .val (.int (2 : Int32)), .val (.int (2 : Int32)), .val (.ref b1), .val (.ref b6), .val (.ref w2), .val (.ref w2), .unset] [])
      refine own_st (fun _ k => XS.iloadN X12.here hx rfl (hb hby at_62) rfl k) ?_
      show own_Go _ _ _ _ T12 (mkF m 63 #[.val (.int p1), .val (.int p2), .val (.int (2 : Int32)), .val (.int (2 : Int32)), .val (.ref b1), .val (.ref b6), .val (.ref w2), .val (.ref w2), .unset] [(.int (2 : Int32))])
      refine own_st (fun _ k => XS.iconst X12.here hx rfl (hb hby at_63) k) ?_
      show own_Go _ _ _ _ T12 (mkF m 64 #[.val (.int p1), .val (.int p2), .val (.int (2 : Int32)), .val (.int (2 : Int32)), .val (.ref b1), .val (.ref b6), .val (.ref w2), .val (.ref w2), .unset] [(.int (3 : Int32)), (.int (2 : Int32))])
      refine own_st (fun _ k => XS.icmpNo X12.here hx rfl (hb hby at_64) rfl (feq (by decide : ¬ ((2 : Int32) = (3 : Int32)))).1 k) ?_
      show own_Go _ _ _ _ T12 (mkF m 67 #[.val (.int p1), .val (.int p2), .val (.int (2 : Int32)), .val (.int (2 : Int32)), .val (.ref b1), .val (.ref b6), .val (.ref w2), .val (.ref w2), .unset] [])
      refine own_st (fun _ k => XS.aload X12.here hx rfl (hb hby at_67) rfl rfl k) ?_
      show own_Go _ _ _ _ T12 (mkF m 69 #[.val (.int p1), .val (.int p2), .val (.int (2 : Int32)), .val (.int (2 : Int32)), .val (.ref b1), .val (.ref b6), .val (.ref w2), .val (.ref w2), .unset] [(.ref b1)])
      refine own_st (fun _ k => XS.iloadN X12.here hx rfl (hb hby at_69) rfl k) ?_
      show own_Go _ _ _ _ T12 (mkF m 70 #[.val (.int p1), .val (.int p2), .val (.int (2 : Int32)), .val (.int (2 : Int32)), .val (.ref b1), .val (.ref b6), .val (.ref w2), .val (.ref w2), .unset] [(.int (2 : Int32)), (.ref b1)])
      refine own_st (own_ldZ X12 hx hZ e12 V_b1_10 (j := (2 : Int32)) (by decide) (v := (.int (0 : Int32))) rfl (g := (mkF m 70 #[.val (.int p1), .val (.int p2), .val (.int (2 : Int32)), .val (.int (2 : Int32)), .val (.ref b1), .val (.ref b6), .val (.ref w2), .val (.ref w2), .unset] [(.int (2 : Int32)), (.ref b1)])) rfl rfl (hb hby at_70)) ?_
      show own_Go _ _ _ _ T12 (mkF m 71 #[.val (.int p1), .val (.int p2), .val (.int (2 : Int32)), .val (.int (2 : Int32)), .val (.ref b1), .val (.ref b6), .val (.ref w2), .val (.ref w2), .unset] [(.int (0 : Int32))])
      refine own_st (fun _ k => XS.ifYes X12.here hx rfl (pc0 := 71) (pc' := 81) rfl (hb hby at_71) rfl ((if0 _ _).trans (teq (by decide : (0 : Int32) = (0 : Int32))).1) (by decide) (by decide) k) ?_
      show own_Go _ _ _ _ T12 (mkF m 81 #[.val (.int p1), .val (.int p2), .val (.int (2 : Int32)), .val (.int (2 : Int32)), .val (.ref b1), .val (.ref b6), .val (.ref w2), .val (.ref w2), .unset] [])
      refine own_st (fun _ k => XS.aload X12.here hx rfl (hb hby at_81) rfl rfl k) ?_
      show own_Go _ _ _ _ T12 (mkF m 83 #[.val (.int p1), .val (.int p2), .val (.int (2 : Int32)), .val (.int (2 : Int32)), .val (.ref b1), .val (.ref b6), .val (.ref w2), .val (.ref w2), .unset] [(.ref b6)])
      refine own_st (fun _ k => XS.iloadN X12.here hx rfl (hb hby at_83) rfl k) ?_
      show own_Go _ _ _ _ T12 (mkF m 84 #[.val (.int p1), .val (.int p2), .val (.int (2 : Int32)), .val (.int (2 : Int32)), .val (.ref b1), .val (.ref b6), .val (.ref w2), .val (.ref w2), .unset] [(.int (2 : Int32)), (.ref b6)])
      refine own_st (own_ldZ X12 hx hZ e12 Va10 (j := (2 : Int32)) (by decide) (v := (.int (1 : Int32))) rfl (g := (mkF m 84 #[.val (.int p1), .val (.int p2), .val (.int (2 : Int32)), .val (.int (2 : Int32)), .val (.ref b1), .val (.ref b6), .val (.ref w2), .val (.ref w2), .unset] [(.int (2 : Int32)), (.ref b6)])) rfl rfl (hb hby at_84)) ?_
      show own_Go _ _ _ _ T12 (mkF m 85 #[.val (.int p1), .val (.int p2), .val (.int (2 : Int32)), .val (.int (2 : Int32)), .val (.ref b1), .val (.ref b6), .val (.ref w2), .val (.ref w2), .unset] [(.int (1 : Int32))])
      refine own_st (fun _ k => XS.ifNo X12.here hx rfl (hb hby at_85) rfl ((if0 _ _).trans (feq (by decide : ¬ ((1 : Int32) = (0 : Int32)))).1) k) ?_
      show own_Go _ _ _ _ T12 (mkF m 88 #[.val (.int p1), .val (.int p2), .val (.int (2 : Int32)), .val (.int (2 : Int32)), .val (.ref b1), .val (.ref b6), .val (.ref w2), .val (.ref w2), .unset] [])
      refine own_st (fun _ k => XS.aload X12.here hx rfl (hb hby at_88) rfl rfl k) ?_
      show own_Go _ _ _ _ T12 (mkF m 90 #[.val (.int p1), .val (.int p2), .val (.int (2 : Int32)), .val (.int (2 : Int32)), .val (.ref b1), .val (.ref b6), .val (.ref w2), .val (.ref w2), .unset] [(.ref b6)])
      refine own_st (fun _ k => XS.iloadN X12.here hx rfl (hb hby at_90) rfl k) ?_
      show own_Go _ _ _ _ T12 (mkF m 91 #[.val (.int p1), .val (.int p2), .val (.int (2 : Int32)), .val (.int (2 : Int32)), .val (.ref b1), .val (.ref b6), .val (.ref w2), .val (.ref w2), .unset] [(.int (2 : Int32)), (.ref b6)])
      refine own_st (own_ldZ X12 hx hZ e12 Va10 (j := (2 : Int32)) (by decide) (v := (.int (1 : Int32))) rfl (g := (mkF m 91 #[.val (.int p1), .val (.int p2), .val (.int (2 : Int32)), .val (.int (2 : Int32)), .val (.ref b1), .val (.ref b6), .val (.ref w2), .val (.ref w2), .unset] [(.int (2 : Int32)), (.ref b6)])) rfl rfl (hb hby at_91)) ?_
      show own_Go _ _ _ _ T12 (mkF m 92 #[.val (.int p1), .val (.int p2), .val (.int (2 : Int32)), .val (.int (2 : Int32)), .val (.ref b1), .val (.ref b6), .val (.ref w2), .val (.ref w2), .unset] [(.int (1 : Int32))])
      refine own_st (fun _ k => XS.ifNo X12.here hx rfl (hb hby at_92) rfl ((if0 _ _).trans (feq (by decide : ¬ ((1 : Int32) = (0 : Int32)))).1) k) ?_
      show own_Go _ _ _ _ T12 (mkF m 95 #[.val (.int p1), .val (.int p2), .val (.int (2 : Int32)), .val (.int (2 : Int32)), .val (.ref b1), .val (.ref b6), .val (.ref w2), .val (.ref w2), .unset] [])
      refine own_st (fun _ k => XS.iconst X12.here hx rfl (hb hby at_95) k) ?_
      show own_Go _ _ _ _ T12 (mkF m 96 #[.val (.int p1), .val (.int p2), .val (.int (2 : Int32)), .val (.int (2 : Int32)), .val (.ref b1), .val (.ref b6), .val (.ref w2), .val (.ref w2), .unset] [(.int (1 : Int32))])
      refine own_st (fun _ k => XS.goto X12.here hx rfl (pc0 := 96) (pc' := 100) rfl (hb hby at_96) (by decide) (by decide) k) ?_
      show own_Go _ _ _ _ T12 (mkF m 100 #[.val (.int p1), .val (.int p2), .val (.int (2 : Int32)), .val (.int (2 : Int32)), .val (.ref b1), .val (.ref b6), .val (.ref w2), .val (.ref w2), .unset] [(.int (1 : Int32))])
      exact tl _ _ _ _ _ E2 (by simp [own_cov, n10, n10.symm, n20, n20.symm, n21, n21.symm, n30, n30.symm, n31, n31.symm, n32, n32.symm])
    · rw [ha, hb']
      show own_Go _ _ _ _ T12 (mkF m 62 #[.val (.int p1), .val (.int p2), .val (.int (2 : Int32)), .val (.int (3 : Int32)), .val (.ref b1), .val (.ref b6), .val (.ref w2), .val (.ref w3), .unset] [])
      refine own_st (fun _ k => XS.iloadN X12.here hx rfl (hb hby at_62) rfl k) ?_
      show own_Go _ _ _ _ T12 (mkF m 63 #[.val (.int p1), .val (.int p2), .val (.int (2 : Int32)), .val (.int (3 : Int32)), .val (.ref b1), .val (.ref b6), .val (.ref w2), .val (.ref w3), .unset] [(.int (3 : Int32))])
      refine own_st (fun _ k => XS.iconst X12.here hx rfl (hb hby at_63) k) ?_
      show own_Go _ _ _ _ T12 (mkF m 64 #[.val (.int p1), .val (.int p2), .val (.int (2 : Int32)), .val (.int (3 : Int32)), .val (.ref b1), .val (.ref b6), .val (.ref w2), .val (.ref w3), .unset] [(.int (3 : Int32)), (.int (3 : Int32))])
      refine own_st (fun _ k => XS.icmpYes X12.here hx rfl (pc0 := 64) (pc' := 99) rfl (hb hby at_64) rfl (teq (by decide : (3 : Int32) = (3 : Int32))).1 (by decide) (by decide) k) ?_
      show own_Go _ _ _ _ T12 (mkF m 99 #[.val (.int p1), .val (.int p2), .val (.int (2 : Int32)), .val (.int (3 : Int32)), .val (.ref b1), .val (.ref b6), .val (.ref w2), .val (.ref w3), .unset] [])
      refine own_st (fun _ k => XS.iconst X12.here hx rfl (hb hby at_99) k) ?_
      show own_Go _ _ _ _ T12 (mkF m 100 #[.val (.int p1), .val (.int p2), .val (.int (2 : Int32)), .val (.int (3 : Int32)), .val (.ref b1), .val (.ref b6), .val (.ref w2), .val (.ref w3), .unset] [(.int (0 : Int32))])
      exact tl _ _ _ _ _ E2 (by simp [own_cov, n10, n10.symm, n20, n20.symm, n21, n21.symm, n30, n30.symm, n31, n31.symm, n32, n32.symm])
  · rcases own_and3 p2 with hb' | hb' | hb' | hb'
    · rw [ha, hb']
      show own_Go _ _ _ _ T12 (mkF m 62 #[.val (.int p1), .val (.int p2), .val (.int (3 : Int32)), .val (.int (0 : Int32)), .val (.ref b1), .val (.ref b6), .val (.ref w3), .val (.ref w0), .unset] [])
      refine own_st (fun _ k => XS.iloadN X12.here hx rfl (hb hby at_62) rfl k) ?_
      show own_Go _ _ _ _ T12 (mkF m 63 #[.val (.int p1), .val (.int p2), .val (.int (3 : Int32)), .val (.int (0 : Int32)), .val (.ref b1), .val (.ref b6), .val (.ref w3), .val (.ref w0), .unset] [(.int (0 : Int32))])
      refine own_st (fun _ k => XS.iconst X12.here hx rfl (hb hby at_63) k) ?_
      show own_Go _ _ _ _ T12 (mkF m 64 #[.val (.int p1), .val (.int p2), .val (.int (3 : Int32)), .val (.int (0 : Int32)), .val (.ref b1), .val (.ref b6), .val (.ref w3), .val (.ref w0), .unset] [(.int (3 : Int32)), (.int (0 : Int32))])
      refine own_st (fun _ k => XS.icmpNo X12.here hx rfl (hb hby at_64) rfl (feq (by decide : ¬ ((0 : Int32) = (3 : Int32)))).1 k) ?_
      show own_Go _ _ _ _ T12 (mkF m 67 #[.val (.int p1), .val (.int p2), .val (.int (3 : Int32)), .val (.int (0 : Int32)), .val (.ref b1), .val (.ref b6), .val (.ref w3), .val (.ref w0), .unset] [])
      refine own_st (fun _ k => XS.aload X12.here hx rfl (hb hby at_67) rfl rfl k) ?_
      show own_Go _ _ _ _ T12 (mkF m 69 #[.val (.int p1), .val (.int p2), .val (.int (3 : Int32)), .val (.int (0 : Int32)), .val (.ref b1), .val (.ref b6), .val (.ref w3), .val (.ref w0), .unset] [(.ref b1)])
      refine own_st (fun _ k => XS.iloadN X12.here hx rfl (hb hby at_69) rfl k) ?_
      show own_Go _ _ _ _ T12 (mkF m 70 #[.val (.int p1), .val (.int p2), .val (.int (3 : Int32)), .val (.int (0 : Int32)), .val (.ref b1), .val (.ref b6), .val (.ref w3), .val (.ref w0), .unset] [(.int (0 : Int32)), (.ref b1)])
      refine own_st (own_ldZ X12 hx hZ e12 V_b1_10 (j := (0 : Int32)) (by decide) (v := (.int (1 : Int32))) rfl (g := (mkF m 70 #[.val (.int p1), .val (.int p2), .val (.int (3 : Int32)), .val (.int (0 : Int32)), .val (.ref b1), .val (.ref b6), .val (.ref w3), .val (.ref w0), .unset] [(.int (0 : Int32)), (.ref b1)])) rfl rfl (hb hby at_70)) ?_
      show own_Go _ _ _ _ T12 (mkF m 71 #[.val (.int p1), .val (.int p2), .val (.int (3 : Int32)), .val (.int (0 : Int32)), .val (.ref b1), .val (.ref b6), .val (.ref w3), .val (.ref w0), .unset] [(.int (1 : Int32))])
      refine own_st (fun _ k => XS.ifNo X12.here hx rfl (hb hby at_71) rfl ((if0 _ _).trans (feq (by decide : ¬ ((1 : Int32) = (0 : Int32)))).1) k) ?_
      show own_Go _ _ _ _ T12 (mkF m 74 #[.val (.int p1), .val (.int p2), .val (.int (3 : Int32)), .val (.int (0 : Int32)), .val (.ref b1), .val (.ref b6), .val (.ref w3), .val (.ref w0), .unset] [])
      refine own_st (fun _ k => XS.aload X12.here hx rfl (hb hby at_74) rfl rfl k) ?_
      show own_Go _ _ _ _ T12 (mkF m 76 #[.val (.int p1), .val (.int p2), .val (.int (3 : Int32)), .val (.int (0 : Int32)), .val (.ref b1), .val (.ref b6), .val (.ref w3), .val (.ref w0), .unset] [(.ref b1)])
      refine own_st (fun _ k => XS.iloadN X12.here hx rfl (hb hby at_76) rfl k) ?_
      show own_Go _ _ _ _ T12 (mkF m 77 #[.val (.int p1), .val (.int p2), .val (.int (3 : Int32)), .val (.int (0 : Int32)), .val (.ref b1), .val (.ref b6), .val (.ref w3), .val (.ref w0), .unset] [(.int (3 : Int32)), (.ref b1)])
      refine own_st (own_ldZ X12 hx hZ e12 V_b1_10 (j := (3 : Int32)) (by decide) (v := (.int (0 : Int32))) rfl (g := (mkF m 77 #[.val (.int p1), .val (.int p2), .val (.int (3 : Int32)), .val (.int (0 : Int32)), .val (.ref b1), .val (.ref b6), .val (.ref w3), .val (.ref w0), .unset] [(.int (3 : Int32)), (.ref b1)])) rfl rfl (hb hby at_77)) ?_
      show own_Go _ _ _ _ T12 (mkF m 78 #[.val (.int p1), .val (.int p2), .val (.int (3 : Int32)), .val (.int (0 : Int32)), .val (.ref b1), .val (.ref b6), .val (.ref w3), .val (.ref w0), .unset] [(.int (0 : Int32))])
      refine own_st (fun _ k => XS.ifYes X12.here hx rfl (pc0 := 78) (pc' := 99) rfl (hb hby at_78) rfl ((if0 _ _).trans (teq (by decide : (0 : Int32) = (0 : Int32))).1) (by decide) (by decide) k) ?_
      show own_Go _ _ _ _ T12 (mkF m 99 #[.val (.int p1), .val (.int p2), .val (.int (3 : Int32)), .val (.int (0 : Int32)), .val (.ref b1), .val (.ref b6), .val (.ref w3), .val (.ref w0), .unset] [])
      refine own_st (fun _ k => XS.iconst X12.here hx rfl (hb hby at_99) k) ?_
      show own_Go _ _ _ _ T12 (mkF m 100 #[.val (.int p1), .val (.int p2), .val (.int (3 : Int32)), .val (.int (0 : Int32)), .val (.ref b1), .val (.ref b6), .val (.ref w3), .val (.ref w0), .unset] [(.int (0 : Int32))])
      exact tl _ _ _ _ _ E3 (by simp [own_cov, n10, n10.symm, n20, n20.symm, n21, n21.symm, n30, n30.symm, n31, n31.symm, n32, n32.symm])
    · rw [ha, hb']
      show own_Go _ _ _ _ T12 (mkF m 62 #[.val (.int p1), .val (.int p2), .val (.int (3 : Int32)), .val (.int (1 : Int32)), .val (.ref b1), .val (.ref b6), .val (.ref w3), .val (.ref w1), .unset] [])
      refine own_st (fun _ k => XS.iloadN X12.here hx rfl (hb hby at_62) rfl k) ?_
      show own_Go _ _ _ _ T12 (mkF m 63 #[.val (.int p1), .val (.int p2), .val (.int (3 : Int32)), .val (.int (1 : Int32)), .val (.ref b1), .val (.ref b6), .val (.ref w3), .val (.ref w1), .unset] [(.int (1 : Int32))])
      refine own_st (fun _ k => XS.iconst X12.here hx rfl (hb hby at_63) k) ?_
      show own_Go _ _ _ _ T12 (mkF m 64 #[.val (.int p1), .val (.int p2), .val (.int (3 : Int32)), .val (.int (1 : Int32)), .val (.ref b1), .val (.ref b6), .val (.ref w3), .val (.ref w1), .unset] [(.int (3 : Int32)), (.int (1 : Int32))])
      refine own_st (fun _ k => XS.icmpNo X12.here hx rfl (hb hby at_64) rfl (feq (by decide : ¬ ((1 : Int32) = (3 : Int32)))).1 k) ?_
      show own_Go _ _ _ _ T12 (mkF m 67 #[.val (.int p1), .val (.int p2), .val (.int (3 : Int32)), .val (.int (1 : Int32)), .val (.ref b1), .val (.ref b6), .val (.ref w3), .val (.ref w1), .unset] [])
      refine own_st (fun _ k => XS.aload X12.here hx rfl (hb hby at_67) rfl rfl k) ?_
      show own_Go _ _ _ _ T12 (mkF m 69 #[.val (.int p1), .val (.int p2), .val (.int (3 : Int32)), .val (.int (1 : Int32)), .val (.ref b1), .val (.ref b6), .val (.ref w3), .val (.ref w1), .unset] [(.ref b1)])
      refine own_st (fun _ k => XS.iloadN X12.here hx rfl (hb hby at_69) rfl k) ?_
      show own_Go _ _ _ _ T12 (mkF m 70 #[.val (.int p1), .val (.int p2), .val (.int (3 : Int32)), .val (.int (1 : Int32)), .val (.ref b1), .val (.ref b6), .val (.ref w3), .val (.ref w1), .unset] [(.int (1 : Int32)), (.ref b1)])
      refine own_st (own_ldZ X12 hx hZ e12 V_b1_10 (j := (1 : Int32)) (by decide) (v := (.int (1 : Int32))) rfl (g := (mkF m 70 #[.val (.int p1), .val (.int p2), .val (.int (3 : Int32)), .val (.int (1 : Int32)), .val (.ref b1), .val (.ref b6), .val (.ref w3), .val (.ref w1), .unset] [(.int (1 : Int32)), (.ref b1)])) rfl rfl (hb hby at_70)) ?_
      show own_Go _ _ _ _ T12 (mkF m 71 #[.val (.int p1), .val (.int p2), .val (.int (3 : Int32)), .val (.int (1 : Int32)), .val (.ref b1), .val (.ref b6), .val (.ref w3), .val (.ref w1), .unset] [(.int (1 : Int32))])
      refine own_st (fun _ k => XS.ifNo X12.here hx rfl (hb hby at_71) rfl ((if0 _ _).trans (feq (by decide : ¬ ((1 : Int32) = (0 : Int32)))).1) k) ?_
      show own_Go _ _ _ _ T12 (mkF m 74 #[.val (.int p1), .val (.int p2), .val (.int (3 : Int32)), .val (.int (1 : Int32)), .val (.ref b1), .val (.ref b6), .val (.ref w3), .val (.ref w1), .unset] [])
      refine own_st (fun _ k => XS.aload X12.here hx rfl (hb hby at_74) rfl rfl k) ?_
      show own_Go _ _ _ _ T12 (mkF m 76 #[.val (.int p1), .val (.int p2), .val (.int (3 : Int32)), .val (.int (1 : Int32)), .val (.ref b1), .val (.ref b6), .val (.ref w3), .val (.ref w1), .unset] [(.ref b1)])
      refine own_st (fun _ k => XS.iloadN X12.here hx rfl (hb hby at_76) rfl k) ?_
      show own_Go _ _ _ _ T12 (mkF m 77 #[.val (.int p1), .val (.int p2), .val (.int (3 : Int32)), .val (.int (1 : Int32)), .val (.ref b1), .val (.ref b6), .val (.ref w3), .val (.ref w1), .unset] [(.int (3 : Int32)), (.ref b1)])
      refine own_st (own_ldZ X12 hx hZ e12 V_b1_10 (j := (3 : Int32)) (by decide) (v := (.int (0 : Int32))) rfl (g := (mkF m 77 #[.val (.int p1), .val (.int p2), .val (.int (3 : Int32)), .val (.int (1 : Int32)), .val (.ref b1), .val (.ref b6), .val (.ref w3), .val (.ref w1), .unset] [(.int (3 : Int32)), (.ref b1)])) rfl rfl (hb hby at_77)) ?_
      show own_Go _ _ _ _ T12 (mkF m 78 #[.val (.int p1), .val (.int p2), .val (.int (3 : Int32)), .val (.int (1 : Int32)), .val (.ref b1), .val (.ref b6), .val (.ref w3), .val (.ref w1), .unset] [(.int (0 : Int32))])
      refine own_st (fun _ k => XS.ifYes X12.here hx rfl (pc0 := 78) (pc' := 99) rfl (hb hby at_78) rfl ((if0 _ _).trans (teq (by decide : (0 : Int32) = (0 : Int32))).1) (by decide) (by decide) k) ?_
      show own_Go _ _ _ _ T12 (mkF m 99 #[.val (.int p1), .val (.int p2), .val (.int (3 : Int32)), .val (.int (1 : Int32)), .val (.ref b1), .val (.ref b6), .val (.ref w3), .val (.ref w1), .unset] [])
      refine own_st (fun _ k => XS.iconst X12.here hx rfl (hb hby at_99) k) ?_
      show own_Go _ _ _ _ T12 (mkF m 100 #[.val (.int p1), .val (.int p2), .val (.int (3 : Int32)), .val (.int (1 : Int32)), .val (.ref b1), .val (.ref b6), .val (.ref w3), .val (.ref w1), .unset] [(.int (0 : Int32))])
      exact tl _ _ _ _ _ E3 (by simp [own_cov, n10, n10.symm, n20, n20.symm, n21, n21.symm, n30, n30.symm, n31, n31.symm, n32, n32.symm])
    · rw [ha, hb']
      show own_Go _ _ _ _ T12 (mkF m 62 #[.val (.int p1), .val (.int p2), .val (.int (3 : Int32)), .val (.int (2 : Int32)), .val (.ref b1), .val (.ref b6), .val (.ref w3), .val (.ref w2), .unset] [])
      refine own_st (fun _ k => XS.iloadN X12.here hx rfl (hb hby at_62) rfl k) ?_
      show own_Go _ _ _ _ T12 (mkF m 63 #[.val (.int p1), .val (.int p2), .val (.int (3 : Int32)), .val (.int (2 : Int32)), .val (.ref b1), .val (.ref b6), .val (.ref w3), .val (.ref w2), .unset] [(.int (2 : Int32))])
      refine own_st (fun _ k => XS.iconst X12.here hx rfl (hb hby at_63) k) ?_
      show own_Go _ _ _ _ T12 (mkF m 64 #[.val (.int p1), .val (.int p2), .val (.int (3 : Int32)), .val (.int (2 : Int32)), .val (.ref b1), .val (.ref b6), .val (.ref w3), .val (.ref w2), .unset] [(.int (3 : Int32)), (.int (2 : Int32))])
      refine own_st (fun _ k => XS.icmpNo X12.here hx rfl (hb hby at_64) rfl (feq (by decide : ¬ ((2 : Int32) = (3 : Int32)))).1 k) ?_
      show own_Go _ _ _ _ T12 (mkF m 67 #[.val (.int p1), .val (.int p2), .val (.int (3 : Int32)), .val (.int (2 : Int32)), .val (.ref b1), .val (.ref b6), .val (.ref w3), .val (.ref w2), .unset] [])
      refine own_st (fun _ k => XS.aload X12.here hx rfl (hb hby at_67) rfl rfl k) ?_
      show own_Go _ _ _ _ T12 (mkF m 69 #[.val (.int p1), .val (.int p2), .val (.int (3 : Int32)), .val (.int (2 : Int32)), .val (.ref b1), .val (.ref b6), .val (.ref w3), .val (.ref w2), .unset] [(.ref b1)])
      refine own_st (fun _ k => XS.iloadN X12.here hx rfl (hb hby at_69) rfl k) ?_
      show own_Go _ _ _ _ T12 (mkF m 70 #[.val (.int p1), .val (.int p2), .val (.int (3 : Int32)), .val (.int (2 : Int32)), .val (.ref b1), .val (.ref b6), .val (.ref w3), .val (.ref w2), .unset] [(.int (2 : Int32)), (.ref b1)])
      refine own_st (own_ldZ X12 hx hZ e12 V_b1_10 (j := (2 : Int32)) (by decide) (v := (.int (0 : Int32))) rfl (g := (mkF m 70 #[.val (.int p1), .val (.int p2), .val (.int (3 : Int32)), .val (.int (2 : Int32)), .val (.ref b1), .val (.ref b6), .val (.ref w3), .val (.ref w2), .unset] [(.int (2 : Int32)), (.ref b1)])) rfl rfl (hb hby at_70)) ?_
      show own_Go _ _ _ _ T12 (mkF m 71 #[.val (.int p1), .val (.int p2), .val (.int (3 : Int32)), .val (.int (2 : Int32)), .val (.ref b1), .val (.ref b6), .val (.ref w3), .val (.ref w2), .unset] [(.int (0 : Int32))])
      refine own_st (fun _ k => XS.ifYes X12.here hx rfl (pc0 := 71) (pc' := 81) rfl (hb hby at_71) rfl ((if0 _ _).trans (teq (by decide : (0 : Int32) = (0 : Int32))).1) (by decide) (by decide) k) ?_
      show own_Go _ _ _ _ T12 (mkF m 81 #[.val (.int p1), .val (.int p2), .val (.int (3 : Int32)), .val (.int (2 : Int32)), .val (.ref b1), .val (.ref b6), .val (.ref w3), .val (.ref w2), .unset] [])
      refine own_st (fun _ k => XS.aload X12.here hx rfl (hb hby at_81) rfl rfl k) ?_
      show own_Go _ _ _ _ T12 (mkF m 83 #[.val (.int p1), .val (.int p2), .val (.int (3 : Int32)), .val (.int (2 : Int32)), .val (.ref b1), .val (.ref b6), .val (.ref w3), .val (.ref w2), .unset] [(.ref b6)])
      refine own_st (fun _ k => XS.iloadN X12.here hx rfl (hb hby at_83) rfl k) ?_
      show own_Go _ _ _ _ T12 (mkF m 84 #[.val (.int p1), .val (.int p2), .val (.int (3 : Int32)), .val (.int (2 : Int32)), .val (.ref b1), .val (.ref b6), .val (.ref w3), .val (.ref w2), .unset] [(.int (2 : Int32)), (.ref b6)])
      refine own_st (own_ldZ X12 hx hZ e12 Va10 (j := (2 : Int32)) (by decide) (v := (.int (1 : Int32))) rfl (g := (mkF m 84 #[.val (.int p1), .val (.int p2), .val (.int (3 : Int32)), .val (.int (2 : Int32)), .val (.ref b1), .val (.ref b6), .val (.ref w3), .val (.ref w2), .unset] [(.int (2 : Int32)), (.ref b6)])) rfl rfl (hb hby at_84)) ?_
      show own_Go _ _ _ _ T12 (mkF m 85 #[.val (.int p1), .val (.int p2), .val (.int (3 : Int32)), .val (.int (2 : Int32)), .val (.ref b1), .val (.ref b6), .val (.ref w3), .val (.ref w2), .unset] [(.int (1 : Int32))])
      refine own_st (fun _ k => XS.ifNo X12.here hx rfl (hb hby at_85) rfl ((if0 _ _).trans (feq (by decide : ¬ ((1 : Int32) = (0 : Int32)))).1) k) ?_
      show own_Go _ _ _ _ T12 (mkF m 88 #[.val (.int p1), .val (.int p2), .val (.int (3 : Int32)), .val (.int (2 : Int32)), .val (.ref b1), .val (.ref b6), .val (.ref w3), .val (.ref w2), .unset] [])
      refine own_st (fun _ k => XS.aload X12.here hx rfl (hb hby at_88) rfl rfl k) ?_
      show own_Go _ _ _ _ T12 (mkF m 90 #[.val (.int p1), .val (.int p2), .val (.int (3 : Int32)), .val (.int (2 : Int32)), .val (.ref b1), .val (.ref b6), .val (.ref w3), .val (.ref w2), .unset] [(.ref b6)])
      refine own_st (fun _ k => XS.iloadN X12.here hx rfl (hb hby at_90) rfl k) ?_
      show own_Go _ _ _ _ T12 (mkF m 91 #[.val (.int p1), .val (.int p2), .val (.int (3 : Int32)), .val (.int (2 : Int32)), .val (.ref b1), .val (.ref b6), .val (.ref w3), .val (.ref w2), .unset] [(.int (3 : Int32)), (.ref b6)])
      refine own_st (own_ldZ X12 hx hZ e12 Va10 (j := (3 : Int32)) (by decide) (v := (.int (0 : Int32))) rfl (g := (mkF m 91 #[.val (.int p1), .val (.int p2), .val (.int (3 : Int32)), .val (.int (2 : Int32)), .val (.ref b1), .val (.ref b6), .val (.ref w3), .val (.ref w2), .unset] [(.int (3 : Int32)), (.ref b6)])) rfl rfl (hb hby at_91)) ?_
      show own_Go _ _ _ _ T12 (mkF m 92 #[.val (.int p1), .val (.int p2), .val (.int (3 : Int32)), .val (.int (2 : Int32)), .val (.ref b1), .val (.ref b6), .val (.ref w3), .val (.ref w2), .unset] [(.int (0 : Int32))])
      refine own_st (fun _ k => XS.ifYes X12.here hx rfl (pc0 := 92) (pc' := 99) rfl (hb hby at_92) rfl ((if0 _ _).trans (teq (by decide : (0 : Int32) = (0 : Int32))).1) (by decide) (by decide) k) ?_
      show own_Go _ _ _ _ T12 (mkF m 99 #[.val (.int p1), .val (.int p2), .val (.int (3 : Int32)), .val (.int (2 : Int32)), .val (.ref b1), .val (.ref b6), .val (.ref w3), .val (.ref w2), .unset] [])
      refine own_st (fun _ k => XS.iconst X12.here hx rfl (hb hby at_99) k) ?_
      show own_Go _ _ _ _ T12 (mkF m 100 #[.val (.int p1), .val (.int p2), .val (.int (3 : Int32)), .val (.int (2 : Int32)), .val (.ref b1), .val (.ref b6), .val (.ref w3), .val (.ref w2), .unset] [(.int (0 : Int32))])
      exact tl _ _ _ _ _ E3 (by simp [own_cov, n10, n10.symm, n20, n20.symm, n21, n21.symm, n30, n30.symm, n31, n31.symm, n32, n32.symm])
    · rw [ha, hb']
      show own_Go _ _ _ _ T12 (mkF m 62 #[.val (.int p1), .val (.int p2), .val (.int (3 : Int32)), .val (.int (3 : Int32)), .val (.ref b1), .val (.ref b6), .val (.ref w3), .val (.ref w3), .unset] [])
      refine own_st (fun _ k => XS.iloadN X12.here hx rfl (hb hby at_62) rfl k) ?_
      show own_Go _ _ _ _ T12 (mkF m 63 #[.val (.int p1), .val (.int p2), .val (.int (3 : Int32)), .val (.int (3 : Int32)), .val (.ref b1), .val (.ref b6), .val (.ref w3), .val (.ref w3), .unset] [(.int (3 : Int32))])
      refine own_st (fun _ k => XS.iconst X12.here hx rfl (hb hby at_63) k) ?_
      show own_Go _ _ _ _ T12 (mkF m 64 #[.val (.int p1), .val (.int p2), .val (.int (3 : Int32)), .val (.int (3 : Int32)), .val (.ref b1), .val (.ref b6), .val (.ref w3), .val (.ref w3), .unset] [(.int (3 : Int32)), (.int (3 : Int32))])
      refine own_st (fun _ k => XS.icmpYes X12.here hx rfl (pc0 := 64) (pc' := 99) rfl (hb hby at_64) rfl (teq (by decide : (3 : Int32) = (3 : Int32))).1 (by decide) (by decide) k) ?_
      show own_Go _ _ _ _ T12 (mkF m 99 #[.val (.int p1), .val (.int p2), .val (.int (3 : Int32)), .val (.int (3 : Int32)), .val (.ref b1), .val (.ref b6), .val (.ref w3), .val (.ref w3), .unset] [])
      refine own_st (fun _ k => XS.iconst X12.here hx rfl (hb hby at_99) k) ?_
      show own_Go _ _ _ _ T12 (mkF m 100 #[.val (.int p1), .val (.int p2), .val (.int (3 : Int32)), .val (.int (3 : Int32)), .val (.ref b1), .val (.ref b6), .val (.ref w3), .val (.ref w3), .unset] [(.int (0 : Int32))])
      exact tl _ _ _ _ _ E3 (by simp [own_cov, n10, n10.symm, n20, n20.symm, n21, n21.symm, n30, n30.symm, n31, n31.symm, n32, n32.symm])
set_option maxRecDepth 65536 in
set_option maxHeartbeats 40000000 in
theorem comes_1 {Post : Tables → Env → Array Value → State → Outcome → State → Prop} (hpost : ∀ tb e args s v u, (limb_1_1.after args s (.returned v) u = true ∧ limb_1_2.after args s (.returned v) u = true ∧ True) → FrameEnd s (.returned v) u (Jvm.fieldLocs frame_1_writes args s ++ Jvm.arrayLocs frame_1_arrays args s ++ Jvm.staticLocs frame_1_statics s) 16 128 → Post tb e args s (.returned v) u) :
    ArmFor flags0 classFile x code maxLocals ret World_1 tables_1 room_1 Calls_1 rest_1 Pre_1 Post := by
  intro l hfl _ _ p e ha hc hk s m args below hf hA hF happ hP
  obtain ⟨hcalls, hrest, hpre⟩ := hP
  obtain ⟨-, -, -, hnamed, -, -, -, hat⟩ := (Spec.applies_iff hf).mp happ
  obtain ⟨hg, hn⟩ := and_e (Cond.before_iff.mp (show (Jvm.Cond.and given_1 narrow_1).before args s = true from hpre))
  obtain ⟨q1, q2⟩ := and_e hg
  obtain ⟨q3, q4⟩ := and_e q2
  obtain ⟨w0_, w1_, rfl⟩ : ∃ w0_ w1_ : Value, args = #[w0_, w1_] := by
    have hs : args.size = 2 := by simpa [Cond.value, given_1] using q1
    obtain ⟨L⟩ := args
    match L, hs with
    | [w0_, w1_], _ => exact ⟨w0_, w1_, rfl⟩
  have hw : own_W s _ := fun d (hd : d ∈ tables_1) => atoms_spec (ws := Jvm.Cond.code x code maxLocals ret :: tables_1) hat d (List.mem_cons_of_mem _ hd)
  have hfit : Fit s := fun {y c} hc i hi => by
    obtain ⟨ha, rfl⟩ := Array.getElem?_eq_some_iff.mp hc
    have q := List.all_eq_true.mp ((Array.all_eq_true_iff_forall_mem.mp hF) _ (Array.getElem_mem ha)) i (List.mem_range.mpr hi)
    simpa [Array.getElem?_eq_getElem hi] using q
  obtain ⟨i0, ei0⟩ := is_v q3
  obtain rfl : w0_ = (.int i0) := Option.some.inj ei0
  obtain ⟨i1, ei1⟩ := is_v q4
  obtain rfl : w1_ = (.int i1) := Option.some.inj ei1
  have hn : narrow_1.value _ s none s [] = some true := hn
  obtain ⟨q5, q6⟩ := and_e hn
  obtain ⟨q7, q8⟩ := and_e q6
  obtain ⟨q9, q10⟩ := and_e q8
  obtain ⟨q11, q12⟩ := and_e q10
  obtain ⟨q13, q14⟩ := and_e q12
  obtain ⟨q15, q16⟩ := and_e q14
  obtain ⟨q17, q18⟩ := and_e q16
  obtain ⟨w19, vw19⟩ := exa_v q5
  have E20 := Exa.start vw19 q5
  have S21 := Sta.start vw19 (Or.inr ⟨(own_w6 hw), (own_w7 hw)⟩)
  obtain ⟨w22, vw22⟩ := exa_v q7
  have E23 := Exa.start vw22 q7
  have S24 := Sta.start vw22 (Or.inr ⟨(own_w6 hw), (own_w9 hw)⟩)
  obtain ⟨w25, vw25⟩ := exa_v q9
  have E26 := Exa.start vw25 q9
  have S27 := Sta.start vw25 (Or.inr ⟨(own_w6 hw), (own_w17 hw)⟩)
  obtain ⟨w28, vw28⟩ := exa_v q11
  have E29 := Exa.start vw28 q11
  have S30 := Sta.start vw28 (Or.inr ⟨(own_w6 hw), (own_w19 hw)⟩)
  have F31 := Fld.start ((fld_at vw28).symm.trans (own_eqi q13))
  have F32 := Fld.start ((fld_at vw22).symm.trans (own_eqi q15))
  have F33 := Fld.start ((fld_at vw25).symm.trans (own_eqi q17))
  have F34 := Fld.start ((fld_at vw19).symm.trans (own_eqi q18))
  obtain ⟨n, o, r1, r2, r3, _, L, rfl, ⟨rfl, N⟩, hq⟩ := own_law l hw tables_1 i0 i1 w19 w28 w25 w22 s.heap s.heap.size (Nat.le_refl _) S21 S30 S27 S24 E20 E29 E26 E23 (Fld.ne F31 F34 (by decide)) (Fld.ne F33 F34 (by decide)) (Fld.ne F33 F31 (by decide)) (Fld.ne F32 F34 (by decide)) (Fld.ne F32 F31 (by decide)) (Fld.ne F32 F33 (by decide)) p e ha hc hk s m _ below hf ((Spec.applies_iff_loose hf).mp happ).1 ⟨rfl, State.Warmed39.refl s, rfl⟩ trivial
  refine ⟨n, _, r1, r2, r3, hpost _ _ _ _ _ _ ⟨Cond.after_iff.mpr rfl, Cond.after_iff.mpr (eq_i res_at (Term.int_eval (1)) rfl), trivial⟩ ⟨hq.1, hq.2.1, (hq.2.2.sift fun y hy => Or.inr (N y hy)).mono (by decide) (by decide)⟩⟩
theorem main_1_1 : Claimed_1_1 := comes_1 fun _ _ _ _ _ _ h hF => ⟨h.1, hF⟩
theorem main_1_2 : Claimed_1_2 := comes_1 fun _ _ _ _ _ _ h hF => ⟨h.2.1, hF⟩
end Jvm.Pilot.@@N@@
namespace Jvm.Pilot.@@N@@
open Jvm Jvm.ClassFile Sem Op Lib Jvm.Free Jvm.Stand Jvm.Pilot.@@N@@.Jvm.D
/-! MADE BY PROGRAM (witnessworld.py) out of the Statement's table words and the real class files: 14 classes; the members and pool entries that the words name. The judged class is class 1, her method 2. -/
namespace start1
open Jvm.ClassFile
def u (s : String) : CpInfo := .utf8 (stringToUtf16 s)
/-- a pool by its gaps: so many unusable entries, then the entry; so many at the end -/
def gap : Nat → List CpInfo → List CpInfo
  | 0, r => r
  | n + 1, r => .unusable :: gap n r
def poolList (es : List (Nat × CpInfo)) (last : Nat) : List CpInfo := es.foldr (fun e r => gap e.1 (e.2 :: r)) (gap last [])
def pool (es : List (Nat × CpInfo)) (last : Nat) : Array CpInfo := ⟨poolList es last⟩
def fileOf (pool : Array CpInfo) (this : Nat) (attrs : Array Attribute := #[]) (ms : Array MethodInfo := #[]) (fl : Nat := 33) (sup : Nat := 0) (ifs : Array Nat := #[]) (fds : Array FieldInfo := #[]) : ClassFile where
  minorVersion := 0
  majorVersion := 65
  constantPool := pool
  accessFlags := fl
  thisClass := this
  superClass := sup
  interfaces := ifs
  fields := fds
  methods := ms
  attributes := attrs
def plain (name : String) (sup : Option ClassId) : Class where
  name := name
  kind := .ordinary
  loader := none
  accessFlags := 33
  super := sup
  interfaces := #[]
  cf := none
  fields := #[]
  methods := #[]
  instanceTypes := #[]
  staticTypes := #[]
  resolved := #[]
  callSites := []
  init := .initialized
  statics := none
  mirror := none

def pool0 : Array CpInfo := pool [(5, u "<init>"), (0, u "()V"), (1, .class_ 10), (1, u "java/lang/Object")] 113

def k0m0 : Method := { name := "<init>", desc := "()V", sig := { parameters := [], returnType := none }, accessFlags := 1, code := none }
/-- java/lang/Object -/
def k0 : Class := { plain "java/lang/Object" none with
  accessFlags := 33
  interfaces := #[]
  cf := some (fileOf pool0 8 #[] #[{ accessFlags := 1, nameIndex := 5, descriptorIndex := 6, attributes := #[] }] 33 0 #[] #[])
  fields := #[]
  methods := #[k0m0]
  instanceTypes := #[]
  staticTypes := #[]
  resolved := Array.replicate 124 none
  statics := none }

def pool1 : Array CpInfo := pool [(2, .class_ 4), (1, u "java/lang/Object"), (0, u "<init>"), (0, u "()V"), (0, .fieldref 8 9), (0, .class_ 10), (0, .nameAndType 11 12), (0, u "com/example/grenze/grenze/lock/LockKind"), (0, u "NEXT_KEY"), (0, u "Lcom/example/grenze/grenze/lock/LockKind;"), (0, .fieldref 8 14), (0, .nameAndType 15 12), (0, u "RECORD"), (0, .fieldref 8 17), (0, .nameAndType 18 12), (0, u "GAP"), (0, .fieldref 8 20), (0, .nameAndType 21 12), (0, u "INSERT_INTENTION"), (0, .methodref 23 24), (0, .class_ 25), (0, .nameAndType 26 27), (0, u "com/example/grenze/grenze/lock/LockKindCoversPinLaw"), (0, u "kindOf"), (0, u "(I)Lcom/example/grenze/grenze/lock/LockKind;"), (0, .methodref 8 29), (0, .nameAndType 30 31), (0, u "covers"), (0, u "(Lcom/example/grenze/grenze/lock/LockKind;)Z"), (3, u "law"), (0, u "(II)Z")] 4

def k1m0 : Method := { name := "<init>", desc := "()V", sig := { parameters := [], returnType := none }, accessFlags := 1, code := none }
def k1c1 : Code := { maxStack := 2, maxLocals := 1, code := method_2_code, exceptionTable := #[], attributes := #[] }
def k1m1 : Method := { name := "kindOf", desc := "(I)Lcom/example/grenze/grenze/lock/LockKind;", sig := { parameters := [.int], returnType := some (.object "com/example/grenze/grenze/lock/LockKind") }, accessFlags := 10, code := some k1c1 }
def k1c2 : Code := { maxStack := 4, maxLocals := 9, code := code, exceptionTable := #[], attributes := #[] }
def k1m2 : Method := { name := "law", desc := "(II)Z", sig := { parameters := [.int, .int], returnType := some .boolean }, accessFlags := 9, code := some k1c2 }
/-- com/example/grenze/grenze/lock/LockKindCoversPinLaw -/
def k1 : Class := { plain "com/example/grenze/grenze/lock/LockKindCoversPinLaw" (some 0) with
  accessFlags := 49
  interfaces := #[]
  cf := some (fileOf pool1 23 #[] #[{ accessFlags := 1, nameIndex := 5, descriptorIndex := 6, attributes := #[] }, { accessFlags := 10, nameIndex := 26, descriptorIndex := 27, attributes := #[] }, { accessFlags := 9, nameIndex := 35, descriptorIndex := 36, attributes := #[] }] 49 2 #[] #[])
  fields := #[]
  methods := #[k1m0, k1m1, k1m2]
  instanceTypes := #[]
  staticTypes := #[]
  resolved := Array.replicate 41 none
  statics := none }

def pool2 : Array CpInfo := pool [(1, .class_ 2), (0, u "java/lang/constant/Constable"), (0, .class_ 4), (0, u "java/lang/Object")] 6

/-- java/lang/constant/Constable -/
def k2 : Class := { plain "java/lang/constant/Constable" (some 0) with
  accessFlags := 1537
  interfaces := #[]
  cf := some (fileOf pool2 1 #[] #[] 1537 3 #[] #[])
  fields := #[]
  methods := #[]
  instanceTypes := #[]
  staticTypes := #[]
  resolved := Array.replicate 11 none
  statics := none }

def pool3 : Array CpInfo := pool [(1, .class_ 2), (0, u "java/lang/Comparable"), (0, .class_ 4), (0, u "java/lang/Object")] 7

/-- java/lang/Comparable -/
def k3 : Class := { plain "java/lang/Comparable" (some 0) with
  accessFlags := 1537
  interfaces := #[]
  cf := some (fileOf pool3 1 #[] #[] 1537 3 #[] #[])
  fields := #[]
  methods := #[]
  instanceTypes := #[]
  staticTypes := #[]
  resolved := Array.replicate 12 none
  statics := none }

def pool4 : Array CpInfo := pool [(1, .class_ 2), (0, u "java/io/Serializable"), (0, .class_ 4), (0, u "java/lang/Object")] 2

/-- java/io/Serializable -/
def k4 : Class := { plain "java/io/Serializable" (some 0) with
  accessFlags := 1537
  interfaces := #[]
  cf := some (fileOf pool4 1 #[] #[] 1537 3 #[] #[])
  fields := #[]
  methods := #[]
  instanceTypes := #[]
  staticTypes := #[]
  resolved := Array.replicate 7 none
  statics := none }

def pool5 : Array CpInfo := pool [(2, .class_ 4), (1, u "java/lang/Enum"), (0, u "name"), (0, u "Ljava/lang/String;"), (2, u "ordinal"), (0, u "I"), (1, .class_ 14), (1, u "java/lang/Object"), (4, u "hash"), (86, .class_ 108), (1, u "java/lang/Enum$EnumDesc"), (2, .class_ 112), (0, u "java/lang/constant/Constable"), (0, .class_ 114), (0, u "java/lang/Comparable"), (0, .class_ 116), (0, u "java/io/Serializable")] 87

/-- java/lang/Enum -/
def k5 : Class := { plain "java/lang/Enum" (some 0) with
  accessFlags := 1057
  interfaces := #[2, 3, 4]
  cf := some (fileOf pool5 2 #[.nestMembers #[106]] #[] 1057 12 #[111, 113, 115] #[{ accessFlags := 18, nameIndex := 5, descriptorIndex := 6, attributes := #[] }, { accessFlags := 18, nameIndex := 9, descriptorIndex := 10, attributes := #[] }, { accessFlags := 2, nameIndex := 19, descriptorIndex := 10, attributes := #[] }])
  fields := #[{ name := "name", type := (.object "java/lang/String"), accessFlags := 18, slot := 0, constantValue := 0 }, { name := "ordinal", type := .int, accessFlags := 18, slot := 1, constantValue := 0 }, { name := "hash", type := .int, accessFlags := 2, slot := 2, constantValue := 0 }]
  methods := #[]
  instanceTypes := #[(.object "java/lang/String"), .int, .int]
  staticTypes := #[]
  resolved := Array.replicate 204 none
  statics := none }

def pool6 : Array CpInfo := pool [(1, .class_ 2), (0, u "com/example/grenze/grenze/lock/LockKind"), (0, .fieldref 1 4), (0, .nameAndType 5 6), (0, u "NEXT_KEY"), (0, u "Lcom/example/grenze/grenze/lock/LockKind;"), (2, u "RECORD"), (2, u "GAP"), (0, .fieldref 1 14), (0, .nameAndType 15 6), (0, u "INSERT_INTENTION"), (2, u "$VALUES"), (0, u "[Lcom/example/grenze/grenze/lock/LockKind;"), (6, .class_ 28), (1, u "java/lang/Enum"), (8, u "locksRecord"), (0, u "Z"), (2, u "locksGap"), (2, u "suffix"), (0, u "Ljava/lang/String;"), (27, u "covers"), (0, u "(Lcom/example/grenze/grenze/lock/LockKind;)Z")] 7

def k6c0 : Code := { maxStack := 2, maxLocals := 2, code := prog_71_method_6_code, exceptionTable := #[], attributes := #[] }
def k6m0 : Method := { name := "covers", desc := "(Lcom/example/grenze/grenze/lock/LockKind;)Z", sig := { parameters := [(.object "com/example/grenze/grenze/lock/LockKind")], returnType := some .boolean }, accessFlags := 0, code := some k6c0 }
/-- com/example/grenze/grenze/lock/LockKind -/
def k6 : Class := { plain "com/example/grenze/grenze/lock/LockKind" (some 5) with
  accessFlags := 16433
  interfaces := #[]
  cf := some (fileOf pool6 1 #[] #[{ accessFlags := 0, nameIndex := 73, descriptorIndex := 74, attributes := #[] }] 16433 26 #[] #[{ accessFlags := 16409, nameIndex := 5, descriptorIndex := 6, attributes := #[] }, { accessFlags := 16409, nameIndex := 9, descriptorIndex := 6, attributes := #[] }, { accessFlags := 16409, nameIndex := 12, descriptorIndex := 6, attributes := #[] }, { accessFlags := 16409, nameIndex := 15, descriptorIndex := 6, attributes := #[] }, { accessFlags := 18, nameIndex := 37, descriptorIndex := 38, attributes := #[] }, { accessFlags := 18, nameIndex := 41, descriptorIndex := 38, attributes := #[] }, { accessFlags := 18, nameIndex := 44, descriptorIndex := 45, attributes := #[] }, { accessFlags := 4122, nameIndex := 18, descriptorIndex := 19, attributes := #[] }])
  fields := #[{ name := "NEXT_KEY", type := (.object "com/example/grenze/grenze/lock/LockKind"), accessFlags := 16409, slot := 0, constantValue := 0 }, { name := "RECORD", type := (.object "com/example/grenze/grenze/lock/LockKind"), accessFlags := 16409, slot := 1, constantValue := 0 }, { name := "GAP", type := (.object "com/example/grenze/grenze/lock/LockKind"), accessFlags := 16409, slot := 2, constantValue := 0 }, { name := "INSERT_INTENTION", type := (.object "com/example/grenze/grenze/lock/LockKind"), accessFlags := 16409, slot := 3, constantValue := 0 }, { name := "locksRecord", type := .boolean, accessFlags := 18, slot := 3, constantValue := 0 }, { name := "locksGap", type := .boolean, accessFlags := 18, slot := 4, constantValue := 0 }, { name := "suffix", type := (.object "java/lang/String"), accessFlags := 18, slot := 5, constantValue := 0 }, { name := "$VALUES", type := (.array (.object "com/example/grenze/grenze/lock/LockKind")), accessFlags := 4122, slot := 4, constantValue := 0 }]
  methods := #[k6m0]
  instanceTypes := #[(.object "java/lang/String"), .int, .int, .boolean, .boolean, (.object "java/lang/String")]
  staticTypes := #[(.object "com/example/grenze/grenze/lock/LockKind"), (.object "com/example/grenze/grenze/lock/LockKind"), (.object "com/example/grenze/grenze/lock/LockKind"), (.object "com/example/grenze/grenze/lock/LockKind"), (.array (.object "com/example/grenze/grenze/lock/LockKind"))]
  resolved := Array.replicate 82 none
  statics := some 0 }

def pool7 : Array CpInfo := pool [(1, u "java/lang/Cloneable"), (0, .class_ 1), (0, u "java/lang/Object"), (0, .class_ 3)] 3

/-- java/lang/Cloneable -/
def k7 : Class := { plain "java/lang/Cloneable" (some 0) with
  accessFlags := 1537
  interfaces := #[]
  cf := some (fileOf pool7 2 #[] #[] 1537 4 #[] #[])
  fields := #[]
  methods := #[]
  instanceTypes := #[]
  staticTypes := #[]
  resolved := Array.replicate 8 none
  statics := none }

/-- the primitive boolean -/
def k8 : Class := { plain "boolean" none with kind := .primitive 'Z', accessFlags := 0x411 }
/-- [Z -/
def k9 : Class := { plain "[Z" (some 0) with kind := .array 8 .boolean, interfaces := #[7, 4], accessFlags := 1041 }

/-- the primitive byte -/
def k10 : Class := { plain "byte" none with kind := .primitive 'B', accessFlags := 0x411 }
/-- [B -/
def k11 : Class := { plain "[B" (some 0) with kind := .array 10 .byte, interfaces := #[7, 4], accessFlags := 1041 }

/-- the primitive int -/
def k12 : Class := { plain "int" none with kind := .primitive 'I', accessFlags := 0x411 }
/-- [I -/
def k13 : Class := { plain "[I" (some 0) with kind := .array 12 .int, interfaces := #[7, 4], accessFlags := 1041 }

def heap : Heap := #[{ cls := 6, slots := #[.ref 1, .ref 2, .ref 3, .ref 4, .null], vm := .statics 6 },
  { cls := 6, slots := #[.null, .int 0, .int 0, .int 0, .int 0, .null], vm := .none },
  { cls := 6, slots := #[.null, .int 1, .int 0, .int 0, .int 0, .null], vm := .none },
  { cls := 6, slots := #[.null, .int 2, .int 0, .int 0, .int 0, .null], vm := .none },
  { cls := 6, slots := #[.null, .int 3, .int 0, .int 0, .int 0, .null], vm := .none }]
def classes : Array Class := #[k0, k1, k2, k3, k4, k5, k6, k7, k8, k9, k10, k11, k12, k13]
def interned : List (Array UInt16 × Addr) := []
def slotsUsed : Nat := 29
def theMethod : MethodId := ⟨1, 2⟩
def args0 : Array Value := #[.int 5, .int 2]
def aboutOver (below : List Frame) : State where
  vm := { classes := classes, interned := interned.toArray }
  heap := heap
  slotsUsed := slotsUsed
  threads := #[{ frames := .invoking theMethod args0 :: below }]
def below0 : List Frame := [.native { method := ⟨0, 0⟩, args := #[] }]
def about1 : State := aboutOver below0
def p0 : Program := .bare "" "" ""
def e0 : Env := launch0.env 0 0 0
theorem w_frames : about1.frames = Frame.invoking theMethod args0 :: below0 := rfl
set_option maxRecDepth 65536 in
theorem w_args : argsFit about1.vm theMethod args0 = true := by decide +kernel
set_option maxRecDepth 65536 in
theorem w_heap : heapFits about1 = true := by decide +kernel
set_option maxRecDepth 65536 in
theorem w_runnable : about1.curStatus? = some .runnable := by decide +kernel
set_option maxRecDepth 65536 in
theorem w_alone : about1.alone = true := by decide +kernel
set_option maxRecDepth 65536 in
theorem w_named : about1.methodNamed? x = some theMethod := by decide +kernel
set_option maxRecDepth 65536 in
theorem w_hears : about1.hears theMethod below0 = true := by decide +kernel
set_option maxRecDepth 65536 in
theorem w_ripe : about1.ripe theMethod args0 below0 = true := by decide +kernel
theorem w_running : about1.status = .running := rfl
set_option maxRecDepth 65536 in
theorem w_room : about1.hasRoom e0.platform room_1 = true :=
  launch0.hasRoom_least _ room_1 (by decide +kernel) (by decide +kernel) (by decide +kernel) (by decide +kernel) (by decide +kernel) (by decide +kernel)
theorem allAtoms_all (ts : List Jvm.Cond) (a : Array Jvm.Value) (st : Jvm.State) : (allAtoms ts).before a st = ts.all (fun c => c.before a st) := by
  induction ts with
  | nil => rfl
  | cons c t ih =>
    show (Jvm.Cond.and c (allAtoms t)).before a st = _
    rw [Jvm.Cond.before_and, ih, List.all_cons]
def words1 : List Jvm.Cond := Jvm.Cond.code x code maxLocals ret :: tables_1
/-- a 'code' word, met by the world's own term for the bytes: nothing is compared byte by byte -/
theorem code_word {y : MethodName} {bytes : ByteArray} {mx : Nat} {rt : Option FieldType} {a : Array Value} {s : State} {m : MethodId} {meth : Method} {c : Code} (h1 : s.methodNamed? y = some m) (h2 : s.vm.method? m = some meth) (h3 : meth.code = some c) (h4 : c.code = bytes)
    (h5 : (c.maxLocals == mx && c.exceptionTable.isEmpty && decide (c.maxStack ≤ mostOperands) && decide (meth.sig.returnType = rt) && !meth.locks && decide (parseMethodDescriptor y.desc = some meth.sig)) = true) : (Jvm.Cond.code y bytes mx rt).before a s = true := by
  simp only [Bool.and_eq_true, beq_iff_eq, Bool.not_eq_true', decide_eq_true_eq] at h5
  obtain ⟨⟨⟨⟨⟨g1, g2⟩, g3⟩, g4⟩, g5⟩, g6⟩ := h5
  simp [Cond.before, Cond.holds, Cond.value, h1, h2, h3, h4, g1, g2, g3, g4, g5, g6]
def isCode : Jvm.Cond → Bool
  | .code _ _ _ _ => true
  | _ => false
theorem all_split {L : List Jvm.Cond} {P : Jvm.Cond → Bool} (h1 : L.all (fun c => isCode c || P c) = true) (h2 : ∀ c ∈ L.filter isCode, P c = true) : L.all P = true := by
  refine List.all_eq_true.mpr fun c hc => ?_
  have h := List.all_eq_true.mp h1 c hc
  rcases Bool.eq_false_or_eq_true (isCode c) with hi | hi
  · exact h2 c (List.mem_filter.mpr ⟨hc, hi⟩)
  · simpa [hi] using h
set_option maxRecDepth 65536 in
theorem w_c0 : (Jvm.Cond.code x code maxLocals ret).before args0 about1 = true := code_word (m := ⟨1, 2⟩) (meth := k1m2) (c := k1c2) (by decide +kernel) rfl rfl rfl (by decide +kernel)
set_option maxRecDepth 65536 in
theorem w_c1 : (Jvm.Cond.code ({ cls := "com/example/grenze/grenze/lock/LockKindCoversPinLaw", name := "kindOf", desc := "(I)Lcom/example/grenze/grenze/lock/LockKind;" } : Jvm.MethodName) method_2_code (1 : Nat) (Option.some (Jvm.ClassFile.FieldType.object "com/example/grenze/grenze/lock/LockKind"))).before args0 about1 = true := code_word (m := ⟨1, 1⟩) (meth := k1m1) (c := k1c1) (by decide +kernel) rfl rfl rfl (by decide +kernel)
set_option maxRecDepth 65536 in
theorem w_c2 : (Jvm.Cond.code ({ cls := "com/example/grenze/grenze/lock/LockKind", name := "covers", desc := "(Lcom/example/grenze/grenze/lock/LockKind;)Z" } : Jvm.MethodName) prog_71_method_6_code (2 : Nat) (Option.some Jvm.ClassFile.FieldType.boolean)).before args0 about1 = true := code_word (m := ⟨6, 0⟩) (meth := k6m0) (c := k6c0) (by decide +kernel) rfl rfl rfl (by decide +kernel)
def codes1 : List Jvm.Cond := [Jvm.Cond.code x code maxLocals ret, Jvm.Cond.code ({ cls := "com/example/grenze/grenze/lock/LockKindCoversPinLaw", name := "kindOf", desc := "(I)Lcom/example/grenze/grenze/lock/LockKind;" } : Jvm.MethodName) method_2_code (1 : Nat) (Option.some (Jvm.ClassFile.FieldType.object "com/example/grenze/grenze/lock/LockKind")), Jvm.Cond.code ({ cls := "com/example/grenze/grenze/lock/LockKind", name := "covers", desc := "(Lcom/example/grenze/grenze/lock/LockKind;)Z" } : Jvm.MethodName) prog_71_method_6_code (2 : Nat) (Option.some Jvm.ClassFile.FieldType.boolean)]
set_option maxRecDepth 65536 in
theorem codes_eq : words1.filter isCode = codes1 := rfl
theorem w_codes : ∀ c ∈ words1.filter isCode, c.before args0 about1 = true := by
  rw [codes_eq]
  intro c hc
  simp only [codes1, List.mem_cons, List.not_mem_nil, or_false] at hc
  rcases hc with rfl | rfl | rfl
  · exact w_c0
  · exact w_c1
  · exact w_c2
set_option maxRecDepth 65536 in
theorem w_t1 : words1.all (fun c => isCode c || c.before args0 about1) = true := by decide +kernel
theorem w_tables : (allAtoms (Jvm.Cond.code x code maxLocals ret :: tables_1)).before args0 about1 = true := by
  rw [allAtoms_all]
  show words1.all (fun c => c.before args0 about1) = true
  refine all_split ?_ w_codes
  rw [w_t1]
set_option maxRecDepth 65536 in
theorem w_case : (Jvm.Cond.and given_1 narrow_1).before args0 about1 = true := by decide +kernel
theorem w_applies : (headSpec (Jvm.Cond.code x code maxLocals ret :: tables_1) room_1).applies x e0.platform about1 = true :=
  (Spec.applies_iff w_frames).mpr ⟨w_running, w_runnable, w_alone, w_named, w_hears, w_ripe, w_room, w_tables⟩
theorem atStart : AtStart classFile x code maxLocals ret World_1 tables_1 room_1 Calls_1 rest_1 Pre_1 launch0 p0 e0 about1 theMethod args0 below0 :=
  ⟨lists_1, trivial, launch0.admits_env _ _ _, launch0.least_env, fairChoices_fair.cas, fairChoices_fair.clock, w_frames, w_args, w_heap, w_applies, trivial, trivial, w_case⟩
end start1
theorem witness_1 : WitnessClaimed_1 := ⟨start1.p0, start1.e0, start1.about1, start1.theMethod, start1.args0, start1.below0, start1.atStart⟩
end Jvm.Pilot.@@N@@
