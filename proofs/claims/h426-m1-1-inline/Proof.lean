import JvmDerived
import JvmDerived.Pilot.@@N@@Statement
import JvmDerived.Pilot.@@N@@Code
set_option linter.unusedVariables false
set_option linter.unusedSimpArgs false
namespace Jvm.Pilot.@@N@@
open Jvm Jvm.ClassFile Sem Op Lib Jvm.Free Jvm.Stand Jvm.LawKit Jvm.RoadKit Bundle Jvm.Pilot.@@N@@.Jvm.D
section OwnKit
variable {p : Program} {l : Launch} {e : Env} {R : Room} {s : State} {m : MethodId} {args : Array Value} {below : List Frame} {meth : Method} {c : Code} {T : State} {locs : List Loc} {cells slots : Nat} {Z : State} {a0 : Array Value} {h h' h0 : Heap}
/-- the run comes, from the frame g over T, to an end of which F holds -/
def own_Go (tb : Tables) (e : Env) (below : List Frame) (F : State → Outcome → Prop) (T : State) (g : JFrame) : Prop := ∃ s₂ o, Steps tb e below (T.setTop g) s₂ ∧ F s₂ o
theorem own_st {tb : Tables} {F : State → Outcome → Prop} {T' : State} {g g' : JFrame} (st : ∀ t, Steps tb e below (T'.setTop g') t → Steps tb e below (T.setTop g) t) (k : own_Go tb e below F T' g') : own_Go tb e below F T g := by
  obtain ⟨a, o, h1, h2⟩ := k
  exact ⟨a, o, st a h1, h2⟩
/-- the end that a contract asks -/
def own_F (below : List Frame) (s : State) (Q : Option Value → Heap → List Loc → Prop) (C S : Nat) : State → Outcome → Prop := fun s₂ o => s₂.status = .running ∧ Ended s₂ below o ∧ ∃ v L, o = .returned v ∧ Q v s₂.heap L ∧ FrameEnd s o s₂ L C S
/-- what a body's walk knows of the body -/
def own_In (p : Program) (s : State) (m : MethodId) (meth : Method) (c : Code) (Z : State) (bytes : ByteArray) (maxL : Nat) (own nm : String) (ret : Option FieldType) : Prop := p.tables.exec = Jvm.exec ∧ c.code = bytes ∧ c.maxLocals = maxL ∧ s.vm.findClass own = some m.cls ∧ meth.name = nm ∧ meth.sig.returnType = ret ∧ meth.locks = false ∧ Z.Warmed39 s.vm
theorem own_enter {y : MethodName} {bytes : ByteArray} {maxL : Nat} {ret : Option FieldType} {ws : List Jvm.Cond} {rm : Room} {as' : Array Value} {Q : Option Value → Heap → List Loc → Prop} {C S : Nat} (hp : plainFor y = true)
    (body : ∀ (p : Program) (e : Env) (s : State) (m : MethodId) (below : List Frame) (meth : Method) (c : Code) (T : State), Stand p l e rm s m as' below meth c T [] 0 0 → own_In p s m meth c Z bytes maxL y.cls y.name ret → T.heap = h0 → own_Go p.tables e below (own_F below s Q C S) T (entryFrame m as' maxL)) :
    MetFree l y (head1 (Jvm.Cond.code y bytes maxL ret :: ws) rm) (fun a U => a = as' ∧ Z.Warmed39 U.vm ∧ U.heap = h0) (fun _ _ _ _ _ => True) (fun _ U o U' => ∃ v L, o = .returned v ∧ Q v U'.heap L ∧ FrameEnd U o U' L C S) := by
  refine MetFree.of_bodySF hp hisR ?_
  intro p e s m args below meth c s₁ Bd hml0 hP hK
  obtain ⟨rfl, hZ, hh⟩ := hP
  exact body p e s m below meth c s₁ (Stand.of_body Bd) ⟨Bd.exec, Bd.bytes, hml0, findClass_of_methodNamed Bd.named, (name_of_methodNamed Bd.named Bd.method).1, Bd.returns, Bd.notSynchronized, hZ⟩ (by rw [← hh, Bd.state]; rfl)
theorem own_cast {tb : Tables} {F : State → Outcome → Prop} {g g' : JFrame} (q : g = g') (k : own_Go tb e below F T g') : own_Go tb e below F T g := q ▸ k
/-- the end of a walk: a boolean, byte, char or short -/
theorem own_retN (X : Stand p l e R s m args below meth c T locs cells slots) (hx : p.tables.exec = Jvm.exec) {t : FieldType} (hret : meth.sig.returnType = some t) (ht : t = .boolean ∨ t = .byte ∨ t = .char ∨ t = .short) (hlk : meth.locks = false) {pc : Nat} {Ls : Array Slot} {z : Int32} {rest : List Value}
    (hd : decode c.code pc = .ok (.ireturn, 1)) {Q : Option Value → Heap → List Loc → Prop} {C S : Nat} (hQ : Q (some (.int (nar t z))) T.heap locs) (hC : cells ≤ C) (hS : slots ≤ S) : own_Go p.tables e below (own_F below s Q C S) T (mkF m pc Ls (.int z :: rest)) := by
  obtain ⟨fs, hr, hrun, hended, hW, hsame⟩ := X.leave (v := some (.int (nar t z))) (fun q => by rw [hret] at q; cases q)
  exact ⟨_, _, retN X hx hret ht hd hr, hrun, hended, _, _, rfl, hQ, ⟨_, rfl⟩, hW, hsame.mono hC hS⟩
theorem own_retO (X : Stand p l e R s m args below meth c T locs cells slots) (hx : p.tables.exec = Jvm.exec) {t : FieldType} (hret : meth.sig.returnType = some t) (hlk : meth.locks = false) {pc : Nat} {Ls : Array Slot} {w : Value} {i : Instr} {rest : List Value} (hn : narrow t w = w)
    (hi : (i = .ireturn ∧ (t = .int ∨ t = .boolean ∨ t = .byte ∨ t = .char ∨ t = .short) ∧ ∃ z, w = .int z) ∨ (i = .lreturn ∧ t = .long ∧ ∃ z, w = .long z) ∨ (i = .dreturn ∧ t = .double ∧ ∃ z, w = .double z) ∨ (i = .freturn ∧ t = .float ∧ ∃ z, w = .float z) ∨ (i = .areturn ∧ t.isReference = true ∧ w.isRef = true))
    (hd : decode c.code pc = .ok (i, 1)) {Q : Option Value → Heap → List Loc → Prop} {C S : Nat} (hQ : Q (some w) T.heap locs) (hC : cells ≤ C) (hS : slots ≤ S) : own_Go p.tables e below (own_F below s Q C S) T (mkF m pc Ls (w :: rest)) := by
  obtain ⟨fs, hr, hrun, hended, hW, hsame⟩ := X.leave (v := some w) (fun q => by rw [hret] at q; cases q)
  exact ⟨_, _, retOut X hx hret hn hi hd hr, hrun, hended, _, _, rfl, hQ, ⟨_, rfl⟩, hW, hsame.mono hC hS⟩
/-- a reference -/
theorem own_retA (X : Stand p l e R s m args below meth c T locs cells slots) (hx : p.tables.exec = Jvm.exec) {t : FieldType} (hret : meth.sig.returnType = some t) (ht : t.isReference = true) (hlk : meth.locks = false) {pc : Nat} {Ls : Array Slot} {w : Value} {rest : List Value} (hw : w.isRef = true)
    (hd : decode c.code pc = .ok (.areturn, 1)) {Q : Option Value → Heap → List Loc → Prop} {C S : Nat} (hQ : Q (some w) T.heap locs) (hC : cells ≤ C) (hS : slots ≤ S) : own_Go p.tables e below (own_F below s Q C S) T (mkF m pc Ls (w :: rest)) := by
  refine own_retO X hx hret hlk ?_ (Or.inr (Or.inr (Or.inr (Or.inr ⟨rfl, ht, hw⟩)))) hd hQ hC hS
  rcases ref_cases hw with rfl | ⟨a, rfl⟩ <;> cases t <;> first | rfl | (simp [FieldType.isReference] at ht)
/-- an int -/
theorem own_retI (X : Stand p l e R s m args below meth c T locs cells slots) (hx : p.tables.exec = Jvm.exec) (hret : meth.sig.returnType = some .int) (hlk : meth.locks = false) {pc : Nat} {Ls : Array Slot} {z : Int32} {rest : List Value}
    (hd : decode c.code pc = .ok (.ireturn, 1)) {Q : Option Value → Heap → List Loc → Prop} {C S : Nat} (hQ : Q (some (.int z)) T.heap locs) (hC : cells ≤ C) (hS : slots ≤ S) : own_Go p.tables e below (own_F below s Q C S) T (mkF m pc Ls (.int z :: rest)) :=
  own_retO X hx hret hlk rfl (Or.inl ⟨rfl, Or.inl rfl, z, rfl⟩) hd hQ hC hS
/-- nothing -/
theorem own_retV (X : Stand p l e R s m args below meth c T locs cells slots) (hx : p.tables.exec = Jvm.exec) (hret : meth.sig.returnType = none) (hlk : meth.locks = false) {pc : Nat} {Ls : Array Slot}
    (hd : decode c.code pc = .ok (.return_, 1)) {Q : Option Value → Heap → List Loc → Prop} {C S : Nat} (hQ : Q none T.heap locs) (hC : cells ≤ C) (hS : slots ≤ S) : own_Go p.tables e below (own_F below s Q C S) T (mkF m pc Ls []) := by
  obtain ⟨fs, hr, hrun, hended, hW, hsame⟩ := X.leave (v := none) (fun _ => rfl)
  exact ⟨_, _, X.returnOut hx hret hd hr, hrun, hended, _, _, rfl, hQ, ⟨_, rfl⟩, hW, hsame.mono hC hS⟩
/-- calls, each by its callee's contract -/
theorem own_callS (X : Stand p l e R s m args below meth c T locs cells slots) (hx : p.tables.exec = Jvm.exec) (hZ : Z.Warmed39 s.vm) {own : String} {index : Nat} {y : MethodName} {bytes : ByteArray} {maxL : Nat} {ret : Option FieldType} (hown : s.vm.findClass own = some m.cls)
    (w1 : (Jvm.Cond.methodLink own index y).before a0 Z = true) (w2 : (Jvm.Cond.static y).before a0 Z = true) (w3 : (Jvm.Cond.initialized y.cls).before a0 Z = true) (w4 : (Jvm.Cond.code y bytes maxL ret).before a0 Z = true) (hy : y.cls ≠ "java/lang/invoke/MethodHandle" ∧ y.cls ≠ "java/lang/invoke/VarHandle")
    {rm : Room} {as' : Array Value} {Q : Option Value → Heap → List Loc → Prop} (hM : MetFree l y (head1 [Jvm.Cond.code y bytes maxL ret] rm) (fun a U => a = as' ∧ Z.Warmed39 U.vm ∧ U.heap = h) (fun _ _ _ _ _ => True) (fun _ U o U' => ∃ v L, o = .returned v ∧ Q v U'.heap L ∧ FrameEnd U o U' L rm.cells rm.slots))
    (eT : T.heap = h) {g : JFrame} (hg : g.method = m) (hsize : g.locals.size = c.maxLocals) {argsL rest : List Value} (hlen : ∀ sig, parseMethodDescriptor y.desc = some sig → argsL.length = sig.parameters.length) (hstack : g.stack = argsL.reverse ++ rest) (has : argsL.toArray = as') {W : Nat} (hW : 2 * g.monitorRoom + (rest.map fun v => v.category).sum ≤ W)
    (hd : decode c.code g.pc = .ok (.invokestatic index, 3)) (hf : rm.frames + 1 ≤ R.frames) (hl : W + (maxL + 11) + rm.locals ≤ R.locals) (hc : cells + rm.cells ≤ R.cells) (hs : slots + rm.slots ≤ R.slots) :
    ∃ v T' L, Q v T'.heap L ∧ Stand p l e R s m args below meth c T' (locs ++ L) (cells + rm.cells) (slots + rm.slots) ∧ ∀ t, Steps p.tables e below (T'.setTop { g with pc := g.pc + 3, stack := v.toList ++ rest }) t → Steps p.tables e below (T.setTop g) t := by
  obtain ⟨v, vm₁, ⟨T', L', k', n'⟩, -, X', ⟨L, hQ, l1, y1, z1⟩, st⟩ := Jvm.LawKit.callS X hx (y := y) hown (mvT hZ w1) (mvT hZ w2) (mvT hZ w3) (mvT hZ w4) hy (backOf (W := W) hM hZ w4 w3 hf hl) hg hsize (argsL := argsL) (rest := rest) hlen hstack hW hd (fun _ _ => ⟨has, eT, hc, hs⟩)
  dsimp only [Pt.U, Pt.locs, Pt.cells, Pt.slots] at X' l1 y1 z1 st hQ
  subst l1 y1 z1
  exact ⟨v, T', L, hQ, X', st⟩
theorem own_callI (X : Stand p l e R s m args below meth c T locs cells slots) (hx : p.tables.exec = Jvm.exec) (hZ : Z.Warmed39 s.vm) {own : String} {index : Nat} {y : MethodName} {bytes : ByteArray} {maxL : Nat} (hn : y.name = "<init>") (hown : s.vm.findClass own = some m.cls)
    (w1 : (Jvm.Cond.methodLink own index y).before a0 Z = true) (w2 : (Jvm.Cond.instanceMethod y).before a0 Z = true) (w3 : (Jvm.Cond.initialized y.cls).before a0 Z = true) (w4 : (Jvm.Cond.code y bytes maxL none).before a0 Z = true) (hy : y.cls ≠ "java/lang/invoke/MethodHandle" ∧ y.cls ≠ "java/lang/invoke/VarHandle")
    {rm : Room} {as' : Array Value} {Q : Option Value → Heap → List Loc → Prop} (hM : MetFree l y (head1 [Jvm.Cond.code y bytes maxL none] rm) (fun a U => a = as' ∧ Z.Warmed39 U.vm ∧ U.heap = h) (fun _ _ _ _ _ => True) (fun _ U o U' => ∃ v L, o = .returned v ∧ Q v U'.heap L ∧ FrameEnd U o U' L rm.cells rm.slots))
    (eT : T.heap = h) {g : JFrame} (hg : g.method = m) (hsize : g.locals.size = c.maxLocals) {a : Addr} {argsL rest : List Value} (hlen : ∀ sig, parseMethodDescriptor y.desc = some sig → argsL.length = sig.parameters.length) (hstack : g.stack = argsL.reverse ++ .ref a :: rest) (has : (.ref a :: argsL).toArray = as') {W : Nat} (hW : 2 * g.monitorRoom + (rest.map fun v => v.category).sum ≤ W)
    (hd : decode c.code g.pc = .ok (.invokespecial index, 3)) (hf : rm.frames + 1 ≤ R.frames) (hl : W + (maxL + 11) + rm.locals ≤ R.locals) (hc : cells + rm.cells ≤ R.cells) (hs : slots + rm.slots ≤ R.slots) :
    ∃ v T' L, Q v T'.heap L ∧ Stand p l e R s m args below meth c T' (locs ++ L) (cells + rm.cells) (slots + rm.slots) ∧ ∀ t, Steps p.tables e below (T'.setTop { g with pc := g.pc + 3, stack := v.toList ++ rest }) t → Steps p.tables e below (T.setTop g) t := by
  obtain ⟨v, vm₁, ⟨T', L', k', n'⟩, -, X', ⟨L, hQ, l1, y1, z1⟩, st⟩ := X.specialBack hx (y := y) hn hown (mvT hZ w1) (mvT hZ w2) (mvT hZ w4) hy (backOf (W := W) hM hZ w4 w3 hf hl) hg hsize (Steps.refl _) (a := a) (argsL := argsL) (rest := rest) hlen hstack hW hd (fun _ _ => ⟨has, eT, hc, hs⟩)
  dsimp only [Pt.U, Pt.locs, Pt.cells, Pt.slots] at X' l1 y1 z1 st hQ
  subst l1 y1 z1
  exact ⟨v, T', L, hQ, X', fun t k => st.trans k⟩
theorem own_callV (X : Stand p l e R s m args below meth c T locs cells slots) (hx : p.tables.exec = Jvm.exec) (hZ : Z.Warmed39 s.vm) {own C : String} {index : Nat} {y : MethodName} {bytes : ByteArray} {maxL : Nat} {ret : Option FieldType} (hown : s.vm.findClass own = some m.cls)
    (w1 : (Jvm.Cond.methodLink own index y).before a0 Z = true) (w2 : (Jvm.Cond.declares y).before a0 Z = true) (w3 : (Jvm.Cond.selects C y y).before a0 Z = true) (w5 : (Jvm.Cond.instanceMethod y).before a0 Z = true) (w6 : (Jvm.Cond.initialized y.cls).before a0 Z = true) (w4 : (Jvm.Cond.code y bytes maxL ret).before a0 Z = true) (hy : y.cls ≠ "java/lang/invoke/MethodHandle" ∧ y.cls ≠ "java/lang/invoke/VarHandle")
    {rm : Room} {as' : Array Value} {Q : Option Value → Heap → List Loc → Prop} (hM : MetFree l y (head1 [Jvm.Cond.code y bytes maxL ret] rm) (fun a U => a = as' ∧ Z.Warmed39 U.vm ∧ U.heap = h) (fun _ _ _ _ _ => True) (fun _ U o U' => ∃ v L, o = .returned v ∧ Q v U'.heap L ∧ FrameEnd U o U' L rm.cells rm.slots))
    (eT : T.heap = h) {a : Addr} (E : Exa Z h a C) {g : JFrame} (hg : g.method = m) (hsize : g.locals.size = c.maxLocals) {argsL rest : List Value} (hlen : ∀ sig, parseMethodDescriptor y.desc = some sig → argsL.length = sig.parameters.length) (hstack : g.stack = argsL.reverse ++ .ref a :: rest) (has : (.ref a :: argsL).toArray = as') {W : Nat} (hW : 2 * g.monitorRoom + (rest.map fun v => v.category).sum ≤ W)
    (hd : decode c.code g.pc = .ok (.invokevirtual index, 3)) (hf : rm.frames + 1 ≤ R.frames) (hl : W + (maxL + 11) + rm.locals ≤ R.locals) (hc : cells + rm.cells ≤ R.cells) (hs : slots + rm.slots ≤ R.slots) :
    ∃ v T' L, Q v T'.heap L ∧ Stand p l e R s m args below meth c T' (locs ++ L) (cells + rm.cells) (slots + rm.slots) ∧ ∀ t, Steps p.tables e below (T'.setTop { g with pc := g.pc + 3, stack := v.toList ++ rest }) t → Steps p.tables e below (T.setTop g) t := by
  obtain ⟨cq, kq, qa, qb, qc⟩ := isOf hZ eT E
  obtain ⟨v, vm₁, ⟨T', L', k', n'⟩, -, X', ⟨L, hQ, l1, y1, z1⟩, st⟩ := X.virtualBack hx (y := y) (z := y) hown (mvT hZ w1) (mvT hZ w2) (notFace_of_selects (args := #[]) (mvT hZ w3)) (mvT hZ w3) (mvT hZ w5) hy (backOf (W := W) hM hZ w4 w6 hf hl) qa qc hg hsize (Steps.refl _) (argsL := argsL) (rest := rest) hlen hstack hW hd (fun _ _ => ⟨has, eT, hc, hs⟩)
  dsimp only [Pt.U, Pt.locs, Pt.cells, Pt.slots] at X' l1 y1 z1 st hQ
  subst l1 y1 z1
  exact ⟨v, T', L, hQ, X', fun t k => st.trans k⟩
/-- a method that a class above declares -/
theorem own_callU (X : Stand p l e R s m args below meth c T locs cells slots) (hx : p.tables.exec = Jvm.exec) (hZ : Z.Warmed39 s.vm) {own C owner : String} {index : Nat} {x y : MethodName} {bytes : ByteArray} {maxL : Nat} {ret : Option FieldType} (hown : s.vm.findClass own = some m.cls)
    (w1 : (Jvm.Cond.methodLink own index x).before a0 Z = true) (w0 : (Jvm.Cond.sameMethod x.cls owner x.name x.desc).before a0 Z = true) (w2 : (Jvm.Cond.declares ⟨owner, x.name, x.desc⟩).before a0 Z = true) (hy : owner ≠ "java/lang/invoke/MethodHandle" ∧ owner ≠ "java/lang/invoke/VarHandle") (w3 : (Jvm.Cond.selects C x y).before a0 Z = true) (w5 : (Jvm.Cond.instanceMethod y).before a0 Z = true) (w6 : (Jvm.Cond.initialized y.cls).before a0 Z = true) (w4 : (Jvm.Cond.code y bytes maxL ret).before a0 Z = true)
    {rm : Room} {as' : Array Value} {Q : Option Value → Heap → List Loc → Prop} (hM : MetFree l y (head1 [Jvm.Cond.code y bytes maxL ret] rm) (fun a U => a = as' ∧ Z.Warmed39 U.vm ∧ U.heap = h) (fun _ _ _ _ _ => True) (fun _ U o U' => ∃ v L, o = .returned v ∧ Q v U'.heap L ∧ FrameEnd U o U' L rm.cells rm.slots))
    (eT : T.heap = h) {a : Addr} (E : Exa Z h a C) {g : JFrame} (hg : g.method = m) (hsize : g.locals.size = c.maxLocals) {argsL rest : List Value} (hlen : ∀ sig, parseMethodDescriptor x.desc = some sig → argsL.length = sig.parameters.length) (hstack : g.stack = argsL.reverse ++ .ref a :: rest) (has : (.ref a :: argsL).toArray = as') {W : Nat} (hW : 2 * g.monitorRoom + (rest.map fun v => v.category).sum ≤ W)
    (hd : decode c.code g.pc = .ok (.invokevirtual index, 3)) (hf : rm.frames + 1 ≤ R.frames) (hl : W + (maxL + 11) + rm.locals ≤ R.locals) (hc : cells + rm.cells ≤ R.cells) (hs : slots + rm.slots ≤ R.slots) :
    ∃ v T' L, Q v T'.heap L ∧ Stand p l e R s m args below meth c T' (locs ++ L) (cells + rm.cells) (slots + rm.slots) ∧ ∀ t, Steps p.tables e below (T'.setTop { g with pc := g.pc + 3, stack := v.toList ++ rest }) t → Steps p.tables e below (T.setTop g) t := by
  obtain ⟨cq, kq, qa, qb, qc⟩ := isOf hZ eT E
  obtain ⟨v, vm₁, ⟨T', L', k', n'⟩, -, X', ⟨L, hQ, l1, y1, z1⟩, st⟩ := X.virtualBackUp hx (x := x) (y := y) hown (mvT hZ w1) (mvT hZ w0) (mvT hZ w2) hy (mvT hZ w3) (mvT hZ w5) (backOf (W := W) hM hZ w4 w6 hf hl) qa qc hg hsize (Steps.refl _) (argsL := argsL) (rest := rest) hlen hstack hW hd (fun _ _ => ⟨has, eT, hc, hs⟩)
  dsimp only [Pt.U, Pt.locs, Pt.cells, Pt.slots] at X' l1 y1 z1 st hQ
  subst l1 y1 z1
  exact ⟨v, T', L, hQ, X', fun t k => st.trans k⟩
/-- heaps -/
theorem own_extr (h : Heap) : Ext h h := ⟨Nat.le_refl _, fun _ _ q => q⟩
theorem own_extt (O : Ext h0 h) (E : Ext h h') : Ext h0 h' := ⟨Nat.le_trans O.1 E.1, fun a c q => E.2 a c (O.2 a c q)⟩
theorem own_extw (O : Ext h0 h) {a : Addr} {sl : Nat} {v : Value} (W : Wr h h' a sl v) (q : h0.size ≤ a) : Ext h0 h' :=
  ⟨Nat.le_trans O.1 (Keep.of_wr W).1, fun x c r => (Keep.of_wr W).2.1 x c (O.2 x c r) (fun z => by cases List.mem_singleton.mp z; exact absurd (Array.getElem?_eq_some_iff.mp r).1 (Nat.not_lt.mpr q))⟩
theorem own_extk (O : Ext h0 h) {a : Addr} (K : Keep h h' [a]) (q : h0.size ≤ a) : Ext h0 h' :=
  ⟨Nat.le_trans O.1 K.1, fun x c r => K.2.1 x c (O.2 x c r) (fun z => by cases List.mem_singleton.mp z; exact absurd (Array.getElem?_eq_some_iff.mp r).1 (Nat.not_lt.mpr q))⟩
/-- arrays: a store and a load by the array's fact -/
theorem own_stZ (X : Stand p l e R s m args below meth c T locs cells slots) (hx : p.tables.exec = Jvm.exec) (hZ : Z.Warmed39 s.vm) (eT : T.heap = h) {a : Addr} {k : ClassId} {n : Int32} {vs : List Value} {dv : Value} (V : Arv Z h a k .boolean n vs dv) {j x : Int32} (hj : ¬ j < 0 ∧ j < n) (i : Nat) (hi : j.toNatClampNeg = i) (hil : i < vs.length) {g : JFrame} (hg : g.method = m) {rest : List Value} (hs : g.stack = .int x :: .int j :: .ref a :: rest) (hd : decode c.code g.pc = .ok (.bastore, 1)) :
    ∃ T' h', Stand p l e R s m args below meth c T' (locs ++ [⟨a, j.toNatClampNeg⟩]) cells slots ∧ T'.heap = h' ∧ Wr h h' a j.toNatClampNeg (.int (nar .boolean x)) ∧ Arv Z h' a k .boolean n (vs.set i (.int (nar .boolean x))) dv ∧ ∀ t, Steps p.tables e below (T'.setTop { g with pc := g.pc + 1, stack := rest }) t → Steps p.tables e below (T.setTop g) t := by
  obtain ⟨cl, A, q1, S1, N1, H1, G1⟩ := V
  obtain ⟨T', h', X', e', W', st⟩ := stZ X hx hZ eT A (j := j) (inb_of S1 hj) hg hs hd
  exact ⟨T', h', X', e', W', Arv.set A q1 S1 N1 H1 G1 (fits_nar_bool x) W' i hi hil, st⟩
theorem own_stB (X : Stand p l e R s m args below meth c T locs cells slots) (hx : p.tables.exec = Jvm.exec) (hZ : Z.Warmed39 s.vm) (eT : T.heap = h) {a : Addr} {k : ClassId} {n : Int32} {vs : List Value} {dv : Value} (V : Arv Z h a k .byte n vs dv) {j x : Int32} (hj : ¬ j < 0 ∧ j < n) (i : Nat) (hi : j.toNatClampNeg = i) (hil : i < vs.length) {g : JFrame} (hg : g.method = m) {rest : List Value} (hs : g.stack = .int x :: .int j :: .ref a :: rest) (hd : decode c.code g.pc = .ok (.bastore, 1)) :
    ∃ T' h', Stand p l e R s m args below meth c T' (locs ++ [⟨a, j.toNatClampNeg⟩]) cells slots ∧ T'.heap = h' ∧ Wr h h' a j.toNatClampNeg (.int (nar .byte x)) ∧ Arv Z h' a k .byte n (vs.set i (.int (nar .byte x))) dv ∧ ∀ t, Steps p.tables e below (T'.setTop { g with pc := g.pc + 1, stack := rest }) t → Steps p.tables e below (T.setTop g) t := by
  obtain ⟨cl, A, q1, S1, N1, H1, G1⟩ := V
  obtain ⟨T', h', X', e', W', st⟩ := stB X hx hZ eT A (j := j) (inb_of S1 hj) hg hs hd
  exact ⟨T', h', X', e', W', Arv.set A q1 S1 N1 H1 G1 (fits_nar_byte x) W' i hi hil, st⟩
theorem own_stI (X : Stand p l e R s m args below meth c T locs cells slots) (hx : p.tables.exec = Jvm.exec) (hZ : Z.Warmed39 s.vm) (eT : T.heap = h) {a : Addr} {k : ClassId} {n : Int32} {vs : List Value} {dv : Value} (V : Arv Z h a k .int n vs dv) {j x : Int32} (hj : ¬ j < 0 ∧ j < n) (i : Nat) (hi : j.toNatClampNeg = i) (hil : i < vs.length) {g : JFrame} (hg : g.method = m) {rest : List Value} (hs : g.stack = .int x :: .int j :: .ref a :: rest) (hd : decode c.code g.pc = .ok (.iastore, 1)) :
    ∃ T' h', Stand p l e R s m args below meth c T' (locs ++ [⟨a, j.toNatClampNeg⟩]) cells slots ∧ T'.heap = h' ∧ Wr h h' a j.toNatClampNeg (.int x) ∧ Arv Z h' a k .int n (vs.set i (.int x)) dv ∧ ∀ t, Steps p.tables e below (T'.setTop { g with pc := g.pc + 1, stack := rest }) t → Steps p.tables e below (T.setTop g) t := by
  obtain ⟨cl, A, q1, S1, N1, H1, G1⟩ := V
  obtain ⟨T', h', X', e', W', st⟩ := stI X hx hZ eT A (j := j) (inb_of S1 hj) hg hs hd
  exact ⟨T', h', X', e', W', Arv.set A q1 S1 N1 H1 G1 rfl W' i hi hil, st⟩
theorem own_stC (X : Stand p l e R s m args below meth c T locs cells slots) (hx : p.tables.exec = Jvm.exec) (hZ : Z.Warmed39 s.vm) (eT : T.heap = h) {a : Addr} {k : ClassId} {n : Int32} {vs : List Value} {dv : Value} (V : Arv Z h a k .char n vs dv) {j x : Int32} (hj : ¬ j < 0 ∧ j < n) (i : Nat) (hi : j.toNatClampNeg = i) (hil : i < vs.length) {g : JFrame} (hg : g.method = m) {rest : List Value} (hs : g.stack = .int x :: .int j :: .ref a :: rest) (hd : decode c.code g.pc = .ok (.castore, 1)) :
    ∃ T' h', Stand p l e R s m args below meth c T' (locs ++ [⟨a, j.toNatClampNeg⟩]) cells slots ∧ T'.heap = h' ∧ Wr h h' a j.toNatClampNeg (.int (nar .char x)) ∧ Arv Z h' a k .char n (vs.set i (.int (nar .char x))) dv ∧ ∀ t, Steps p.tables e below (T'.setTop { g with pc := g.pc + 1, stack := rest }) t → Steps p.tables e below (T.setTop g) t := by
  obtain ⟨cl, A, q1, S1, N1, H1, G1⟩ := V
  obtain ⟨T', h', X', e', W', st⟩ := stC X hx hZ eT A (j := j) (inb_of S1 hj) hg hs hd
  exact ⟨T', h', X', e', W', Arv.set A q1 S1 N1 H1 G1 (fits_nar_char x) W' i hi hil, st⟩
theorem own_stR (X : Stand p l e R s m args below meth c T locs cells slots) (hx : p.tables.exec = Jvm.exec) (hZ : Z.Warmed39 s.vm) (eT : T.heap = h) {a : Addr} {k : ClassId} {ty : FieldType} {n : Int32} {vs : List Value} {dv : Value} (V : Arv Z h a k ty n vs dv) (hty : ty.isReference = true) {j : Int32} {v : Value} (hv : fits ty v = true) (hj : ¬ j < 0 ∧ j < n) (i : Nat) (hi : j.toNatClampNeg = i) (hil : i < vs.length) (F : ∀ cl : Cell, Arr Z h a cl ty → cl.cls = k → Sto Z h a v) {g : JFrame} (hg : g.method = m) {rest : List Value} (hs : g.stack = v :: .int j :: .ref a :: rest) (hd : decode c.code g.pc = .ok (.aastore, 1)) :
    ∃ T' h', Stand p l e R s m args below meth c T' (locs ++ [⟨a, j.toNatClampNeg⟩]) cells slots ∧ T'.heap = h' ∧ Wr h h' a j.toNatClampNeg v ∧ Arv Z h' a k ty n (vs.set i v) dv ∧ ∀ t, Steps p.tables e below (T'.setTop { g with pc := g.pc + 1, stack := rest }) t → Steps p.tables e below (T.setTop g) t := by
  obtain ⟨cl, A, q1, S1, N1, H1, G1⟩ := V
  obtain ⟨T', h', X', e', W', st⟩ := stR X hx hZ eT A (j := j) (inb_of S1 hj) hty (F cl A q1) hg hs hd
  exact ⟨T', h', X', e', W', Arv.set A q1 S1 N1 H1 G1 hv W' i hi hil, st⟩
theorem own_ldZ (X : Stand p l e R s m args below meth c T locs cells slots) (hx : p.tables.exec = Jvm.exec) (hZ : Z.Warmed39 s.vm) (eT : T.heap = h) {a : Addr} {k : ClassId} {n : Int32} {vs : List Value} {dv v : Value} (V : Arv Z h a k .boolean n vs dv) {j : Int32} (hj : ¬ j < 0 ∧ j < n) (hv : vs.getD j.toNatClampNeg dv = v) {g : JFrame} (hg : g.method = m) {rest : List Value} (hs : g.stack = .int j :: .ref a :: rest) (hd : decode c.code g.pc = .ok (.baload, 1)) :
    ∀ t, Steps p.tables e below (T.setTop { g with pc := g.pc + 1, stack := v :: rest }) t → Steps p.tables e below (T.setTop g) t := by
  obtain ⟨cl, A, q1, S1, N1, H1, G1⟩ := V
  exact X.baloadBooleans hx (by rw [eT]; exact A.1) (State.isArrayOf_alike hZ.alike A.2.1) A.2.2 (inb_of S1 hj) (H1.at (inb_of S1 hj) hv) hg hs hd
theorem own_ldB (X : Stand p l e R s m args below meth c T locs cells slots) (hx : p.tables.exec = Jvm.exec) (hZ : Z.Warmed39 s.vm) (eT : T.heap = h) {a : Addr} {k : ClassId} {n : Int32} {vs : List Value} {dv v : Value} (V : Arv Z h a k .byte n vs dv) {j : Int32} (hj : ¬ j < 0 ∧ j < n) (hv : vs.getD j.toNatClampNeg dv = v) {g : JFrame} (hg : g.method = m) {rest : List Value} (hs : g.stack = .int j :: .ref a :: rest) (hd : decode c.code g.pc = .ok (.baload, 1)) :
    ∀ t, Steps p.tables e below (T.setTop { g with pc := g.pc + 1, stack := v :: rest }) t → Steps p.tables e below (T.setTop g) t := by
  obtain ⟨cl, A, q1, S1, N1, H1, G1⟩ := V
  exact X.baloadBytes hx (by rw [eT]; exact A.1) (State.isArrayOf_alike hZ.alike A.2.1) A.2.2 (inb_of S1 hj) (H1.at (inb_of S1 hj) hv) hg hs hd
theorem own_ldI (X : Stand p l e R s m args below meth c T locs cells slots) (hx : p.tables.exec = Jvm.exec) (hZ : Z.Warmed39 s.vm) (eT : T.heap = h) {a : Addr} {k : ClassId} {n : Int32} {vs : List Value} {dv v : Value} (V : Arv Z h a k .int n vs dv) {j : Int32} (hj : ¬ j < 0 ∧ j < n) (hv : vs.getD j.toNatClampNeg dv = v) {g : JFrame} (hg : g.method = m) {rest : List Value} (hs : g.stack = .int j :: .ref a :: rest) (hd : decode c.code g.pc = .ok (.iaload, 1)) :
    ∀ t, Steps p.tables e below (T.setTop { g with pc := g.pc + 1, stack := v :: rest }) t → Steps p.tables e below (T.setTop g) t := by
  obtain ⟨cl, A, q1, S1, N1, H1, G1⟩ := V
  exact X.iaload hx (by rw [eT]; exact A.1) (State.isArrayOf_alike hZ.alike A.2.1) A.2.2 (inb_of S1 hj) (H1.at (inb_of S1 hj) hv) hg hs hd
theorem own_ldC (X : Stand p l e R s m args below meth c T locs cells slots) (hx : p.tables.exec = Jvm.exec) (hZ : Z.Warmed39 s.vm) (eT : T.heap = h) {a : Addr} {k : ClassId} {n : Int32} {vs : List Value} {dv v : Value} (V : Arv Z h a k .char n vs dv) {j : Int32} (hj : ¬ j < 0 ∧ j < n) (hv : vs.getD j.toNatClampNeg dv = v) {g : JFrame} (hg : g.method = m) {rest : List Value} (hs : g.stack = .int j :: .ref a :: rest) (hd : decode c.code g.pc = .ok (.caload, 1)) :
    ∀ t, Steps p.tables e below (T.setTop { g with pc := g.pc + 1, stack := v :: rest }) t → Steps p.tables e below (T.setTop g) t := by
  obtain ⟨cl, A, q1, S1, N1, H1, G1⟩ := V
  exact X.caload hx (by rw [eT]; exact A.1) (State.isArrayOf_alike hZ.alike A.2.1) A.2.2 (inb_of S1 hj) (H1.at (inb_of S1 hj) hv) hg hs hd
theorem own_ldR (X : Stand p l e R s m args below meth c T locs cells slots) (hx : p.tables.exec = Jvm.exec) (hZ : Z.Warmed39 s.vm) (eT : T.heap = h) {a : Addr} {k : ClassId} {ty : FieldType} {n : Int32} {vs : List Value} {dv v : Value} (V : Arv Z h a k ty n vs dv) (hty : ty.isReference = true) {j : Int32} (hj : ¬ j < 0 ∧ j < n) (hv : vs.getD j.toNatClampNeg dv = v) {g : JFrame} (hg : g.method = m) {rest : List Value} (hs : g.stack = .int j :: .ref a :: rest) (hd : decode c.code g.pc = .ok (.aaload, 1)) :
    ∀ t, Steps p.tables e below (T.setTop { g with pc := g.pc + 1, stack := v :: rest }) t → Steps p.tables e below (T.setTop g) t := by
  obtain ⟨cl, A, q1, S1, N1, H1, G1⟩ := V
  exact X.aaload hx (by rw [eT]; exact A.1) (State.isArrayOf_alike hZ.alike A.2.1) hty A.2.2 (inb_of S1 hj) (H1.at (inb_of S1 hj) hv) hg hs hd
theorem own_len (X : Stand p l e R s m args below meth c T locs cells slots) (hx : p.tables.exec = Jvm.exec) (hZ : Z.Warmed39 s.vm) (eT : T.heap = h) {a : Addr} {k : ClassId} {ty : FieldType} {n : Int32} {vs : List Value} {dv : Value} (V : Arv Z h a k ty n vs dv) {g : JFrame} (hg : g.method = m) {rest : List Value} (hs : g.stack = .ref a :: rest) (hd : decode c.code g.pc = .ok (.arraylength, 1)) :
    ∀ t, Steps p.tables e below (T.setTop { g with pc := g.pc + 1, stack := .int n :: rest }) t → Steps p.tables e below (T.setTop g) t := by
  obtain ⟨cl, A, q1, S1, N1, H1, G1⟩ := V
  intro t k
  refine X.arraylength hx (by rw [eT]; exact A.1) (State.isArrayOf_alike hZ.alike A.2.1) hg hs hd t ?_
  rw [len_of S1 N1]
  exact k
end OwnKit
section OwnWide
variable {p : Program} {l : Launch} {e : Env} {R : Room} {s : State} {m : MethodId} {args : Array Value} {below : List Frame} {meth : Method} {c : Code} {T : State} {locs : List Loc} {cells slots : Nat} {Z : State} {a0 : Array Value} {h h' h0 : Heap} {vm0 : Vm} {k0 : Nat}
/-- the end that a contract asks of a body that may load String constants -/
def own_FW (below : List Frame) (s : State) (Q : Option Value → Heap → Vm → List Loc → Prop) (C S : Nat) : State → Outcome → Prop := fun s₂ o => s₂.status = .running ∧ Ended s₂ below o ∧ ∃ v L, o = .returned v ∧ Q v s₂.heap s₂.vm L ∧ ReturnedEndW s o s₂ L C S
theorem own_enterW {y : MethodName} {bytes : ByteArray} {maxL : Nat} {ret : Option FieldType} {ws : List Jvm.Cond} {rm : Room} {as' : Array Value} {J : Vm → Prop} {Q : Option Value → Heap → Vm → List Loc → Prop} {C S : Nat} (hp : plainFor y = true)
    (body : ∀ (p : Program) (e : Env) (s : State) (m : MethodId) (below : List Frame) (meth : Method) (c : Code) (T : State), Stand p l e rm (s.setVm s.vm) m as' below meth c T [] 0 0 → own_In p (s.setVm s.vm) m meth c Z bytes maxL y.cls y.name ret → T.heap = h0 → s.heap = h0 → J s.vm → s.Since s.vm 0 → own_Go p.tables e below (own_FW below s Q C S) T (entryFrame m as' maxL)) :
    MetFree l y (head1 (Jvm.Cond.code y bytes maxL ret :: ws) rm) (fun a U => a = as' ∧ Z.Warmed39 U.vm ∧ U.heap = h0 ∧ J U.vm) (fun _ _ _ _ _ => True) (fun _ U o U' => ∃ v L, o = .returned v ∧ Q v U'.heap U'.vm L ∧ ReturnedEndW U o U' L C S) := by
  refine MetFree.of_bodySF hp hisR ?_
  intro p e s m args below meth c s₁ Bd hml0 hP hK
  obtain ⟨rfl, hZ, hh, hJ⟩ := hP
  exact body p e s m below meth c s₁ (Stand.of_body Bd) ⟨Bd.exec, Bd.bytes, hml0, findClass_of_methodNamed Bd.named, (name_of_methodNamed Bd.named Bd.method).1, Bd.returns, Bd.notSynchronized, hZ⟩ (by rw [← hh, Bd.state]; rfl) hh hJ ((State.WarmedH.refl s).since 0)
theorem own_endW (X : Stand p l e R (s.setVm vm0) m args below meth c T locs cells slots) (hS : s.Since vm0 k0) (hk : k0 ≤ T.heap.size) (hlk : meth.locks = false) {v : Option Value} (hv : meth.sig.returnType = none → v = none) {g : JFrame} {Q : Option Value → Heap → Vm → List Loc → Prop} {C S : Nat} (hQ : Q v T.heap T.vm locs) (hC : cells ≤ C) (hS' : slots ≤ S)
    (st : ∀ fs, (∀ (f : JFrame) (acts : List Action), f.method = m → f.locked = none → f.entered = [] → (doReturn e (T.setTop f) acts v).1 = T.setFrames fs) → Steps p.tables e below (T.setTop g) (T.setFrames fs)) : own_Go p.tables e below (own_FW below s Q C S) T g := by
  obtain ⟨fs, hr, hrun, hended, h1, h2, h3, h4⟩ := X.leaveW hS hk (v := v) hv
  exact ⟨_, _, st fs hr, hrun, hended, v, locs, rfl, hQ, h1, h2, h3, h4.mono hC hS'⟩
theorem own_retNW (X : Stand p l e R (s.setVm vm0) m args below meth c T locs cells slots) (hS : s.Since vm0 k0) (hk : k0 ≤ T.heap.size) (hx : p.tables.exec = Jvm.exec) {t : FieldType} (hret : meth.sig.returnType = some t) (ht : t = .boolean ∨ t = .byte ∨ t = .char ∨ t = .short) (hlk : meth.locks = false) {pc : Nat} {Ls : Array Slot} {z : Int32} {rest : List Value}
    (hd : decode c.code pc = .ok (.ireturn, 1)) {Q : Option Value → Heap → Vm → List Loc → Prop} {C S : Nat} (hQ : Q (some (.int (nar t z))) T.heap T.vm locs) (hC : cells ≤ C) (hS' : slots ≤ S) : own_Go p.tables e below (own_FW below s Q C S) T (mkF m pc Ls (.int z :: rest)) :=
  own_endW X hS hk hlk (fun q => by rw [hret] at q; cases q) hQ hC hS' (fun fs hr => retN X hx hret ht hd hr)
theorem own_retVW (X : Stand p l e R (s.setVm vm0) m args below meth c T locs cells slots) (hS : s.Since vm0 k0) (hk : k0 ≤ T.heap.size) (hx : p.tables.exec = Jvm.exec) (hret : meth.sig.returnType = none) (hlk : meth.locks = false) {pc : Nat} {Ls : Array Slot}
    (hd : decode c.code pc = .ok (.return_, 1)) {Q : Option Value → Heap → Vm → List Loc → Prop} {C S : Nat} (hQ : Q none T.heap T.vm locs) (hC : cells ≤ C) (hS' : slots ≤ S) : own_Go p.tables e below (own_FW below s Q C S) T (mkF m pc Ls []) :=
  own_endW X hS hk hlk (fun _ => rfl) hQ hC hS' (fun fs hr => X.returnOut hx hret hd hr)
theorem own_retAW (X : Stand p l e R (s.setVm vm0) m args below meth c T locs cells slots) (hS : s.Since vm0 k0) (hk : k0 ≤ T.heap.size) (hx : p.tables.exec = Jvm.exec) {t : FieldType} (hret : meth.sig.returnType = some t) (ht : t.isReference = true) (hlk : meth.locks = false) {pc : Nat} {Ls : Array Slot} {w : Value} {rest : List Value} (hw : w.isRef = true)
    (hd : decode c.code pc = .ok (.areturn, 1)) {Q : Option Value → Heap → Vm → List Loc → Prop} {C S : Nat} (hQ : Q (some w) T.heap T.vm locs) (hC : cells ≤ C) (hS' : slots ≤ S) : own_Go p.tables e below (own_FW below s Q C S) T (mkF m pc Ls (w :: rest)) :=
  own_endW X hS hk hlk (fun q => by rw [hret] at q; cases q) hQ hC hS' (fun fs hr => retOut X hx hret (by rcases ref_cases hw with rfl | ⟨a, rfl⟩ <;> cases t <;> first | rfl | (simp [FieldType.isReference] at ht)) (Or.inr (Or.inr (Or.inr (Or.inr ⟨rfl, ht, hw⟩)))) hd hr)
/-- a callee that may load String constants, by its contract: who pays -/
theorem own_backW {y : MethodName} {bytes : ByteArray} {maxL : Nat} {ret : Option FieldType} {rm : Room} {len W : Nat} {as' : Array Value} {J : Vm → Prop} {Q : Option Value → Heap → Vm → List Loc → Prop}
    (hM : MetFree l y (head1 [Jvm.Cond.code y bytes maxL ret] rm) (fun a U => a = as' ∧ Z.Warmed39 U.vm ∧ U.heap = h ∧ J U.vm) (fun _ _ _ _ _ => True) (fun _ U o U' => ∃ v L, o = .returned v ∧ Q v U'.heap U'.vm L ∧ ReturnedEndW U o U' L rm.cells rm.slots))
    (hZ : Z.Warmed39 s.vm) (hJ : ∀ vm, s.WarmedH vm → J vm) (wc : (Jvm.Cond.code y bytes maxL ret).before a0 Z = true) (wz : (Jvm.Cond.initialized y.cls).before a0 Z = true) (hf : rm.frames + 1 ≤ R.frames) (hl : W + (maxL + 11) + rm.locals ≤ R.locals) :
    BackS l R p e below s args y len W (fun A a => a = as' ∧ A.U.heap = h ∧ A.cells + rm.cells ≤ R.cells ∧ A.slots + rm.slots ≤ R.slots)
      (fun A _ v B => ∃ L, Q v B.U.heap B.U.vm L ∧ B.locs = A.locs ++ L ∧ B.cells = A.cells + rm.cells ∧ B.slots = A.slots + rm.slots) :=
  BackS.of_freeW (bytes := bytes) (maxL := maxL) (ret := ret) (E := fun _ _ o t L k n => k = rm.cells ∧ n = rm.slots ∧ ∃ v, o = .returned v ∧ Q v t.heap t.vm L) hM hf hl
    (fun m meth c A a Y hp => have hU : Z.Warmed39 A.U.vm := wtrans hZ Y.warmed
      ⟨by show (Jvm.Cond.and _ .tt).before a A.U = true; rw [Cond.before_and, mv hU wc]; rfl, mv hU wc, mv hU wz, hp.2.2.1, hp.2.2.2⟩)
    (fun m meth c A a g mk Y hp => ⟨hp.1, wtrans hZ Y.warmed, hp.2.1, hJ _ Y.warmed⟩) (fun _ _ _ _ _ _ _ _ _ => trivial)
    (fun _ _ _ _ ⟨v, L, h1, h2, h3⟩ => ⟨L, _, _, h3, rfl, rfl, v, h1, h2⟩)
    (fun m meth c A a g mk v t L k n Y hp _ _ ⟨e1, e2, v', e3, e4⟩ => by cases e3; subst e1 e2; exact ⟨L, e4, rfl, rfl, rfl⟩)
theorem own_callIW (X : Stand p l e R (s.setVm vm0) m args below meth c T locs cells slots) (hS : s.Since vm0 k0) (hk : k0 ≤ T.heap.size) (hx : p.tables.exec = Jvm.exec) (hZ : Z.Warmed39 (s.setVm vm0).vm) {own : String} {index : Nat} {y : MethodName} {bytes : ByteArray} {maxL : Nat} (hn : y.name = "<init>") (hown : (s.setVm vm0).vm.findClass own = some m.cls)
    (w1 : (Jvm.Cond.methodLink own index y).before a0 Z = true) (w2 : (Jvm.Cond.instanceMethod y).before a0 Z = true) (w3 : (Jvm.Cond.initialized y.cls).before a0 Z = true) (w4 : (Jvm.Cond.code y bytes maxL none).before a0 Z = true) (hy : y.cls ≠ "java/lang/invoke/MethodHandle" ∧ y.cls ≠ "java/lang/invoke/VarHandle")
    {rm : Room} {as' : Array Value} {J : Vm → Prop} {Q : Option Value → Heap → Vm → List Loc → Prop} (hM : MetFree l y (head1 [Jvm.Cond.code y bytes maxL none] rm) (fun a U => a = as' ∧ Z.Warmed39 U.vm ∧ U.heap = h ∧ J U.vm) (fun _ _ _ _ _ => True) (fun _ U o U' => ∃ v L, o = .returned v ∧ Q v U'.heap U'.vm L ∧ ReturnedEndW U o U' L rm.cells rm.slots))
    (hJ : ∀ vm, (s.setVm vm0).WarmedH vm → J vm) (eT : T.heap = h) {g : JFrame} (hg : g.method = m) (hsize : g.locals.size = c.maxLocals) {a : Addr} {argsL rest : List Value} (hlen : ∀ sig, parseMethodDescriptor y.desc = some sig → argsL.length = sig.parameters.length) (hstack : g.stack = argsL.reverse ++ .ref a :: rest) (has : (.ref a :: argsL).toArray = as') {W : Nat} (hW : 2 * g.monitorRoom + (rest.map fun v => v.category).sum ≤ W)
    (hd : decode c.code g.pc = .ok (.invokespecial index, 3)) (hf : rm.frames + 1 ≤ R.frames) (hl : W + (maxL + 11) + rm.locals ≤ R.locals) (hc : cells + rm.cells ≤ R.cells) (hs : slots + rm.slots ≤ R.slots) :
    ∃ v T' L, Q v T'.heap T'.vm L ∧ Stand p l e R (s.setVm T'.vm) m args below meth c T' (locs ++ L) (cells + rm.cells) (slots + rm.slots) ∧ s.Since T'.vm T'.heap.size ∧ Z.Warmed39 (s.setVm T'.vm).vm ∧ (s.setVm T'.vm).vm.findClass own = some m.cls ∧ ∀ t, Steps p.tables e below (T'.setTop { g with pc := g.pc + 3, stack := v.toList ++ rest }) t → Steps p.tables e below (T.setTop g) t := by
  obtain ⟨v, vm₁, ⟨T', L', k', n'⟩, -, X', hS', hgr, ⟨L, hQ, l1, y1, z1⟩, st⟩ := X.specialBackS hx (y := y) hn hown (mvT hZ w1) (mvT hZ w2) (mvT hZ w4) hy (own_backW (W := W) hM hZ hJ w4 w3 hf hl) hg hsize (Steps.refl _) (a := a) (argsL := argsL) (rest := rest) hlen hstack hW hd (fun _ _ => ⟨has, eT, hc, hs⟩)
  dsimp only [Pt.U, Pt.locs, Pt.cells, Pt.slots] at X' l1 y1 z1 st hQ hS' hgr
  subst l1 y1 z1
  obtain ⟨X2, hS2, hZ2, ho2⟩ := rebS hS hk X' hS' hgr hZ hown
  exact ⟨v, T', L, hQ, X2, hS2, hZ2, ho2, fun t k => st.trans k⟩
theorem own_callSW (X : Stand p l e R (s.setVm vm0) m args below meth c T locs cells slots) (hS : s.Since vm0 k0) (hk : k0 ≤ T.heap.size) (hx : p.tables.exec = Jvm.exec) (hZ : Z.Warmed39 (s.setVm vm0).vm) {own : String} {index : Nat} {y : MethodName} {bytes : ByteArray} {maxL : Nat} {ret : Option FieldType} (hown : (s.setVm vm0).vm.findClass own = some m.cls)
    (w1 : (Jvm.Cond.methodLink own index y).before a0 Z = true) (w2 : (Jvm.Cond.static y).before a0 Z = true) (w3 : (Jvm.Cond.initialized y.cls).before a0 Z = true) (w4 : (Jvm.Cond.code y bytes maxL ret).before a0 Z = true) (hy : y.cls ≠ "java/lang/invoke/MethodHandle" ∧ y.cls ≠ "java/lang/invoke/VarHandle")
    {rm : Room} {as' : Array Value} {J : Vm → Prop} {Q : Option Value → Heap → Vm → List Loc → Prop} (hM : MetFree l y (head1 [Jvm.Cond.code y bytes maxL ret] rm) (fun a U => a = as' ∧ Z.Warmed39 U.vm ∧ U.heap = h ∧ J U.vm) (fun _ _ _ _ _ => True) (fun _ U o U' => ∃ v L, o = .returned v ∧ Q v U'.heap U'.vm L ∧ ReturnedEndW U o U' L rm.cells rm.slots))
    (hJ : ∀ vm, (s.setVm vm0).WarmedH vm → J vm) (eT : T.heap = h) {g : JFrame} (hg : g.method = m) (hsize : g.locals.size = c.maxLocals) {argsL rest : List Value} (hlen : ∀ sig, parseMethodDescriptor y.desc = some sig → argsL.length = sig.parameters.length) (hstack : g.stack = argsL.reverse ++ rest) (has : argsL.toArray = as') {W : Nat} (hW : 2 * g.monitorRoom + (rest.map fun v => v.category).sum ≤ W)
    (hd : decode c.code g.pc = .ok (.invokestatic index, 3)) (hf : rm.frames + 1 ≤ R.frames) (hl : W + (maxL + 11) + rm.locals ≤ R.locals) (hc : cells + rm.cells ≤ R.cells) (hs : slots + rm.slots ≤ R.slots) :
    ∃ v T' L, Q v T'.heap T'.vm L ∧ Stand p l e R (s.setVm T'.vm) m args below meth c T' (locs ++ L) (cells + rm.cells) (slots + rm.slots) ∧ s.Since T'.vm T'.heap.size ∧ Z.Warmed39 (s.setVm T'.vm).vm ∧ (s.setVm T'.vm).vm.findClass own = some m.cls ∧ ∀ t, Steps p.tables e below (T'.setTop { g with pc := g.pc + 3, stack := v.toList ++ rest }) t → Steps p.tables e below (T.setTop g) t := by
  obtain ⟨v, vm₁, ⟨T', L', k', n'⟩, -, X', hS', hgr, ⟨L, hQ, l1, y1, z1⟩, st⟩ := callSS X hx (y := y) hown (mvT hZ w1) (mvT hZ w2) (mvT hZ w3) (mvT hZ w4) hy (own_backW (W := W) hM hZ hJ w4 w3 hf hl) hg hsize (argsL := argsL) (rest := rest) hlen hstack hW hd (fun _ _ => ⟨has, eT, hc, hs⟩)
  dsimp only [Pt.U, Pt.locs, Pt.cells, Pt.slots] at X' l1 y1 z1 st hQ hS' hgr
  subst l1 y1 z1
  obtain ⟨X2, hS2, hZ2, ho2⟩ := rebS hS hk X' hS' hgr hZ hown
  exact ⟨v, T', L, hQ, X2, hS2, hZ2, ho2, fun t k => st.trans k⟩
theorem own_callVW (X : Stand p l e R (s.setVm vm0) m args below meth c T locs cells slots) (hS : s.Since vm0 k0) (hk : k0 ≤ T.heap.size) (hx : p.tables.exec = Jvm.exec) (hZ : Z.Warmed39 (s.setVm vm0).vm) {own C : String} {index : Nat} {y : MethodName} {bytes : ByteArray} {maxL : Nat} {ret : Option FieldType} (hown : (s.setVm vm0).vm.findClass own = some m.cls)
    (w1 : (Jvm.Cond.methodLink own index y).before a0 Z = true) (w2 : (Jvm.Cond.declares y).before a0 Z = true) (w3 : (Jvm.Cond.selects C y y).before a0 Z = true) (w5 : (Jvm.Cond.instanceMethod y).before a0 Z = true) (w6 : (Jvm.Cond.initialized y.cls).before a0 Z = true) (w4 : (Jvm.Cond.code y bytes maxL ret).before a0 Z = true) (hy : y.cls ≠ "java/lang/invoke/MethodHandle" ∧ y.cls ≠ "java/lang/invoke/VarHandle")
    {rm : Room} {as' : Array Value} {J : Vm → Prop} {Q : Option Value → Heap → Vm → List Loc → Prop} (hM : MetFree l y (head1 [Jvm.Cond.code y bytes maxL ret] rm) (fun a U => a = as' ∧ Z.Warmed39 U.vm ∧ U.heap = h ∧ J U.vm) (fun _ _ _ _ _ => True) (fun _ U o U' => ∃ v L, o = .returned v ∧ Q v U'.heap U'.vm L ∧ ReturnedEndW U o U' L rm.cells rm.slots))
    (hJ : ∀ vm, (s.setVm vm0).WarmedH vm → J vm) (eT : T.heap = h) {a : Addr} (E : Exa Z h a C) {g : JFrame} (hg : g.method = m) (hsize : g.locals.size = c.maxLocals) {argsL rest : List Value} (hlen : ∀ sig, parseMethodDescriptor y.desc = some sig → argsL.length = sig.parameters.length) (hstack : g.stack = argsL.reverse ++ .ref a :: rest) (has : (.ref a :: argsL).toArray = as') {W : Nat} (hW : 2 * g.monitorRoom + (rest.map fun v => v.category).sum ≤ W)
    (hd : decode c.code g.pc = .ok (.invokevirtual index, 3)) (hf : rm.frames + 1 ≤ R.frames) (hl : W + (maxL + 11) + rm.locals ≤ R.locals) (hc : cells + rm.cells ≤ R.cells) (hs : slots + rm.slots ≤ R.slots) :
    ∃ v T' L, Q v T'.heap T'.vm L ∧ Stand p l e R (s.setVm T'.vm) m args below meth c T' (locs ++ L) (cells + rm.cells) (slots + rm.slots) ∧ s.Since T'.vm T'.heap.size ∧ Z.Warmed39 (s.setVm T'.vm).vm ∧ (s.setVm T'.vm).vm.findClass own = some m.cls ∧ ∀ t, Steps p.tables e below (T'.setTop { g with pc := g.pc + 3, stack := v.toList ++ rest }) t → Steps p.tables e below (T.setTop g) t := by
  obtain ⟨cq, kq, qa, qb, qc⟩ := isOf hZ eT E
  obtain ⟨v, vm₁, ⟨T', L', k', n'⟩, -, X', hS', hgr, ⟨L, hQ, l1, y1, z1⟩, st⟩ := X.virtualBackS hx (y := y) (z := y) hown (mvT hZ w1) (mvT hZ w2) (notFace_of_selects (args := #[]) (mvT hZ w3)) (mvT hZ w3) (mvT hZ w5) hy (own_backW (W := W) hM hZ hJ w4 w6 hf hl) qa qc hg hsize (Steps.refl _) (argsL := argsL) (rest := rest) hlen hstack hW hd (fun _ _ => ⟨has, eT, hc, hs⟩)
  dsimp only [Pt.U, Pt.locs, Pt.cells, Pt.slots] at X' l1 y1 z1 st hQ hS' hgr
  subst l1 y1 z1
  obtain ⟨X2, hS2, hZ2, ho2⟩ := rebS hS hk X' hS' hgr hZ hown
  exact ⟨v, T', L, hQ, X2, hS2, hZ2, ho2, fun t k => st.trans k⟩
theorem own_ibw {Ts : List String} {vm : Vm} (I : IB Z vm0 Ts) (q : (s.setVm vm0).WarmedH vm) : IB Z vm Ts := by
  obtain ⟨more, e, hm⟩ := I
  exact ⟨more, (q.interned_eq :).trans e, hm⟩
end OwnWide
theorem own_eqi {t : Term} {n : Int32} {args : Array Value} {s : State} (h : (Jvm.Cond.eq t (.int n)).value args s none s [] = some true) : t.eval args s none [] s = some (.int n) := by
  obtain ⟨x, y, h1, h2, h3, -⟩ := cmp_v (Or.inl h)
  cases (Term.int_eval n).symm.trans h2
  cases x <;> simp [Kin, Value.isRef] at h3
  rw [h1]
  have q := h
  simp [Jvm.Cond.value, h1, Term.int_eval] at q
  rw [q]
theorem own_lenw {t : Term} {n : Int32} {args : Array Value} {s : State} {x : Addr} {cl : Cell} {ty : FieldType} (h : (Jvm.Cond.eq (Term.length t) (.int n)).value args s none s [] = some true) (ht : t.eval args s none [] s = some (.ref x)) (A : Arr s s.heap x cl ty) : cl.slots.size < 2 ^ 31 ∧ cl.slots.size.toInt32 = n := by
  obtain ⟨b, cell, e1, e2, e4⟩ := Term.length_spec (own_eqi h)
  obtain rfl : x = b := Value.ref.inj (Option.some.inj (ht.symm.trans e1))
  obtain rfl : cl = cell := Option.some.inj ((A.fin (Vm.Alike.refl _)).symm.trans e2)
  exact ⟨Jvm.Free.SBG.length_lt e1 e2 (own_eqi h), (Value.int.inj e4).symm⟩
theorem own_elemw {t u : Term} {j : Int32} {args : Array Value} {s : State} {x y : Addr} {cl : Cell} {ty : FieldType} (h : (Jvm.Cond.eq (Term.elem t (.int j)) u).value args s none s [] = some true) (ht : t.eval args s none [] s = some (.ref x)) (hu : u.eval args s none [] s = some (.ref y)) (A : Arr s s.heap x cl ty) : cl.slots[j.toNatClampNeg]? = some (.ref y) := by
  obtain ⟨v, w, h1, h2, h3, h4⟩ := cmp_v (Or.inl h)
  cases hu.symm.trans h2
  obtain ⟨-, q⟩ := elem_in h1 ht (Term.int_eval j) A.1
  have r : v = .ref y := gotT (eq_R h1 hu h4.2 rfl) h
  rw [q, r]
theorem own_elemi {t : Term} {j k : Int32} {args : Array Value} {s : State} {x : Addr} {cl : Cell} {ty : FieldType} (h : (Jvm.Cond.eq (Term.elem t (.int j)) (.int k)).value args s none s [] = some true) (ht : t.eval args s none [] s = some (.ref x)) (A : Arr s s.heap x cl ty) : cl.slots[j.toNatClampNeg]? = some (.int k) := by
  obtain ⟨-, q⟩ := elem_in (own_eqi h) ht (Term.int_eval j) A.1
  exact q
abbrev own_W (Z : State) (a0 : Array Value) : Prop := ∀ d ∈ tables_1, d.before a0 Z = true
theorem own_w0 {Z : State} {a0 : Array Value} (hw : own_W Z a0) : (Jvm.Cond.classLink "com/example/isoscope/isoscope/CharToStringPinLaw" (9 : Nat) "com/example/isoscope/isoscope/Edn$Char").before a0 Z = true := hw _ (List.mem_of_getElem? (i := 0) rfl)
theorem own_w1 {Z : State} {a0 : Array Value} (hw : own_W Z a0) : (Jvm.Cond.instantiable "com/example/isoscope/isoscope/Edn$Char" (1 : Nat)).before a0 Z = true := hw _ (List.mem_of_getElem? (i := 1) rfl)
theorem own_w2 {Z : State} {a0 : Array Value} (hw : own_W Z a0) : (Jvm.Cond.initialized "com/example/isoscope/isoscope/Edn$Char").before a0 Z = true := hw _ (List.mem_of_getElem? (i := 2) rfl)
theorem own_w3 {Z : State} {a0 : Array Value} (hw : own_W Z a0) : (Jvm.Cond.methodLink "com/example/isoscope/isoscope/CharToStringPinLaw" (11 : Nat) ({ cls := "com/example/isoscope/isoscope/Edn$Char", name := "<init>", desc := "(I)V" } : Jvm.MethodName)).before a0 Z = true := hw _ (List.mem_of_getElem? (i := 3) rfl)
theorem own_w4 {Z : State} {a0 : Array Value} (hw : own_W Z a0) : (Jvm.Cond.instanceMethod ({ cls := "com/example/isoscope/isoscope/Edn$Char", name := "<init>", desc := "(I)V" } : Jvm.MethodName)).before a0 Z = true := hw _ (List.mem_of_getElem? (i := 4) rfl)
theorem own_w5 {Z : State} {a0 : Array Value} (hw : own_W Z a0) : (Jvm.Cond.code ({ cls := "com/example/isoscope/isoscope/Edn$Char", name := "<init>", desc := "(I)V" } : Jvm.MethodName) prog_8_method_1_code (2 : Nat) (Option.none : Option Jvm.ClassFile.FieldType)).before a0 Z = true := hw _ (List.mem_of_getElem? (i := 5) rfl)
theorem own_w6 {Z : State} {a0 : Array Value} (hw : own_W Z a0) : (Jvm.Cond.methodLink "com/example/isoscope/isoscope/Edn$Char" (1 : Nat) ({ cls := "java/lang/Record", name := "<init>", desc := "()V" } : Jvm.MethodName)).before a0 Z = true := hw _ (List.mem_of_getElem? (i := 6) rfl)
theorem own_w7 {Z : State} {a0 : Array Value} (hw : own_W Z a0) : (Jvm.Cond.instanceMethod ({ cls := "java/lang/Record", name := "<init>", desc := "()V" } : Jvm.MethodName)).before a0 Z = true := hw _ (List.mem_of_getElem? (i := 7) rfl)
theorem own_w9 {Z : State} {a0 : Array Value} (hw : own_W Z a0) : (Jvm.Cond.initialized "java/lang/Record").before a0 Z = true := hw _ (List.mem_of_getElem? (i := 9) rfl)
theorem own_w10 {Z : State} {a0 : Array Value} (hw : own_W Z a0) : (Jvm.Cond.code ({ cls := "java/lang/Record", name := "<init>", desc := "()V" } : Jvm.MethodName) jdk_30_method_1_code (1 : Nat) (Option.none : Option Jvm.ClassFile.FieldType)).before a0 Z = true := hw _ (List.mem_of_getElem? (i := 10) rfl)
theorem own_w11 {Z : State} {a0 : Array Value} (hw : own_W Z a0) : (Jvm.Cond.methodLink "java/lang/Record" (1 : Nat) ({ cls := "java/lang/Object", name := "<init>", desc := "()V" } : Jvm.MethodName)).before a0 Z = true := hw _ (List.mem_of_getElem? (i := 11) rfl)
theorem own_w12 {Z : State} {a0 : Array Value} (hw : own_W Z a0) : (Jvm.Cond.instanceMethod ({ cls := "java/lang/Object", name := "<init>", desc := "()V" } : Jvm.MethodName)).before a0 Z = true := hw _ (List.mem_of_getElem? (i := 12) rfl)
theorem own_w13 {Z : State} {a0 : Array Value} (hw : own_W Z a0) : (Jvm.Cond.code ({ cls := "java/lang/Object", name := "<init>", desc := "()V" } : Jvm.MethodName) object_method_1_code (1 : Nat) (Option.none : Option Jvm.ClassFile.FieldType)).before a0 Z = true := hw _ (List.mem_of_getElem? (i := 13) rfl)
theorem own_w14 {Z : State} {a0 : Array Value} (hw : own_W Z a0) : (Jvm.Cond.fieldLink "com/example/isoscope/isoscope/Edn$Char" (7 : Nat) "com/example/isoscope/isoscope/Edn$Char" "codePoint" "I").before a0 Z = true := hw _ (List.mem_of_getElem? (i := 14) rfl)
theorem own_w15 {Z : State} {a0 : Array Value} (hw : own_W Z a0) : (Jvm.Cond.laysFinal "com/example/isoscope/isoscope/Edn$Char" "com/example/isoscope/isoscope/Edn$Char" "codePoint" "I").before a0 Z = true := hw _ (List.mem_of_getElem? (i := 15) rfl)
theorem own_w16 {Z : State} {a0 : Array Value} (hw : own_W Z a0) : (Jvm.Cond.methodLink "com/example/isoscope/isoscope/CharToStringPinLaw" (14 : Nat) ({ cls := "com/example/isoscope/isoscope/Edn$Char", name := "toString", desc := "()Ljava/lang/String;" } : Jvm.MethodName)).before a0 Z = true := hw _ (List.mem_of_getElem? (i := 16) rfl)
theorem own_w17 {Z : State} {a0 : Array Value} (hw : own_W Z a0) : (Jvm.Cond.declares ({ cls := "com/example/isoscope/isoscope/Edn$Char", name := "toString", desc := "()Ljava/lang/String;" } : Jvm.MethodName)).before a0 Z = true := hw _ (List.mem_of_getElem? (i := 17) rfl)
theorem own_w18 {Z : State} {a0 : Array Value} (hw : own_W Z a0) : (Jvm.Cond.instanceMethod ({ cls := "com/example/isoscope/isoscope/Edn$Char", name := "toString", desc := "()Ljava/lang/String;" } : Jvm.MethodName)).before a0 Z = true := hw _ (List.mem_of_getElem? (i := 18) rfl)
theorem own_w19 {Z : State} {a0 : Array Value} (hw : own_W Z a0) : (Jvm.Cond.selects "com/example/isoscope/isoscope/Edn$Char" ({ cls := "com/example/isoscope/isoscope/Edn$Char", name := "toString", desc := "()Ljava/lang/String;" } : Jvm.MethodName) ({ cls := "com/example/isoscope/isoscope/Edn$Char", name := "toString", desc := "()Ljava/lang/String;" } : Jvm.MethodName)).before a0 Z = true := hw _ (List.mem_of_getElem? (i := 19) rfl)
theorem own_w20 {Z : State} {a0 : Array Value} (hw : own_W Z a0) : (Jvm.Cond.code ({ cls := "com/example/isoscope/isoscope/Edn$Char", name := "toString", desc := "()Ljava/lang/String;" } : Jvm.MethodName) prog_8_method_2_code (2 : Nat) (Option.some (Jvm.ClassFile.FieldType.object "java/lang/String"))).before a0 Z = true := hw _ (List.mem_of_getElem? (i := 20) rfl)
theorem own_w21 {Z : State} {a0 : Array Value} (hw : own_W Z a0) : (Jvm.Cond.stringLink "com/example/isoscope/isoscope/Edn$Char" (13 : Nat) "newline").before a0 Z = true := hw _ (List.mem_of_getElem? (i := 21) rfl)
theorem own_w22 {Z : State} {a0 : Array Value} (hw : own_W Z a0) : (Jvm.Cond.initialized "java/lang/String").before a0 Z = true := hw _ (List.mem_of_getElem? (i := 22) rfl)
theorem own_w23 {Z : State} {a0 : Array Value} (hw : own_W Z a0) : (Jvm.Cond.instantiable "java/lang/String" (4 : Nat)).before a0 Z = true := hw _ (List.mem_of_getElem? (i := 23) rfl)
theorem own_w24 {Z : State} {a0 : Array Value} (hw : own_W Z a0) : (Jvm.Cond.arrayClass Jvm.ClassFile.FieldType.byte).before a0 Z = true := hw _ (List.mem_of_getElem? (i := 24) rfl)
theorem own_w25 {Z : State} {a0 : Array Value} (hw : own_W Z a0) : (Jvm.Cond.laysFinal "java/lang/String" "java/lang/String" "value" "[B").before a0 Z = true := hw _ (List.mem_of_getElem? (i := 25) rfl)
theorem own_w26 {Z : State} {a0 : Array Value} (hw : own_W Z a0) : (Jvm.Cond.laysFinal "java/lang/String" "java/lang/String" "coder" "B").before a0 Z = true := hw _ (List.mem_of_getElem? (i := 26) rfl)
theorem own_w27 {Z : State} {a0 : Array Value} (hw : own_W Z a0) : (Jvm.Cond.soleField "java/lang/String" "value").before a0 Z = true := hw _ (List.mem_of_getElem? (i := 27) rfl)
theorem own_w28 {Z : State} {a0 : Array Value} (hw : own_W Z a0) : (Jvm.Cond.soleField "java/lang/String" "coder").before a0 Z = true := hw _ (List.mem_of_getElem? (i := 28) rfl)
theorem own_w29 {Z : State} {a0 : Array Value} (hw : own_W Z a0) : (Jvm.Cond.classLink "com/example/isoscope/isoscope/Edn$Char" (31 : Nat) "java/lang/StringBuilder").before a0 Z = true := hw _ (List.mem_of_getElem? (i := 29) rfl)
theorem own_w30 {Z : State} {a0 : Array Value} (hw : own_W Z a0) : (Jvm.Cond.instantiable "java/lang/StringBuilder" (4 : Nat)).before a0 Z = true := hw _ (List.mem_of_getElem? (i := 30) rfl)
theorem own_w31 {Z : State} {a0 : Array Value} (hw : own_W Z a0) : (Jvm.Cond.initialized "java/lang/StringBuilder").before a0 Z = true := hw _ (List.mem_of_getElem? (i := 31) rfl)
theorem own_w32 {Z : State} {a0 : Array Value} (hw : own_W Z a0) : (Jvm.Cond.methodLink "com/example/isoscope/isoscope/Edn$Char" (33 : Nat) ({ cls := "java/lang/StringBuilder", name := "<init>", desc := "()V" } : Jvm.MethodName)).before a0 Z = true := hw _ (List.mem_of_getElem? (i := 32) rfl)
theorem own_w33 {Z : State} {a0 : Array Value} (hw : own_W Z a0) : (Jvm.Cond.instanceMethod ({ cls := "java/lang/StringBuilder", name := "<init>", desc := "()V" } : Jvm.MethodName)).before a0 Z = true := hw _ (List.mem_of_getElem? (i := 33) rfl)
theorem own_w34 {Z : State} {a0 : Array Value} (hw : own_W Z a0) : (Jvm.Cond.code ({ cls := "java/lang/StringBuilder", name := "<init>", desc := "()V" } : Jvm.MethodName) jdk_67_method_1_code (1 : Nat) (Option.none : Option Jvm.ClassFile.FieldType)).before a0 Z = true := hw _ (List.mem_of_getElem? (i := 34) rfl)
theorem own_w35 {Z : State} {a0 : Array Value} (hw : own_W Z a0) : (Jvm.Cond.methodLink "java/lang/StringBuilder" (1 : Nat) ({ cls := "java/lang/AbstractStringBuilder", name := "<init>", desc := "(I)V" } : Jvm.MethodName)).before a0 Z = true := hw _ (List.mem_of_getElem? (i := 35) rfl)
theorem own_w36 {Z : State} {a0 : Array Value} (hw : own_W Z a0) : (Jvm.Cond.instanceMethod ({ cls := "java/lang/AbstractStringBuilder", name := "<init>", desc := "(I)V" } : Jvm.MethodName)).before a0 Z = true := hw _ (List.mem_of_getElem? (i := 36) rfl)
theorem own_w39 {Z : State} {a0 : Array Value} (hw : own_W Z a0) : (Jvm.Cond.initialized "java/lang/AbstractStringBuilder").before a0 Z = true := hw _ (List.mem_of_getElem? (i := 39) rfl)
theorem own_w40 {Z : State} {a0 : Array Value} (hw : own_W Z a0) : (Jvm.Cond.code ({ cls := "java/lang/AbstractStringBuilder", name := "<init>", desc := "(I)V" } : Jvm.MethodName) jdk_68_method_2_code (2 : Nat) (Option.none : Option Jvm.ClassFile.FieldType)).before a0 Z = true := hw _ (List.mem_of_getElem? (i := 40) rfl)
theorem own_w41 {Z : State} {a0 : Array Value} (hw : own_W Z a0) : (Jvm.Cond.methodLink "java/lang/AbstractStringBuilder" (3 : Nat) ({ cls := "java/lang/Object", name := "<init>", desc := "()V" } : Jvm.MethodName)).before a0 Z = true := hw _ (List.mem_of_getElem? (i := 41) rfl)
theorem own_w42 {Z : State} {a0 : Array Value} (hw : own_W Z a0) : (Jvm.Cond.fieldLink "java/lang/AbstractStringBuilder" (18 : Nat) "java/lang/String" "COMPACT_STRINGS" "Z").before a0 Z = true := hw _ (List.mem_of_getElem? (i := 42) rfl)
theorem own_w43 {Z : State} {a0 : Array Value} (hw : own_W Z a0) : (Jvm.Cond.fieldLink "java/lang/AbstractStringBuilder" (15 : Nat) "java/lang/AbstractStringBuilder" "value" "[B").before a0 Z = true := hw _ (List.mem_of_getElem? (i := 43) rfl)
theorem own_w44 {Z : State} {a0 : Array Value} (hw : own_W Z a0) : (Jvm.Cond.lays "java/lang/StringBuilder" "java/lang/AbstractStringBuilder" "value" "[B").before a0 Z = true := hw _ (List.mem_of_getElem? (i := 44) rfl)
theorem own_w45 {Z : State} {a0 : Array Value} (hw : own_W Z a0) : (Jvm.Cond.fieldLink "java/lang/AbstractStringBuilder" (22 : Nat) "java/lang/AbstractStringBuilder" "coder" "B").before a0 Z = true := hw _ (List.mem_of_getElem? (i := 45) rfl)
theorem own_w46 {Z : State} {a0 : Array Value} (hw : own_W Z a0) : (Jvm.Cond.lays "java/lang/StringBuilder" "java/lang/AbstractStringBuilder" "coder" "B").before a0 Z = true := hw _ (List.mem_of_getElem? (i := 46) rfl)
theorem own_w47 {Z : State} {a0 : Array Value} (hw : own_W Z a0) : (Jvm.Cond.stringLink "com/example/isoscope/isoscope/Edn$Char" (34 : Nat) "\\").before a0 Z = true := hw _ (List.mem_of_getElem? (i := 47) rfl)
theorem own_w48 {Z : State} {a0 : Array Value} (hw : own_W Z a0) : (Jvm.Cond.methodLink "com/example/isoscope/isoscope/Edn$Char" (36 : Nat) ({ cls := "java/lang/StringBuilder", name := "append", desc := "(Ljava/lang/String;)Ljava/lang/StringBuilder;" } : Jvm.MethodName)).before a0 Z = true := hw _ (List.mem_of_getElem? (i := 48) rfl)
theorem own_w49 {Z : State} {a0 : Array Value} (hw : own_W Z a0) : (Jvm.Cond.declares ({ cls := "java/lang/StringBuilder", name := "append", desc := "(Ljava/lang/String;)Ljava/lang/StringBuilder;" } : Jvm.MethodName)).before a0 Z = true := hw _ (List.mem_of_getElem? (i := 49) rfl)
theorem own_w50 {Z : State} {a0 : Array Value} (hw : own_W Z a0) : (Jvm.Cond.instanceMethod ({ cls := "java/lang/StringBuilder", name := "append", desc := "(Ljava/lang/String;)Ljava/lang/StringBuilder;" } : Jvm.MethodName)).before a0 Z = true := hw _ (List.mem_of_getElem? (i := 50) rfl)
theorem own_w51 {Z : State} {a0 : Array Value} (hw : own_W Z a0) : (Jvm.Cond.selects "java/lang/StringBuilder" ({ cls := "java/lang/StringBuilder", name := "append", desc := "(Ljava/lang/String;)Ljava/lang/StringBuilder;" } : Jvm.MethodName) ({ cls := "java/lang/StringBuilder", name := "append", desc := "(Ljava/lang/String;)Ljava/lang/StringBuilder;" } : Jvm.MethodName)).before a0 Z = true := hw _ (List.mem_of_getElem? (i := 51) rfl)
theorem own_w52 {Z : State} {a0 : Array Value} (hw : own_W Z a0) : (Jvm.Cond.code ({ cls := "java/lang/StringBuilder", name := "append", desc := "(Ljava/lang/String;)Ljava/lang/StringBuilder;" } : Jvm.MethodName) jdk_67_method_7_code (2 : Nat) (Option.some (Jvm.ClassFile.FieldType.object "java/lang/StringBuilder"))).before a0 Z = true := hw _ (List.mem_of_getElem? (i := 52) rfl)
theorem own_w53 {Z : State} {a0 : Array Value} (hw : own_W Z a0) : (Jvm.Cond.methodLink "java/lang/StringBuilder" (29 : Nat) ({ cls := "java/lang/AbstractStringBuilder", name := "append", desc := "(Ljava/lang/String;)Ljava/lang/AbstractStringBuilder;" } : Jvm.MethodName)).before a0 Z = true := hw _ (List.mem_of_getElem? (i := 53) rfl)
theorem own_w54 {Z : State} {a0 : Array Value} (hw : own_W Z a0) : (Jvm.Cond.instanceMethod ({ cls := "java/lang/AbstractStringBuilder", name := "append", desc := "(Ljava/lang/String;)Ljava/lang/AbstractStringBuilder;" } : Jvm.MethodName)).before a0 Z = true := hw _ (List.mem_of_getElem? (i := 54) rfl)
theorem own_w55 {Z : State} {a0 : Array Value} (hw : own_W Z a0) : (Jvm.Cond.superclass "java/lang/StringBuilder" "java/lang/AbstractStringBuilder").before a0 Z = true := hw _ (List.mem_of_getElem? (i := 55) rfl)
theorem own_w57 {Z : State} {a0 : Array Value} (hw : own_W Z a0) : (Jvm.Cond.code ({ cls := "java/lang/AbstractStringBuilder", name := "append", desc := "(Ljava/lang/String;)Ljava/lang/AbstractStringBuilder;" } : Jvm.MethodName) jdk_68_method_22_code (3 : Nat) (Option.some (Jvm.ClassFile.FieldType.object "java/lang/AbstractStringBuilder"))).before a0 Z = true := hw _ (List.mem_of_getElem? (i := 57) rfl)
theorem own_w58 {Z : State} {a0 : Array Value} (hw : own_W Z a0) : (Jvm.Cond.methodLink "java/lang/AbstractStringBuilder" (32 : Nat) ({ cls := "java/lang/String", name := "length", desc := "()I" } : Jvm.MethodName)).before a0 Z = true := hw _ (List.mem_of_getElem? (i := 58) rfl)
theorem own_w59 {Z : State} {a0 : Array Value} (hw : own_W Z a0) : (Jvm.Cond.declares ({ cls := "java/lang/String", name := "length", desc := "()I" } : Jvm.MethodName)).before a0 Z = true := hw _ (List.mem_of_getElem? (i := 59) rfl)
theorem own_w60 {Z : State} {a0 : Array Value} (hw : own_W Z a0) : (Jvm.Cond.instanceMethod ({ cls := "java/lang/String", name := "length", desc := "()I" } : Jvm.MethodName)).before a0 Z = true := hw _ (List.mem_of_getElem? (i := 60) rfl)
theorem own_w61 {Z : State} {a0 : Array Value} (hw : own_W Z a0) : (Jvm.Cond.selects "java/lang/String" ({ cls := "java/lang/String", name := "length", desc := "()I" } : Jvm.MethodName) ({ cls := "java/lang/String", name := "length", desc := "()I" } : Jvm.MethodName)).before a0 Z = true := hw _ (List.mem_of_getElem? (i := 61) rfl)
theorem own_w62 {Z : State} {a0 : Array Value} (hw : own_W Z a0) : (Jvm.Cond.code ({ cls := "java/lang/String", name := "length", desc := "()I" } : Jvm.MethodName) jdk_42_method_54_code (1 : Nat) (Option.some Jvm.ClassFile.FieldType.int)).before a0 Z = true := hw _ (List.mem_of_getElem? (i := 62) rfl)
theorem own_w63 {Z : State} {a0 : Array Value} (hw : own_W Z a0) : (Jvm.Cond.fieldLink "java/lang/String" (9 : Nat) "java/lang/String" "value" "[B").before a0 Z = true := hw _ (List.mem_of_getElem? (i := 63) rfl)
theorem own_w64 {Z : State} {a0 : Array Value} (hw : own_W Z a0) : (Jvm.Cond.methodLink "java/lang/String" (335 : Nat) ({ cls := "java/lang/String", name := "coder", desc := "()B" } : Jvm.MethodName)).before a0 Z = true := hw _ (List.mem_of_getElem? (i := 64) rfl)
theorem own_w65 {Z : State} {a0 : Array Value} (hw : own_W Z a0) : (Jvm.Cond.declares ({ cls := "java/lang/String", name := "coder", desc := "()B" } : Jvm.MethodName)).before a0 Z = true := hw _ (List.mem_of_getElem? (i := 65) rfl)
theorem own_w66 {Z : State} {a0 : Array Value} (hw : own_W Z a0) : (Jvm.Cond.instanceMethod ({ cls := "java/lang/String", name := "coder", desc := "()B" } : Jvm.MethodName)).before a0 Z = true := hw _ (List.mem_of_getElem? (i := 66) rfl)
theorem own_w67 {Z : State} {a0 : Array Value} (hw : own_W Z a0) : (Jvm.Cond.selects "java/lang/String" ({ cls := "java/lang/String", name := "coder", desc := "()B" } : Jvm.MethodName) ({ cls := "java/lang/String", name := "coder", desc := "()B" } : Jvm.MethodName)).before a0 Z = true := hw _ (List.mem_of_getElem? (i := 67) rfl)
theorem own_w68 {Z : State} {a0 : Array Value} (hw : own_W Z a0) : (Jvm.Cond.code ({ cls := "java/lang/String", name := "coder", desc := "()B" } : Jvm.MethodName) jdk_42_method_152_code (1 : Nat) (Option.some Jvm.ClassFile.FieldType.byte)).before a0 Z = true := hw _ (List.mem_of_getElem? (i := 68) rfl)
theorem own_w69 {Z : State} {a0 : Array Value} (hw : own_W Z a0) : (Jvm.Cond.fieldLink "java/lang/String" (38 : Nat) "java/lang/String" "COMPACT_STRINGS" "Z").before a0 Z = true := hw _ (List.mem_of_getElem? (i := 69) rfl)
theorem own_w70 {Z : State} {a0 : Array Value} (hw : own_W Z a0) : (Jvm.Cond.fieldLink "java/lang/String" (15 : Nat) "java/lang/String" "coder" "B").before a0 Z = true := hw _ (List.mem_of_getElem? (i := 70) rfl)
theorem own_w71 {Z : State} {a0 : Array Value} (hw : own_W Z a0) : (Jvm.Cond.fieldLink "java/lang/AbstractStringBuilder" (79 : Nat) "java/lang/AbstractStringBuilder" "count" "I").before a0 Z = true := hw _ (List.mem_of_getElem? (i := 71) rfl)
theorem own_w72 {Z : State} {a0 : Array Value} (hw : own_W Z a0) : (Jvm.Cond.lays "java/lang/StringBuilder" "java/lang/AbstractStringBuilder" "count" "I").before a0 Z = true := hw _ (List.mem_of_getElem? (i := 72) rfl)
theorem own_w73 {Z : State} {a0 : Array Value} (hw : own_W Z a0) : (Jvm.Cond.methodLink "java/lang/AbstractStringBuilder" (100 : Nat) ({ cls := "java/lang/AbstractStringBuilder", name := "ensureCapacityInternal", desc := "(I)V" } : Jvm.MethodName)).before a0 Z = true := hw _ (List.mem_of_getElem? (i := 73) rfl)
theorem own_w74 {Z : State} {a0 : Array Value} (hw : own_W Z a0) : (Jvm.Cond.instanceMethod ({ cls := "java/lang/AbstractStringBuilder", name := "ensureCapacityInternal", desc := "(I)V" } : Jvm.MethodName)).before a0 Z = true := hw _ (List.mem_of_getElem? (i := 74) rfl)
theorem own_w76 {Z : State} {a0 : Array Value} (hw : own_W Z a0) : (Jvm.Cond.selects "java/lang/StringBuilder" ({ cls := "java/lang/AbstractStringBuilder", name := "ensureCapacityInternal", desc := "(I)V" } : Jvm.MethodName) ({ cls := "java/lang/AbstractStringBuilder", name := "ensureCapacityInternal", desc := "(I)V" } : Jvm.MethodName)).before a0 Z = true := hw _ (List.mem_of_getElem? (i := 76) rfl)
theorem own_w77 {Z : State} {a0 : Array Value} (hw : own_W Z a0) : (Jvm.Cond.code ({ cls := "java/lang/AbstractStringBuilder", name := "ensureCapacityInternal", desc := "(I)V" } : Jvm.MethodName) jdk_68_method_9_code (3 : Nat) (Option.none : Option Jvm.ClassFile.FieldType)).before a0 Z = true := hw _ (List.mem_of_getElem? (i := 77) rfl)
theorem own_w78 {Z : State} {a0 : Array Value} (hw : own_W Z a0) : (Jvm.Cond.methodLink "java/lang/AbstractStringBuilder" (208 : Nat) ({ cls := "java/lang/AbstractStringBuilder", name := "putStringAt", desc := "(ILjava/lang/String;)V" } : Jvm.MethodName)).before a0 Z = true := hw _ (List.mem_of_getElem? (i := 78) rfl)
theorem own_w79 {Z : State} {a0 : Array Value} (hw : own_W Z a0) : (Jvm.Cond.instanceMethod ({ cls := "java/lang/AbstractStringBuilder", name := "putStringAt", desc := "(ILjava/lang/String;)V" } : Jvm.MethodName)).before a0 Z = true := hw _ (List.mem_of_getElem? (i := 79) rfl)
theorem own_w81 {Z : State} {a0 : Array Value} (hw : own_W Z a0) : (Jvm.Cond.selects "java/lang/StringBuilder" ({ cls := "java/lang/AbstractStringBuilder", name := "putStringAt", desc := "(ILjava/lang/String;)V" } : Jvm.MethodName) ({ cls := "java/lang/AbstractStringBuilder", name := "putStringAt", desc := "(ILjava/lang/String;)V" } : Jvm.MethodName)).before a0 Z = true := hw _ (List.mem_of_getElem? (i := 81) rfl)
theorem own_w82 {Z : State} {a0 : Array Value} (hw : own_W Z a0) : (Jvm.Cond.code ({ cls := "java/lang/AbstractStringBuilder", name := "putStringAt", desc := "(ILjava/lang/String;)V" } : Jvm.MethodName) jdk_68_method_73_code (3 : Nat) (Option.none : Option Jvm.ClassFile.FieldType)).before a0 Z = true := hw _ (List.mem_of_getElem? (i := 82) rfl)
theorem own_w83 {Z : State} {a0 : Array Value} (hw : own_W Z a0) : (Jvm.Cond.methodLink "java/lang/AbstractStringBuilder" (397 : Nat) ({ cls := "java/lang/AbstractStringBuilder", name := "inflateIfNeededFor", desc := "(Ljava/lang/String;)V" } : Jvm.MethodName)).before a0 Z = true := hw _ (List.mem_of_getElem? (i := 83) rfl)
theorem own_w84 {Z : State} {a0 : Array Value} (hw : own_W Z a0) : (Jvm.Cond.instanceMethod ({ cls := "java/lang/AbstractStringBuilder", name := "inflateIfNeededFor", desc := "(Ljava/lang/String;)V" } : Jvm.MethodName)).before a0 Z = true := hw _ (List.mem_of_getElem? (i := 84) rfl)
theorem own_w86 {Z : State} {a0 : Array Value} (hw : own_W Z a0) : (Jvm.Cond.selects "java/lang/StringBuilder" ({ cls := "java/lang/AbstractStringBuilder", name := "inflateIfNeededFor", desc := "(Ljava/lang/String;)V" } : Jvm.MethodName) ({ cls := "java/lang/AbstractStringBuilder", name := "inflateIfNeededFor", desc := "(Ljava/lang/String;)V" } : Jvm.MethodName)).before a0 Z = true := hw _ (List.mem_of_getElem? (i := 86) rfl)
theorem own_w87 {Z : State} {a0 : Array Value} (hw : own_W Z a0) : (Jvm.Cond.code ({ cls := "java/lang/AbstractStringBuilder", name := "inflateIfNeededFor", desc := "(Ljava/lang/String;)V" } : Jvm.MethodName) jdk_68_method_71_code (2 : Nat) (Option.none : Option Jvm.ClassFile.FieldType)).before a0 Z = true := hw _ (List.mem_of_getElem? (i := 87) rfl)
theorem own_w88 {Z : State} {a0 : Array Value} (hw : own_W Z a0) : (Jvm.Cond.methodLink "java/lang/AbstractStringBuilder" (40 : Nat) ({ cls := "java/lang/String", name := "coder", desc := "()B" } : Jvm.MethodName)).before a0 Z = true := hw _ (List.mem_of_getElem? (i := 88) rfl)
theorem own_w89 {Z : State} {a0 : Array Value} (hw : own_W Z a0) : (Jvm.Cond.methodLink "java/lang/AbstractStringBuilder" (399 : Nat) ({ cls := "java/lang/String", name := "getBytes", desc := "([BIB)V" } : Jvm.MethodName)).before a0 Z = true := hw _ (List.mem_of_getElem? (i := 89) rfl)
theorem own_w90 {Z : State} {a0 : Array Value} (hw : own_W Z a0) : (Jvm.Cond.declares ({ cls := "java/lang/String", name := "getBytes", desc := "([BIB)V" } : Jvm.MethodName)).before a0 Z = true := hw _ (List.mem_of_getElem? (i := 90) rfl)
theorem own_w91 {Z : State} {a0 : Array Value} (hw : own_W Z a0) : (Jvm.Cond.instanceMethod ({ cls := "java/lang/String", name := "getBytes", desc := "([BIB)V" } : Jvm.MethodName)).before a0 Z = true := hw _ (List.mem_of_getElem? (i := 91) rfl)
theorem own_w92 {Z : State} {a0 : Array Value} (hw : own_W Z a0) : (Jvm.Cond.selects "java/lang/String" ({ cls := "java/lang/String", name := "getBytes", desc := "([BIB)V" } : Jvm.MethodName) ({ cls := "java/lang/String", name := "getBytes", desc := "([BIB)V" } : Jvm.MethodName)).before a0 Z = true := hw _ (List.mem_of_getElem? (i := 92) rfl)
theorem own_w93 {Z : State} {a0 : Array Value} (hw : own_W Z a0) : (Jvm.Cond.code ({ cls := "java/lang/String", name := "getBytes", desc := "([BIB)V" } : Jvm.MethodName) jdk_42_method_147_code (4 : Nat) (Option.none : Option Jvm.ClassFile.FieldType)).before a0 Z = true := hw _ (List.mem_of_getElem? (i := 93) rfl)
theorem own_w94 {Z : State} {a0 : Array Value} (hw : own_W Z a0) : (Jvm.Cond.methodLink "java/lang/String" (212 : Nat) ({ cls := "java/lang/System", name := "arraycopy", desc := "(Ljava/lang/Object;ILjava/lang/Object;II)V" } : Jvm.MethodName)).before a0 Z = true := hw _ (List.mem_of_getElem? (i := 94) rfl)
theorem own_w95 {Z : State} {a0 : Array Value} (hw : own_W Z a0) : (Jvm.Cond.static ({ cls := "java/lang/System", name := "arraycopy", desc := "(Ljava/lang/Object;ILjava/lang/Object;II)V" } : Jvm.MethodName)).before a0 Z = true := hw _ (List.mem_of_getElem? (i := 95) rfl)
theorem own_w96 {Z : State} {a0 : Array Value} (hw : own_W Z a0) : (Jvm.Cond.initialized "java/lang/System").before a0 Z = true := hw _ (List.mem_of_getElem? (i := 96) rfl)
theorem own_w97 {Z : State} {a0 : Array Value} (hw : own_W Z a0) : (Jvm.Cond.native ({ cls := "java/lang/System", name := "arraycopy", desc := "(Ljava/lang/Object;ILjava/lang/Object;II)V" } : Jvm.MethodName)).before a0 Z = true := hw _ (List.mem_of_getElem? (i := 97) rfl)
theorem own_w98 {Z : State} {a0 : Array Value} (hw : own_W Z a0) : (Jvm.Cond.methodLink "com/example/isoscope/isoscope/Edn$Char" (40 : Nat) ({ cls := "java/lang/StringBuilder", name := "toString", desc := "()Ljava/lang/String;" } : Jvm.MethodName)).before a0 Z = true := hw _ (List.mem_of_getElem? (i := 98) rfl)
theorem own_w99 {Z : State} {a0 : Array Value} (hw : own_W Z a0) : (Jvm.Cond.declares ({ cls := "java/lang/StringBuilder", name := "toString", desc := "()Ljava/lang/String;" } : Jvm.MethodName)).before a0 Z = true := hw _ (List.mem_of_getElem? (i := 99) rfl)
theorem own_w100 {Z : State} {a0 : Array Value} (hw : own_W Z a0) : (Jvm.Cond.instanceMethod ({ cls := "java/lang/StringBuilder", name := "toString", desc := "()Ljava/lang/String;" } : Jvm.MethodName)).before a0 Z = true := hw _ (List.mem_of_getElem? (i := 100) rfl)
theorem own_w101 {Z : State} {a0 : Array Value} (hw : own_W Z a0) : (Jvm.Cond.selects "java/lang/StringBuilder" ({ cls := "java/lang/StringBuilder", name := "toString", desc := "()Ljava/lang/String;" } : Jvm.MethodName) ({ cls := "java/lang/StringBuilder", name := "toString", desc := "()Ljava/lang/String;" } : Jvm.MethodName)).before a0 Z = true := hw _ (List.mem_of_getElem? (i := 101) rfl)
theorem own_w102 {Z : State} {a0 : Array Value} (hw : own_W Z a0) : (Jvm.Cond.code ({ cls := "java/lang/StringBuilder", name := "toString", desc := "()Ljava/lang/String;" } : Jvm.MethodName) jdk_67_method_42_code (1 : Nat) (Option.some (Jvm.ClassFile.FieldType.object "java/lang/String"))).before a0 Z = true := hw _ (List.mem_of_getElem? (i := 102) rfl)
theorem own_w103 {Z : State} {a0 : Array Value} (hw : own_W Z a0) : (Jvm.Cond.classLink "java/lang/StringBuilder" (18 : Nat) "java/lang/String").before a0 Z = true := hw _ (List.mem_of_getElem? (i := 103) rfl)
theorem own_w104 {Z : State} {a0 : Array Value} (hw : own_W Z a0) : (Jvm.Cond.methodLink "java/lang/StringBuilder" (137 : Nat) ({ cls := "java/lang/String", name := "<init>", desc := "(Ljava/lang/StringBuilder;)V" } : Jvm.MethodName)).before a0 Z = true := hw _ (List.mem_of_getElem? (i := 104) rfl)
theorem own_w105 {Z : State} {a0 : Array Value} (hw : own_W Z a0) : (Jvm.Cond.instanceMethod ({ cls := "java/lang/String", name := "<init>", desc := "(Ljava/lang/StringBuilder;)V" } : Jvm.MethodName)).before a0 Z = true := hw _ (List.mem_of_getElem? (i := 105) rfl)
theorem own_w107 {Z : State} {a0 : Array Value} (hw : own_W Z a0) : (Jvm.Cond.code ({ cls := "java/lang/String", name := "<init>", desc := "(Ljava/lang/StringBuilder;)V" } : Jvm.MethodName) jdk_42_method_53_code (2 : Nat) (Option.none : Option Jvm.ClassFile.FieldType)).before a0 Z = true := hw _ (List.mem_of_getElem? (i := 107) rfl)
theorem own_w108 {Z : State} {a0 : Array Value} (hw : own_W Z a0) : (Jvm.Cond.methodLink "java/lang/String" (489 : Nat) ({ cls := "java/lang/String", name := "<init>", desc := "(Ljava/lang/AbstractStringBuilder;Ljava/lang/Void;)V" } : Jvm.MethodName)).before a0 Z = true := hw _ (List.mem_of_getElem? (i := 108) rfl)
theorem own_w109 {Z : State} {a0 : Array Value} (hw : own_W Z a0) : (Jvm.Cond.instanceMethod ({ cls := "java/lang/String", name := "<init>", desc := "(Ljava/lang/AbstractStringBuilder;Ljava/lang/Void;)V" } : Jvm.MethodName)).before a0 Z = true := hw _ (List.mem_of_getElem? (i := 109) rfl)
theorem own_w110 {Z : State} {a0 : Array Value} (hw : own_W Z a0) : (Jvm.Cond.code ({ cls := "java/lang/String", name := "<init>", desc := "(Ljava/lang/AbstractStringBuilder;Ljava/lang/Void;)V" } : Jvm.MethodName) jdk_42_method_150_code (5 : Nat) (Option.none : Option Jvm.ClassFile.FieldType)).before a0 Z = true := hw _ (List.mem_of_getElem? (i := 110) rfl)
theorem own_w111 {Z : State} {a0 : Array Value} (hw : own_W Z a0) : (Jvm.Cond.methodLink "java/lang/String" (1 : Nat) ({ cls := "java/lang/Object", name := "<init>", desc := "()V" } : Jvm.MethodName)).before a0 Z = true := hw _ (List.mem_of_getElem? (i := 111) rfl)
theorem own_w112 {Z : State} {a0 : Array Value} (hw : own_W Z a0) : (Jvm.Cond.methodLink "java/lang/String" (552 : Nat) ({ cls := "java/lang/AbstractStringBuilder", name := "getValue", desc := "()[B" } : Jvm.MethodName)).before a0 Z = true := hw _ (List.mem_of_getElem? (i := 112) rfl)
theorem own_w113 {Z : State} {a0 : Array Value} (hw : own_W Z a0) : (Jvm.Cond.declares ({ cls := "java/lang/AbstractStringBuilder", name := "getValue", desc := "()[B" } : Jvm.MethodName)).before a0 Z = true := hw _ (List.mem_of_getElem? (i := 113) rfl)
theorem own_w114 {Z : State} {a0 : Array Value} (hw : own_W Z a0) : (Jvm.Cond.instanceMethod ({ cls := "java/lang/AbstractStringBuilder", name := "getValue", desc := "()[B" } : Jvm.MethodName)).before a0 Z = true := hw _ (List.mem_of_getElem? (i := 114) rfl)
theorem own_w115 {Z : State} {a0 : Array Value} (hw : own_W Z a0) : (Jvm.Cond.selects "java/lang/StringBuilder" ({ cls := "java/lang/AbstractStringBuilder", name := "getValue", desc := "()[B" } : Jvm.MethodName) ({ cls := "java/lang/AbstractStringBuilder", name := "getValue", desc := "()[B" } : Jvm.MethodName)).before a0 Z = true := hw _ (List.mem_of_getElem? (i := 115) rfl)
theorem own_w116 {Z : State} {a0 : Array Value} (hw : own_W Z a0) : (Jvm.Cond.code ({ cls := "java/lang/AbstractStringBuilder", name := "getValue", desc := "()[B" } : Jvm.MethodName) jdk_68_method_64_code (1 : Nat) (Option.some (Jvm.ClassFile.FieldType.array Jvm.ClassFile.FieldType.byte))).before a0 Z = true := hw _ (List.mem_of_getElem? (i := 116) rfl)
theorem own_w117 {Z : State} {a0 : Array Value} (hw : own_W Z a0) : (Jvm.Cond.methodLink "java/lang/String" (549 : Nat) ({ cls := "java/lang/AbstractStringBuilder", name := "length", desc := "()I" } : Jvm.MethodName)).before a0 Z = true := hw _ (List.mem_of_getElem? (i := 117) rfl)
theorem own_w118 {Z : State} {a0 : Array Value} (hw : own_W Z a0) : (Jvm.Cond.declares ({ cls := "java/lang/AbstractStringBuilder", name := "length", desc := "()I" } : Jvm.MethodName)).before a0 Z = true := hw _ (List.mem_of_getElem? (i := 118) rfl)
theorem own_w119 {Z : State} {a0 : Array Value} (hw : own_W Z a0) : (Jvm.Cond.instanceMethod ({ cls := "java/lang/AbstractStringBuilder", name := "length", desc := "()I" } : Jvm.MethodName)).before a0 Z = true := hw _ (List.mem_of_getElem? (i := 119) rfl)
theorem own_w120 {Z : State} {a0 : Array Value} (hw : own_W Z a0) : (Jvm.Cond.selects "java/lang/StringBuilder" ({ cls := "java/lang/AbstractStringBuilder", name := "length", desc := "()I" } : Jvm.MethodName) ({ cls := "java/lang/StringBuilder", name := "length", desc := "()I" } : Jvm.MethodName)).before a0 Z = true := hw _ (List.mem_of_getElem? (i := 120) rfl)
theorem own_w121 {Z : State} {a0 : Array Value} (hw : own_W Z a0) : (Jvm.Cond.instanceMethod ({ cls := "java/lang/StringBuilder", name := "length", desc := "()I" } : Jvm.MethodName)).before a0 Z = true := hw _ (List.mem_of_getElem? (i := 121) rfl)
theorem own_w122 {Z : State} {a0 : Array Value} (hw : own_W Z a0) : (Jvm.Cond.code ({ cls := "java/lang/StringBuilder", name := "length", desc := "()I" } : Jvm.MethodName) jdk_67_method_93_code (1 : Nat) (Option.some Jvm.ClassFile.FieldType.int)).before a0 Z = true := hw _ (List.mem_of_getElem? (i := 122) rfl)
theorem own_w123 {Z : State} {a0 : Array Value} (hw : own_W Z a0) : (Jvm.Cond.methodLink "java/lang/StringBuilder" (343 : Nat) ({ cls := "java/lang/AbstractStringBuilder", name := "length", desc := "()I" } : Jvm.MethodName)).before a0 Z = true := hw _ (List.mem_of_getElem? (i := 123) rfl)
theorem own_w124 {Z : State} {a0 : Array Value} (hw : own_W Z a0) : (Jvm.Cond.code ({ cls := "java/lang/AbstractStringBuilder", name := "length", desc := "()I" } : Jvm.MethodName) jdk_68_method_6_code (1 : Nat) (Option.some Jvm.ClassFile.FieldType.int)).before a0 Z = true := hw _ (List.mem_of_getElem? (i := 124) rfl)
theorem own_w125 {Z : State} {a0 : Array Value} (hw : own_W Z a0) : (Jvm.Cond.methodLink "java/lang/String" (1047 : Nat) ({ cls := "java/lang/AbstractStringBuilder", name := "isLatin1", desc := "()Z" } : Jvm.MethodName)).before a0 Z = true := hw _ (List.mem_of_getElem? (i := 125) rfl)
theorem own_w126 {Z : State} {a0 : Array Value} (hw : own_W Z a0) : (Jvm.Cond.declares ({ cls := "java/lang/AbstractStringBuilder", name := "isLatin1", desc := "()Z" } : Jvm.MethodName)).before a0 Z = true := hw _ (List.mem_of_getElem? (i := 126) rfl)
theorem own_w127 {Z : State} {a0 : Array Value} (hw : own_W Z a0) : (Jvm.Cond.instanceMethod ({ cls := "java/lang/AbstractStringBuilder", name := "isLatin1", desc := "()Z" } : Jvm.MethodName)).before a0 Z = true := hw _ (List.mem_of_getElem? (i := 127) rfl)
theorem own_w128 {Z : State} {a0 : Array Value} (hw : own_W Z a0) : (Jvm.Cond.selects "java/lang/StringBuilder" ({ cls := "java/lang/AbstractStringBuilder", name := "isLatin1", desc := "()Z" } : Jvm.MethodName) ({ cls := "java/lang/AbstractStringBuilder", name := "isLatin1", desc := "()Z" } : Jvm.MethodName)).before a0 Z = true := hw _ (List.mem_of_getElem? (i := 128) rfl)
theorem own_w129 {Z : State} {a0 : Array Value} (hw : own_W Z a0) : (Jvm.Cond.code ({ cls := "java/lang/AbstractStringBuilder", name := "isLatin1", desc := "()Z" } : Jvm.MethodName) jdk_68_method_68_code (1 : Nat) (Option.some Jvm.ClassFile.FieldType.boolean)).before a0 Z = true := hw _ (List.mem_of_getElem? (i := 129) rfl)
theorem own_w130 {Z : State} {a0 : Array Value} (hw : own_W Z a0) : (Jvm.Cond.methodLink "java/lang/String" (54 : Nat) ({ cls := "java/util/Arrays", name := "copyOfRange", desc := "([BII)[B" } : Jvm.MethodName)).before a0 Z = true := hw _ (List.mem_of_getElem? (i := 130) rfl)
theorem own_w131 {Z : State} {a0 : Array Value} (hw : own_W Z a0) : (Jvm.Cond.static ({ cls := "java/util/Arrays", name := "copyOfRange", desc := "([BII)[B" } : Jvm.MethodName)).before a0 Z = true := hw _ (List.mem_of_getElem? (i := 131) rfl)
theorem own_w132 {Z : State} {a0 : Array Value} (hw : own_W Z a0) : (Jvm.Cond.initialized "java/util/Arrays").before a0 Z = true := hw _ (List.mem_of_getElem? (i := 132) rfl)
theorem own_w133 {Z : State} {a0 : Array Value} (hw : own_W Z a0) : (Jvm.Cond.code ({ cls := "java/util/Arrays", name := "copyOfRange", desc := "([BII)[B" } : Jvm.MethodName) jdk_65_method_132_code (3 : Nat) (Option.some (Jvm.ClassFile.FieldType.array Jvm.ClassFile.FieldType.byte))).before a0 Z = true := hw _ (List.mem_of_getElem? (i := 133) rfl)
theorem own_w134 {Z : State} {a0 : Array Value} (hw : own_W Z a0) : (Jvm.Cond.methodLink "java/util/Arrays" (339 : Nat) ({ cls := "java/util/Arrays", name := "copyOfRangeByte", desc := "([BII)[B" } : Jvm.MethodName)).before a0 Z = true := hw _ (List.mem_of_getElem? (i := 134) rfl)
theorem own_w135 {Z : State} {a0 : Array Value} (hw : own_W Z a0) : (Jvm.Cond.static ({ cls := "java/util/Arrays", name := "copyOfRangeByte", desc := "([BII)[B" } : Jvm.MethodName)).before a0 Z = true := hw _ (List.mem_of_getElem? (i := 135) rfl)
theorem own_w136 {Z : State} {a0 : Array Value} (hw : own_W Z a0) : (Jvm.Cond.code ({ cls := "java/util/Arrays", name := "copyOfRangeByte", desc := "([BII)[B" } : Jvm.MethodName) jdk_65_method_133_code (5 : Nat) (Option.some (Jvm.ClassFile.FieldType.array Jvm.ClassFile.FieldType.byte))).before a0 Z = true := hw _ (List.mem_of_getElem? (i := 136) rfl)
theorem own_w137 {Z : State} {a0 : Array Value} (hw : own_W Z a0) : (Jvm.Cond.methodLink "java/util/Arrays" (343 : Nat) ({ cls := "java/util/Arrays", name := "checkLength", desc := "(II)V" } : Jvm.MethodName)).before a0 Z = true := hw _ (List.mem_of_getElem? (i := 137) rfl)
theorem own_w138 {Z : State} {a0 : Array Value} (hw : own_W Z a0) : (Jvm.Cond.static ({ cls := "java/util/Arrays", name := "checkLength", desc := "(II)V" } : Jvm.MethodName)).before a0 Z = true := hw _ (List.mem_of_getElem? (i := 138) rfl)
theorem own_w139 {Z : State} {a0 : Array Value} (hw : own_W Z a0) : (Jvm.Cond.code ({ cls := "java/util/Arrays", name := "checkLength", desc := "(II)V" } : Jvm.MethodName) jdk_65_method_131_code (2 : Nat) (Option.none : Option Jvm.ClassFile.FieldType)).before a0 Z = true := hw _ (List.mem_of_getElem? (i := 139) rfl)
theorem own_w140 {Z : State} {a0 : Array Value} (hw : own_W Z a0) : (Jvm.Cond.methodLink "java/util/Arrays" (304 : Nat) ({ cls := "java/lang/Math", name := "min", desc := "(II)I" } : Jvm.MethodName)).before a0 Z = true := hw _ (List.mem_of_getElem? (i := 140) rfl)
theorem own_w141 {Z : State} {a0 : Array Value} (hw : own_W Z a0) : (Jvm.Cond.static ({ cls := "java/lang/Math", name := "min", desc := "(II)I" } : Jvm.MethodName)).before a0 Z = true := hw _ (List.mem_of_getElem? (i := 141) rfl)
theorem own_w142 {Z : State} {a0 : Array Value} (hw : own_W Z a0) : (Jvm.Cond.initialized "java/lang/Math").before a0 Z = true := hw _ (List.mem_of_getElem? (i := 142) rfl)
theorem own_w143 {Z : State} {a0 : Array Value} (hw : own_W Z a0) : (Jvm.Cond.code ({ cls := "java/lang/Math", name := "min", desc := "(II)I" } : Jvm.MethodName) jdk_29_method_69_code (2 : Nat) (Option.some Jvm.ClassFile.FieldType.int)).before a0 Z = true := hw _ (List.mem_of_getElem? (i := 143) rfl)
theorem own_w144 {Z : State} {a0 : Array Value} (hw : own_W Z a0) : (Jvm.Cond.methodLink "java/util/Arrays" (150 : Nat) ({ cls := "java/lang/System", name := "arraycopy", desc := "(Ljava/lang/Object;ILjava/lang/Object;II)V" } : Jvm.MethodName)).before a0 Z = true := hw _ (List.mem_of_getElem? (i := 144) rfl)
theorem own_w145 {Z : State} {a0 : Array Value} (hw : own_W Z a0) : (Jvm.Cond.stringLink "com/example/isoscope/isoscope/CharToStringPinLaw" (18 : Nat) "\\newline").before a0 Z = true := hw _ (List.mem_of_getElem? (i := 145) rfl)
theorem own_w146 {Z : State} {a0 : Array Value} (hw : own_W Z a0) : (Jvm.Cond.methodLink "com/example/isoscope/isoscope/CharToStringPinLaw" (20 : Nat) ({ cls := "java/lang/String", name := "equals", desc := "(Ljava/lang/Object;)Z" } : Jvm.MethodName)).before a0 Z = true := hw _ (List.mem_of_getElem? (i := 146) rfl)
theorem own_w147 {Z : State} {a0 : Array Value} (hw : own_W Z a0) : (Jvm.Cond.declares ({ cls := "java/lang/String", name := "equals", desc := "(Ljava/lang/Object;)Z" } : Jvm.MethodName)).before a0 Z = true := hw _ (List.mem_of_getElem? (i := 147) rfl)
theorem own_w148 {Z : State} {a0 : Array Value} (hw : own_W Z a0) : (Jvm.Cond.instanceMethod ({ cls := "java/lang/String", name := "equals", desc := "(Ljava/lang/Object;)Z" } : Jvm.MethodName)).before a0 Z = true := hw _ (List.mem_of_getElem? (i := 148) rfl)
theorem own_w149 {Z : State} {a0 : Array Value} (hw : own_W Z a0) : (Jvm.Cond.selects "java/lang/String" ({ cls := "java/lang/String", name := "equals", desc := "(Ljava/lang/Object;)Z" } : Jvm.MethodName) ({ cls := "java/lang/String", name := "equals", desc := "(Ljava/lang/Object;)Z" } : Jvm.MethodName)).before a0 Z = true := hw _ (List.mem_of_getElem? (i := 149) rfl)
theorem own_w150 {Z : State} {a0 : Array Value} (hw : own_W Z a0) : (Jvm.Cond.code ({ cls := "java/lang/String", name := "equals", desc := "(Ljava/lang/Object;)Z" } : Jvm.MethodName) jdk_42_method_66_code (3 : Nat) (Option.some Jvm.ClassFile.FieldType.boolean)).before a0 Z = true := hw _ (List.mem_of_getElem? (i := 150) rfl)
theorem own_w151 {Z : State} {a0 : Array Value} (hw : own_W Z a0) : (Jvm.Cond.classLink "java/lang/String" (10 : Nat) "java/lang/String").before a0 Z = true := hw _ (List.mem_of_getElem? (i := 151) rfl)
theorem own_w152 {Z : State} {a0 : Array Value} (hw : own_W Z a0) : (Jvm.Cond.methodLink "java/lang/String" (541 : Nat) ({ cls := "java/lang/StringLatin1", name := "equals", desc := "([B[B)Z" } : Jvm.MethodName)).before a0 Z = true := hw _ (List.mem_of_getElem? (i := 152) rfl)
theorem own_w153 {Z : State} {a0 : Array Value} (hw : own_W Z a0) : (Jvm.Cond.static ({ cls := "java/lang/StringLatin1", name := "equals", desc := "([B[B)Z" } : Jvm.MethodName)).before a0 Z = true := hw _ (List.mem_of_getElem? (i := 153) rfl)
theorem own_w154 {Z : State} {a0 : Array Value} (hw : own_W Z a0) : (Jvm.Cond.initialized "java/lang/StringLatin1").before a0 Z = true := hw _ (List.mem_of_getElem? (i := 154) rfl)
theorem own_w155 {Z : State} {a0 : Array Value} (hw : own_W Z a0) : (Jvm.Cond.code ({ cls := "java/lang/StringLatin1", name := "equals", desc := "([B[B)Z" } : Jvm.MethodName) jdk_43_method_13_code (3 : Nat) (Option.some Jvm.ClassFile.FieldType.boolean)).before a0 Z = true := hw _ (List.mem_of_getElem? (i := 155) rfl)
theorem own_w156 {Z : State} {a0 : Array Value} (hw : own_W Z a0) : (Jvm.Cond.constant "com/example/isoscope/isoscope/CharToStringPinLaw" (7 : Nat) (2147483647 : Int32)).before a0 Z = true := hw _ (List.mem_of_getElem? (i := 156) rfl)
theorem own_w157 {Z : State} {a0 : Array Value} (hw : own_W Z a0) : (Jvm.Cond.constant "com/example/isoscope/isoscope/CharToStringPinLaw" (8 : Nat) (1114112 : Int32)).before a0 Z = true := hw _ (List.mem_of_getElem? (i := 157) rfl)
theorem own_w158 {Z : State} {a0 : Array Value} (hw : own_W Z a0) : (Jvm.Cond.methodLink "com/example/isoscope/isoscope/Edn$Char" (25 : Nat) ({ cls := "java/lang/Character", name := "toString", desc := "(I)Ljava/lang/String;" } : Jvm.MethodName)).before a0 Z = true := hw _ (List.mem_of_getElem? (i := 158) rfl)
theorem own_w159 {Z : State} {a0 : Array Value} (hw : own_W Z a0) : (Jvm.Cond.static ({ cls := "java/lang/Character", name := "toString", desc := "(I)Ljava/lang/String;" } : Jvm.MethodName)).before a0 Z = true := hw _ (List.mem_of_getElem? (i := 159) rfl)
theorem own_w160 {Z : State} {a0 : Array Value} (hw : own_W Z a0) : (Jvm.Cond.initialized "java/lang/Character").before a0 Z = true := hw _ (List.mem_of_getElem? (i := 160) rfl)
theorem own_w161 {Z : State} {a0 : Array Value} (hw : own_W Z a0) : (Jvm.Cond.code ({ cls := "java/lang/Character", name := "toString", desc := "(I)Ljava/lang/String;" } : Jvm.MethodName) jdk_89_method_10_code (1 : Nat) (Option.some (Jvm.ClassFile.FieldType.object "java/lang/String"))).before a0 Z = true := hw _ (List.mem_of_getElem? (i := 161) rfl)
theorem own_w162 {Z : State} {a0 : Array Value} (hw : own_W Z a0) : (Jvm.Cond.methodLink "java/lang/Character" (69 : Nat) ({ cls := "java/lang/String", name := "valueOfCodePoint", desc := "(I)Ljava/lang/String;" } : Jvm.MethodName)).before a0 Z = true := hw _ (List.mem_of_getElem? (i := 162) rfl)
theorem own_w163 {Z : State} {a0 : Array Value} (hw : own_W Z a0) : (Jvm.Cond.static ({ cls := "java/lang/String", name := "valueOfCodePoint", desc := "(I)Ljava/lang/String;" } : Jvm.MethodName)).before a0 Z = true := hw _ (List.mem_of_getElem? (i := 163) rfl)
theorem own_w164 {Z : State} {a0 : Array Value} (hw : own_W Z a0) : (Jvm.Cond.code ({ cls := "java/lang/String", name := "valueOfCodePoint", desc := "(I)Ljava/lang/String;" } : Jvm.MethodName) jdk_42_method_159_code (1 : Nat) (Option.some (Jvm.ClassFile.FieldType.object "java/lang/String"))).before a0 Z = true := hw _ (List.mem_of_getElem? (i := 164) rfl)
theorem own_w165 {Z : State} {a0 : Array Value} (hw : own_W Z a0) : (Jvm.Cond.methodLink "java/lang/String" (1068 : Nat) ({ cls := "java/lang/StringLatin1", name := "canEncode", desc := "(I)Z" } : Jvm.MethodName)).before a0 Z = true := hw _ (List.mem_of_getElem? (i := 165) rfl)
theorem own_w166 {Z : State} {a0 : Array Value} (hw : own_W Z a0) : (Jvm.Cond.static ({ cls := "java/lang/StringLatin1", name := "canEncode", desc := "(I)Z" } : Jvm.MethodName)).before a0 Z = true := hw _ (List.mem_of_getElem? (i := 166) rfl)
theorem own_w167 {Z : State} {a0 : Array Value} (hw : own_W Z a0) : (Jvm.Cond.code ({ cls := "java/lang/StringLatin1", name := "canEncode", desc := "(I)Z" } : Jvm.MethodName) jdk_43_method_4_code (1 : Nat) (Option.some Jvm.ClassFile.FieldType.boolean)).before a0 Z = true := hw _ (List.mem_of_getElem? (i := 167) rfl)
theorem own_w168 {Z : State} {a0 : Array Value} (hw : own_W Z a0) : (Jvm.Cond.methodLink "java/lang/String" (1018 : Nat) ({ cls := "java/lang/StringLatin1", name := "toBytes", desc := "(C)[B" } : Jvm.MethodName)).before a0 Z = true := hw _ (List.mem_of_getElem? (i := 168) rfl)
theorem own_w169 {Z : State} {a0 : Array Value} (hw : own_W Z a0) : (Jvm.Cond.static ({ cls := "java/lang/StringLatin1", name := "toBytes", desc := "(C)[B" } : Jvm.MethodName)).before a0 Z = true := hw _ (List.mem_of_getElem? (i := 169) rfl)
theorem own_w170 {Z : State} {a0 : Array Value} (hw : own_W Z a0) : (Jvm.Cond.code ({ cls := "java/lang/StringLatin1", name := "toBytes", desc := "(C)[B" } : Jvm.MethodName) jdk_43_method_46_code (1 : Nat) (Option.some (Jvm.ClassFile.FieldType.array Jvm.ClassFile.FieldType.byte))).before a0 Z = true := hw _ (List.mem_of_getElem? (i := 170) rfl)
theorem own_w171 {Z : State} {a0 : Array Value} (hw : own_W Z a0) : (Jvm.Cond.methodLink "java/lang/String" (209 : Nat) ({ cls := "java/lang/String", name := "<init>", desc := "([BB)V" } : Jvm.MethodName)).before a0 Z = true := hw _ (List.mem_of_getElem? (i := 171) rfl)
theorem own_w172 {Z : State} {a0 : Array Value} (hw : own_W Z a0) : (Jvm.Cond.instanceMethod ({ cls := "java/lang/String", name := "<init>", desc := "([BB)V" } : Jvm.MethodName)).before a0 Z = true := hw _ (List.mem_of_getElem? (i := 172) rfl)
theorem own_w173 {Z : State} {a0 : Array Value} (hw : own_W Z a0) : (Jvm.Cond.code ({ cls := "java/lang/String", name := "<init>", desc := "([BB)V" } : Jvm.MethodName) jdk_42_method_151_code (3 : Nat) (Option.none : Option Jvm.ClassFile.FieldType)).before a0 Z = true := hw _ (List.mem_of_getElem? (i := 173) rfl)
theorem own_w174 {Z : State} {a0 : Array Value} (hw : own_W Z a0) : (Jvm.Cond.constant "com/example/isoscope/isoscope/CharToStringPinLaw" (36 : Nat) (65536 : Int32)).before a0 Z = true := hw _ (List.mem_of_getElem? (i := 174) rfl)
theorem own_w175 {Z : State} {a0 : Array Value} (hw : own_W Z a0) : (Jvm.Cond.methodLink "com/example/isoscope/isoscope/CharToStringPinLaw" (37 : Nat) ({ cls := "java/lang/String", name := "length", desc := "()I" } : Jvm.MethodName)).before a0 Z = true := hw _ (List.mem_of_getElem? (i := 175) rfl)
theorem own_w176 {Z : State} {a0 : Array Value} (hw : own_W Z a0) : (Jvm.Cond.methodLink "com/example/isoscope/isoscope/CharToStringPinLaw" (41 : Nat) ({ cls := "java/lang/String", name := "charAt", desc := "(I)C" } : Jvm.MethodName)).before a0 Z = true := hw _ (List.mem_of_getElem? (i := 176) rfl)
theorem own_w177 {Z : State} {a0 : Array Value} (hw : own_W Z a0) : (Jvm.Cond.declares ({ cls := "java/lang/String", name := "charAt", desc := "(I)C" } : Jvm.MethodName)).before a0 Z = true := hw _ (List.mem_of_getElem? (i := 177) rfl)
theorem own_w178 {Z : State} {a0 : Array Value} (hw : own_W Z a0) : (Jvm.Cond.instanceMethod ({ cls := "java/lang/String", name := "charAt", desc := "(I)C" } : Jvm.MethodName)).before a0 Z = true := hw _ (List.mem_of_getElem? (i := 178) rfl)
theorem own_w179 {Z : State} {a0 : Array Value} (hw : own_W Z a0) : (Jvm.Cond.selects "java/lang/String" ({ cls := "java/lang/String", name := "charAt", desc := "(I)C" } : Jvm.MethodName) ({ cls := "java/lang/String", name := "charAt", desc := "(I)C" } : Jvm.MethodName)).before a0 Z = true := hw _ (List.mem_of_getElem? (i := 179) rfl)
theorem own_w180 {Z : State} {a0 : Array Value} (hw : own_W Z a0) : (Jvm.Cond.code ({ cls := "java/lang/String", name := "charAt", desc := "(I)C" } : Jvm.MethodName) jdk_42_method_56_code (2 : Nat) (Option.some Jvm.ClassFile.FieldType.char)).before a0 Z = true := hw _ (List.mem_of_getElem? (i := 180) rfl)
theorem own_w181 {Z : State} {a0 : Array Value} (hw : own_W Z a0) : (Jvm.Cond.methodLink "java/lang/String" (492 : Nat) ({ cls := "java/lang/String", name := "isLatin1", desc := "()Z" } : Jvm.MethodName)).before a0 Z = true := hw _ (List.mem_of_getElem? (i := 181) rfl)
theorem own_w182 {Z : State} {a0 : Array Value} (hw : own_W Z a0) : (Jvm.Cond.declares ({ cls := "java/lang/String", name := "isLatin1", desc := "()Z" } : Jvm.MethodName)).before a0 Z = true := hw _ (List.mem_of_getElem? (i := 182) rfl)
theorem own_w183 {Z : State} {a0 : Array Value} (hw : own_W Z a0) : (Jvm.Cond.instanceMethod ({ cls := "java/lang/String", name := "isLatin1", desc := "()Z" } : Jvm.MethodName)).before a0 Z = true := hw _ (List.mem_of_getElem? (i := 183) rfl)
theorem own_w184 {Z : State} {a0 : Array Value} (hw : own_W Z a0) : (Jvm.Cond.selects "java/lang/String" ({ cls := "java/lang/String", name := "isLatin1", desc := "()Z" } : Jvm.MethodName) ({ cls := "java/lang/String", name := "isLatin1", desc := "()Z" } : Jvm.MethodName)).before a0 Z = true := hw _ (List.mem_of_getElem? (i := 184) rfl)
theorem own_w185 {Z : State} {a0 : Array Value} (hw : own_W Z a0) : (Jvm.Cond.code ({ cls := "java/lang/String", name := "isLatin1", desc := "()Z" } : Jvm.MethodName) jdk_42_method_154_code (1 : Nat) (Option.some Jvm.ClassFile.FieldType.boolean)).before a0 Z = true := hw _ (List.mem_of_getElem? (i := 185) rfl)
theorem own_w186 {Z : State} {a0 : Array Value} (hw : own_W Z a0) : (Jvm.Cond.methodLink "java/lang/String" (495 : Nat) ({ cls := "java/lang/StringLatin1", name := "charAt", desc := "([BI)C" } : Jvm.MethodName)).before a0 Z = true := hw _ (List.mem_of_getElem? (i := 186) rfl)
theorem own_w187 {Z : State} {a0 : Array Value} (hw : own_W Z a0) : (Jvm.Cond.static ({ cls := "java/lang/StringLatin1", name := "charAt", desc := "([BI)C" } : Jvm.MethodName)).before a0 Z = true := hw _ (List.mem_of_getElem? (i := 187) rfl)
theorem own_w188 {Z : State} {a0 : Array Value} (hw : own_W Z a0) : (Jvm.Cond.code ({ cls := "java/lang/StringLatin1", name := "charAt", desc := "([BI)C" } : Jvm.MethodName) jdk_43_method_2_code (2 : Nat) (Option.some Jvm.ClassFile.FieldType.char)).before a0 Z = true := hw _ (List.mem_of_getElem? (i := 188) rfl)
theorem own_w189 {Z : State} {a0 : Array Value} (hw : own_W Z a0) : (Jvm.Cond.methodLink "java/lang/StringLatin1" (9 : Nat) ({ cls := "java/lang/String", name := "checkIndex", desc := "(II)V" } : Jvm.MethodName)).before a0 Z = true := hw _ (List.mem_of_getElem? (i := 189) rfl)
theorem own_w190 {Z : State} {a0 : Array Value} (hw : own_W Z a0) : (Jvm.Cond.static ({ cls := "java/lang/String", name := "checkIndex", desc := "(II)V" } : Jvm.MethodName)).before a0 Z = true := hw _ (List.mem_of_getElem? (i := 190) rfl)
theorem own_w191 {Z : State} {a0 : Array Value} (hw : own_W Z a0) : (Jvm.Cond.code ({ cls := "java/lang/String", name := "checkIndex", desc := "(II)V" } : Jvm.MethodName) jdk_42_method_155_code (2 : Nat) (Option.none : Option Jvm.ClassFile.FieldType)).before a0 Z = true := hw _ (List.mem_of_getElem? (i := 191) rfl)
theorem own_w192 {Z : State} {a0 : Array Value} (hw : own_W Z a0) : (Jvm.Cond.fieldLink "java/lang/String" (1053 : Nat) "jdk/internal/util/Preconditions" "SIOOBE_FORMATTER" "Ljava/util/function/BiFunction;").before a0 Z = true := hw _ (List.mem_of_getElem? (i := 192) rfl)
theorem own_w193 {Z : State} {a0 : Array Value} (hw : own_W Z a0) : (Jvm.Cond.initialized "jdk/internal/util/Preconditions").before a0 Z = true := hw _ (List.mem_of_getElem? (i := 193) rfl)
theorem own_w194 {Z : State} {a0 : Array Value} (hw : own_W Z a0) : (Jvm.Cond.methodLink "java/lang/String" (1059 : Nat) ({ cls := "jdk/internal/util/Preconditions", name := "checkIndex", desc := "(IILjava/util/function/BiFunction;)I" } : Jvm.MethodName)).before a0 Z = true := hw _ (List.mem_of_getElem? (i := 194) rfl)
theorem own_w195 {Z : State} {a0 : Array Value} (hw : own_W Z a0) : (Jvm.Cond.static ({ cls := "jdk/internal/util/Preconditions", name := "checkIndex", desc := "(IILjava/util/function/BiFunction;)I" } : Jvm.MethodName)).before a0 Z = true := hw _ (List.mem_of_getElem? (i := 195) rfl)
theorem own_w196 {Z : State} {a0 : Array Value} (hw : own_W Z a0) : (Jvm.Cond.code ({ cls := "jdk/internal/util/Preconditions", name := "checkIndex", desc := "(IILjava/util/function/BiFunction;)I" } : Jvm.MethodName) jdk_41_method_11_code (3 : Nat) (Option.some Jvm.ClassFile.FieldType.int)).before a0 Z = true := hw _ (List.mem_of_getElem? (i := 196) rfl)
theorem own_w197 {Z : State} {a0 : Array Value} (hw : own_W Z a0) : (Jvm.Cond.stringLink "com/example/isoscope/isoscope/Edn$Char" (21 : Nat) "formfeed").before a0 Z = true := hw _ (List.mem_of_getElem? (i := 197) rfl)
theorem own_w198 {Z : State} {a0 : Array Value} (hw : own_W Z a0) : (Jvm.Cond.stringLink "com/example/isoscope/isoscope/CharToStringPinLaw" (32 : Nat) "\\formfeed").before a0 Z = true := hw _ (List.mem_of_getElem? (i := 198) rfl)
theorem own_w199 {Z : State} {a0 : Array Value} (hw : own_W Z a0) : (Jvm.Cond.stringLink "com/example/isoscope/isoscope/Edn$Char" (23 : Nat) "backspace").before a0 Z = true := hw _ (List.mem_of_getElem? (i := 199) rfl)
theorem own_w200 {Z : State} {a0 : Array Value} (hw : own_W Z a0) : (Jvm.Cond.stringLink "com/example/isoscope/isoscope/CharToStringPinLaw" (34 : Nat) "\\backspace").before a0 Z = true := hw _ (List.mem_of_getElem? (i := 200) rfl)
theorem own_w201 {Z : State} {a0 : Array Value} (hw : own_W Z a0) : (Jvm.Cond.methodLink "java/lang/String" (1070 : Nat) ({ cls := "java/lang/Character", name := "isBmpCodePoint", desc := "(I)Z" } : Jvm.MethodName)).before a0 Z = true := hw _ (List.mem_of_getElem? (i := 201) rfl)
theorem own_w202 {Z : State} {a0 : Array Value} (hw : own_W Z a0) : (Jvm.Cond.static ({ cls := "java/lang/Character", name := "isBmpCodePoint", desc := "(I)Z" } : Jvm.MethodName)).before a0 Z = true := hw _ (List.mem_of_getElem? (i := 202) rfl)
theorem own_w203 {Z : State} {a0 : Array Value} (hw : own_W Z a0) : (Jvm.Cond.code ({ cls := "java/lang/Character", name := "isBmpCodePoint", desc := "(I)Z" } : Jvm.MethodName) jdk_89_method_12_code (1 : Nat) (Option.some Jvm.ClassFile.FieldType.boolean)).before a0 Z = true := hw _ (List.mem_of_getElem? (i := 203) rfl)
theorem own_w204 {Z : State} {a0 : Array Value} (hw : own_W Z a0) : (Jvm.Cond.methodLink "java/lang/String" (418 : Nat) ({ cls := "java/lang/Character", name := "isSupplementaryCodePoint", desc := "(I)Z" } : Jvm.MethodName)).before a0 Z = true := hw _ (List.mem_of_getElem? (i := 204) rfl)
theorem own_w205 {Z : State} {a0 : Array Value} (hw : own_W Z a0) : (Jvm.Cond.static ({ cls := "java/lang/Character", name := "isSupplementaryCodePoint", desc := "(I)Z" } : Jvm.MethodName)).before a0 Z = true := hw _ (List.mem_of_getElem? (i := 205) rfl)
theorem own_w206 {Z : State} {a0 : Array Value} (hw : own_W Z a0) : (Jvm.Cond.code ({ cls := "java/lang/Character", name := "isSupplementaryCodePoint", desc := "(I)Z" } : Jvm.MethodName) jdk_89_method_13_code (1 : Nat) (Option.some Jvm.ClassFile.FieldType.boolean)).before a0 Z = true := hw _ (List.mem_of_getElem? (i := 206) rfl)
theorem own_w207 {Z : State} {a0 : Array Value} (hw : own_W Z a0) : (Jvm.Cond.constant "java/lang/Character" (73 : Nat) (65536 : Int32)).before a0 Z = true := hw _ (List.mem_of_getElem? (i := 207) rfl)
theorem own_w208 {Z : State} {a0 : Array Value} (hw : own_W Z a0) : (Jvm.Cond.constant "java/lang/Character" (74 : Nat) (1114112 : Int32)).before a0 Z = true := hw _ (List.mem_of_getElem? (i := 208) rfl)
theorem own_w209 {Z : State} {a0 : Array Value} (hw : own_W Z a0) : (Jvm.Cond.methodLink "java/lang/String" (1073 : Nat) ({ cls := "java/lang/StringUTF16", name := "toBytesSupplementary", desc := "(I)[B" } : Jvm.MethodName)).before a0 Z = true := hw _ (List.mem_of_getElem? (i := 209) rfl)
theorem own_w210 {Z : State} {a0 : Array Value} (hw : own_W Z a0) : (Jvm.Cond.static ({ cls := "java/lang/StringUTF16", name := "toBytesSupplementary", desc := "(I)[B" } : Jvm.MethodName)).before a0 Z = true := hw _ (List.mem_of_getElem? (i := 210) rfl)
theorem own_w211 {Z : State} {a0 : Array Value} (hw : own_W Z a0) : (Jvm.Cond.initialized "java/lang/StringUTF16").before a0 Z = true := hw _ (List.mem_of_getElem? (i := 211) rfl)
theorem own_w212 {Z : State} {a0 : Array Value} (hw : own_W Z a0) : (Jvm.Cond.code ({ cls := "java/lang/StringUTF16", name := "toBytesSupplementary", desc := "(I)[B" } : Jvm.MethodName) jdk_52_method_25_code (2 : Nat) (Option.some (Jvm.ClassFile.FieldType.array Jvm.ClassFile.FieldType.byte))).before a0 Z = true := hw _ (List.mem_of_getElem? (i := 212) rfl)
theorem own_w213 {Z : State} {a0 : Array Value} (hw : own_W Z a0) : (Jvm.Cond.methodLink "java/lang/StringUTF16" (157 : Nat) ({ cls := "java/lang/Character", name := "highSurrogate", desc := "(I)C" } : Jvm.MethodName)).before a0 Z = true := hw _ (List.mem_of_getElem? (i := 213) rfl)
theorem own_w214 {Z : State} {a0 : Array Value} (hw : own_W Z a0) : (Jvm.Cond.static ({ cls := "java/lang/Character", name := "highSurrogate", desc := "(I)C" } : Jvm.MethodName)).before a0 Z = true := hw _ (List.mem_of_getElem? (i := 214) rfl)
theorem own_w215 {Z : State} {a0 : Array Value} (hw : own_W Z a0) : (Jvm.Cond.code ({ cls := "java/lang/Character", name := "highSurrogate", desc := "(I)C" } : Jvm.MethodName) jdk_89_method_28_code (1 : Nat) (Option.some Jvm.ClassFile.FieldType.char)).before a0 Z = true := hw _ (List.mem_of_getElem? (i := 215) rfl)
theorem own_w216 {Z : State} {a0 : Array Value} (hw : own_W Z a0) : (Jvm.Cond.constant "java/lang/Character" (110 : Nat) (55232 : Int32)).before a0 Z = true := hw _ (List.mem_of_getElem? (i := 216) rfl)
theorem own_w217 {Z : State} {a0 : Array Value} (hw : own_W Z a0) : (Jvm.Cond.methodLink "java/lang/StringUTF16" (111 : Nat) ({ cls := "java/lang/StringUTF16", name := "putChar", desc := "([BII)V" } : Jvm.MethodName)).before a0 Z = true := hw _ (List.mem_of_getElem? (i := 217) rfl)
theorem own_w218 {Z : State} {a0 : Array Value} (hw : own_W Z a0) : (Jvm.Cond.static ({ cls := "java/lang/StringUTF16", name := "putChar", desc := "([BII)V" } : Jvm.MethodName)).before a0 Z = true := hw _ (List.mem_of_getElem? (i := 218) rfl)
theorem own_w219 {Z : State} {a0 : Array Value} (hw : own_W Z a0) : (Jvm.Cond.code ({ cls := "java/lang/StringUTF16", name := "putChar", desc := "([BII)V" } : Jvm.MethodName) jdk_52_method_4_code (3 : Nat) (Option.none : Option Jvm.ClassFile.FieldType)).before a0 Z = true := hw _ (List.mem_of_getElem? (i := 219) rfl)
theorem own_w220 {Z : State} {a0 : Array Value} (hw : own_W Z a0) : (Jvm.Cond.fieldLink "java/lang/StringUTF16" (44 : Nat) "java/lang/StringUTF16" "$assertionsDisabled" "Z").before a0 Z = true := hw _ (List.mem_of_getElem? (i := 220) rfl)
theorem own_w221 {Z : State} {a0 : Array Value} (hw : own_W Z a0) : (Jvm.Cond.fieldLink "java/lang/StringUTF16" (59 : Nat) "java/lang/StringUTF16" "HI_BYTE_SHIFT" "I").before a0 Z = true := hw _ (List.mem_of_getElem? (i := 221) rfl)
theorem own_w222 {Z : State} {a0 : Array Value} (hw : own_W Z a0) : (Jvm.Cond.fieldLink "java/lang/StringUTF16" (63 : Nat) "java/lang/StringUTF16" "LO_BYTE_SHIFT" "I").before a0 Z = true := hw _ (List.mem_of_getElem? (i := 222) rfl)
theorem own_w223 {Z : State} {a0 : Array Value} (hw : own_W Z a0) : (Jvm.Cond.methodLink "java/lang/StringUTF16" (161 : Nat) ({ cls := "java/lang/Character", name := "lowSurrogate", desc := "(I)C" } : Jvm.MethodName)).before a0 Z = true := hw _ (List.mem_of_getElem? (i := 223) rfl)
theorem own_w224 {Z : State} {a0 : Array Value} (hw : own_W Z a0) : (Jvm.Cond.static ({ cls := "java/lang/Character", name := "lowSurrogate", desc := "(I)C" } : Jvm.MethodName)).before a0 Z = true := hw _ (List.mem_of_getElem? (i := 224) rfl)
theorem own_w225 {Z : State} {a0 : Array Value} (hw : own_W Z a0) : (Jvm.Cond.code ({ cls := "java/lang/Character", name := "lowSurrogate", desc := "(I)C" } : Jvm.MethodName) jdk_89_method_29_code (1 : Nat) (Option.some Jvm.ClassFile.FieldType.char)).before a0 Z = true := hw _ (List.mem_of_getElem? (i := 225) rfl)
theorem own_w226 {Z : State} {a0 : Array Value} (hw : own_W Z a0) : (Jvm.Cond.constant "java/lang/Character" (76 : Nat) (56320 : Int32)).before a0 Z = true := hw _ (List.mem_of_getElem? (i := 226) rfl)
theorem own_w227 {Z : State} {a0 : Array Value} (hw : own_W Z a0) : (Jvm.Cond.methodLink "java/lang/AbstractStringBuilder" (195 : Nat) ({ cls := "java/lang/AbstractStringBuilder", name := "inflate", desc := "()V" } : Jvm.MethodName)).before a0 Z = true := hw _ (List.mem_of_getElem? (i := 227) rfl)
theorem own_w228 {Z : State} {a0 : Array Value} (hw : own_W Z a0) : (Jvm.Cond.instanceMethod ({ cls := "java/lang/AbstractStringBuilder", name := "inflate", desc := "()V" } : Jvm.MethodName)).before a0 Z = true := hw _ (List.mem_of_getElem? (i := 228) rfl)
theorem own_w230 {Z : State} {a0 : Array Value} (hw : own_W Z a0) : (Jvm.Cond.selects "java/lang/StringBuilder" ({ cls := "java/lang/AbstractStringBuilder", name := "inflate", desc := "()V" } : Jvm.MethodName) ({ cls := "java/lang/AbstractStringBuilder", name := "inflate", desc := "()V" } : Jvm.MethodName)).before a0 Z = true := hw _ (List.mem_of_getElem? (i := 230) rfl)
theorem own_w231 {Z : State} {a0 : Array Value} (hw : own_W Z a0) : (Jvm.Cond.code ({ cls := "java/lang/AbstractStringBuilder", name := "inflate", desc := "()V" } : Jvm.MethodName) jdk_68_method_11_code (2 : Nat) (Option.none : Option Jvm.ClassFile.FieldType)).before a0 Z = true := hw _ (List.mem_of_getElem? (i := 231) rfl)
theorem own_w232 {Z : State} {a0 : Array Value} (hw : own_W Z a0) : (Jvm.Cond.methodLink "java/lang/AbstractStringBuilder" (83 : Nat) ({ cls := "java/lang/AbstractStringBuilder", name := "isLatin1", desc := "()Z" } : Jvm.MethodName)).before a0 Z = true := hw _ (List.mem_of_getElem? (i := 232) rfl)
theorem own_w233 {Z : State} {a0 : Array Value} (hw : own_W Z a0) : (Jvm.Cond.methodLink "java/lang/AbstractStringBuilder" (26 : Nat) ({ cls := "java/lang/StringUTF16", name := "newBytesFor", desc := "(I)[B" } : Jvm.MethodName)).before a0 Z = true := hw _ (List.mem_of_getElem? (i := 233) rfl)
theorem own_w234 {Z : State} {a0 : Array Value} (hw : own_W Z a0) : (Jvm.Cond.static ({ cls := "java/lang/StringUTF16", name := "newBytesFor", desc := "(I)[B" } : Jvm.MethodName)).before a0 Z = true := hw _ (List.mem_of_getElem? (i := 234) rfl)
theorem own_w235 {Z : State} {a0 : Array Value} (hw : own_W Z a0) : (Jvm.Cond.code ({ cls := "java/lang/StringUTF16", name := "newBytesFor", desc := "(I)[B" } : Jvm.MethodName) jdk_52_method_2_code (1 : Nat) (Option.some (Jvm.ClassFile.FieldType.array Jvm.ClassFile.FieldType.byte))).before a0 Z = true := hw _ (List.mem_of_getElem? (i := 235) rfl)
theorem own_w236 {Z : State} {a0 : Array Value} (hw : own_W Z a0) : (Jvm.Cond.methodLink "java/lang/StringUTF16" (11 : Nat) ({ cls := "java/lang/StringUTF16", name := "newBytesLength", desc := "(I)I" } : Jvm.MethodName)).before a0 Z = true := hw _ (List.mem_of_getElem? (i := 236) rfl)
theorem own_w237 {Z : State} {a0 : Array Value} (hw : own_W Z a0) : (Jvm.Cond.static ({ cls := "java/lang/StringUTF16", name := "newBytesLength", desc := "(I)I" } : Jvm.MethodName)).before a0 Z = true := hw _ (List.mem_of_getElem? (i := 237) rfl)
theorem own_w238 {Z : State} {a0 : Array Value} (hw : own_W Z a0) : (Jvm.Cond.code ({ cls := "java/lang/StringUTF16", name := "newBytesLength", desc := "(I)I" } : Jvm.MethodName) jdk_52_method_3_code (1 : Nat) (Option.some Jvm.ClassFile.FieldType.int)).before a0 Z = true := hw _ (List.mem_of_getElem? (i := 238) rfl)
theorem own_w239 {Z : State} {a0 : Array Value} (hw : own_W Z a0) : (Jvm.Cond.constant "java/lang/StringUTF16" (20 : Nat) (1073741823 : Int32)).before a0 Z = true := hw _ (List.mem_of_getElem? (i := 239) rfl)
theorem own_w240 {Z : State} {a0 : Array Value} (hw : own_W Z a0) : (Jvm.Cond.methodLink "java/lang/AbstractStringBuilder" (125 : Nat) ({ cls := "java/lang/StringLatin1", name := "inflate", desc := "([BI[BII)V" } : Jvm.MethodName)).before a0 Z = true := hw _ (List.mem_of_getElem? (i := 240) rfl)
theorem own_w241 {Z : State} {a0 : Array Value} (hw : own_W Z a0) : (Jvm.Cond.static ({ cls := "java/lang/StringLatin1", name := "inflate", desc := "([BI[BII)V" } : Jvm.MethodName)).before a0 Z = true := hw _ (List.mem_of_getElem? (i := 241) rfl)
theorem own_w242 {Z : State} {a0 : Array Value} (hw : own_W Z a0) : (Jvm.Cond.code ({ cls := "java/lang/StringLatin1", name := "inflate", desc := "([BI[BII)V" } : Jvm.MethodName) jdk_43_method_50_code (5 : Nat) (Option.none : Option Jvm.ClassFile.FieldType)).before a0 Z = true := hw _ (List.mem_of_getElem? (i := 242) rfl)
theorem own_w243 {Z : State} {a0 : Array Value} (hw : own_W Z a0) : (Jvm.Cond.methodLink "java/lang/StringLatin1" (240 : Nat) ({ cls := "java/lang/StringUTF16", name := "inflate", desc := "([BI[BII)V" } : Jvm.MethodName)).before a0 Z = true := hw _ (List.mem_of_getElem? (i := 243) rfl)
theorem own_w244 {Z : State} {a0 : Array Value} (hw : own_W Z a0) : (Jvm.Cond.static ({ cls := "java/lang/StringUTF16", name := "inflate", desc := "([BI[BII)V" } : Jvm.MethodName)).before a0 Z = true := hw _ (List.mem_of_getElem? (i := 244) rfl)
theorem own_w245 {Z : State} {a0 : Array Value} (hw : own_W Z a0) : (Jvm.Cond.code ({ cls := "java/lang/StringUTF16", name := "inflate", desc := "([BI[BII)V" } : Jvm.MethodName) jdk_52_method_86_code (6 : Nat) (Option.none : Option Jvm.ClassFile.FieldType)).before a0 Z = true := hw _ (List.mem_of_getElem? (i := 245) rfl)
theorem own_w246 {Z : State} {a0 : Array Value} (hw : own_W Z a0) : (Jvm.Cond.methodLink "java/lang/StringUTF16" (173 : Nat) ({ cls := "java/lang/StringUTF16", name := "checkBoundsOffCount", desc := "(II[B)V" } : Jvm.MethodName)).before a0 Z = true := hw _ (List.mem_of_getElem? (i := 246) rfl)
theorem own_w247 {Z : State} {a0 : Array Value} (hw : own_W Z a0) : (Jvm.Cond.static ({ cls := "java/lang/StringUTF16", name := "checkBoundsOffCount", desc := "(II[B)V" } : Jvm.MethodName)).before a0 Z = true := hw _ (List.mem_of_getElem? (i := 247) rfl)
theorem own_w248 {Z : State} {a0 : Array Value} (hw : own_W Z a0) : (Jvm.Cond.code ({ cls := "java/lang/StringUTF16", name := "checkBoundsOffCount", desc := "(II[B)V" } : Jvm.MethodName) jdk_52_method_94_code (3 : Nat) (Option.none : Option Jvm.ClassFile.FieldType)).before a0 Z = true := hw _ (List.mem_of_getElem? (i := 248) rfl)
theorem own_w249 {Z : State} {a0 : Array Value} (hw : own_W Z a0) : (Jvm.Cond.methodLink "java/lang/StringUTF16" (48 : Nat) ({ cls := "java/lang/StringUTF16", name := "length", desc := "([B)I" } : Jvm.MethodName)).before a0 Z = true := hw _ (List.mem_of_getElem? (i := 249) rfl)
theorem own_w250 {Z : State} {a0 : Array Value} (hw : own_W Z a0) : (Jvm.Cond.static ({ cls := "java/lang/StringUTF16", name := "length", desc := "([B)I" } : Jvm.MethodName)).before a0 Z = true := hw _ (List.mem_of_getElem? (i := 250) rfl)
theorem own_w251 {Z : State} {a0 : Array Value} (hw : own_W Z a0) : (Jvm.Cond.code ({ cls := "java/lang/StringUTF16", name := "length", desc := "([B)I" } : Jvm.MethodName) jdk_52_method_6_code (1 : Nat) (Option.some Jvm.ClassFile.FieldType.int)).before a0 Z = true := hw _ (List.mem_of_getElem? (i := 251) rfl)
theorem own_w252 {Z : State} {a0 : Array Value} (hw : own_W Z a0) : (Jvm.Cond.methodLink "java/lang/StringUTF16" (419 : Nat) ({ cls := "java/lang/String", name := "checkBoundsOffCount", desc := "(III)I" } : Jvm.MethodName)).before a0 Z = true := hw _ (List.mem_of_getElem? (i := 252) rfl)
theorem own_w253 {Z : State} {a0 : Array Value} (hw : own_W Z a0) : (Jvm.Cond.static ({ cls := "java/lang/String", name := "checkBoundsOffCount", desc := "(III)I" } : Jvm.MethodName)).before a0 Z = true := hw _ (List.mem_of_getElem? (i := 253) rfl)
theorem own_w254 {Z : State} {a0 : Array Value} (hw : own_W Z a0) : (Jvm.Cond.code ({ cls := "java/lang/String", name := "checkBoundsOffCount", desc := "(III)I" } : Jvm.MethodName) jdk_42_method_157_code (3 : Nat) (Option.some Jvm.ClassFile.FieldType.int)).before a0 Z = true := hw _ (List.mem_of_getElem? (i := 254) rfl)
theorem own_w255 {Z : State} {a0 : Array Value} (hw : own_W Z a0) : (Jvm.Cond.methodLink "java/lang/String" (1065 : Nat) ({ cls := "jdk/internal/util/Preconditions", name := "checkFromIndexSize", desc := "(IIILjava/util/function/BiFunction;)I" } : Jvm.MethodName)).before a0 Z = true := hw _ (List.mem_of_getElem? (i := 255) rfl)
theorem own_w256 {Z : State} {a0 : Array Value} (hw : own_W Z a0) : (Jvm.Cond.static ({ cls := "jdk/internal/util/Preconditions", name := "checkFromIndexSize", desc := "(IIILjava/util/function/BiFunction;)I" } : Jvm.MethodName)).before a0 Z = true := hw _ (List.mem_of_getElem? (i := 256) rfl)
theorem own_w257 {Z : State} {a0 : Array Value} (hw : own_W Z a0) : (Jvm.Cond.code ({ cls := "jdk/internal/util/Preconditions", name := "checkFromIndexSize", desc := "(IIILjava/util/function/BiFunction;)I" } : Jvm.MethodName) jdk_41_method_13_code (4 : Nat) (Option.some Jvm.ClassFile.FieldType.int)).before a0 Z = true := hw _ (List.mem_of_getElem? (i := 257) rfl)
theorem own_w258 {Z : State} {a0 : Array Value} (hw : own_W Z a0) : (Jvm.Cond.fieldLink "java/lang/String" (1048 : Nat) "java/lang/AbstractStringBuilder" "maybeLatin1" "Z").before a0 Z = true := hw _ (List.mem_of_getElem? (i := 258) rfl)
theorem own_w259 {Z : State} {a0 : Array Value} (hw : own_W Z a0) : (Jvm.Cond.lays "java/lang/StringBuilder" "java/lang/AbstractStringBuilder" "maybeLatin1" "Z").before a0 Z = true := hw _ (List.mem_of_getElem? (i := 259) rfl)
theorem own_w260 {Z : State} {a0 : Array Value} (hw : own_W Z a0) : (Jvm.Cond.constant "com/example/isoscope/isoscope/CharToStringPinLaw" (45 : Nat) (55296 : Int32)).before a0 Z = true := hw _ (List.mem_of_getElem? (i := 260) rfl)
theorem own_w261 {Z : State} {a0 : Array Value} (hw : own_W Z a0) : (Jvm.Cond.constant "com/example/isoscope/isoscope/CharToStringPinLaw" (46 : Nat) (56320 : Int32)).before a0 Z = true := hw _ (List.mem_of_getElem? (i := 261) rfl)
theorem own_w262 {Z : State} {a0 : Array Value} (hw : own_W Z a0) : (Jvm.Cond.methodLink "java/lang/String" (498 : Nat) ({ cls := "java/lang/StringUTF16", name := "charAt", desc := "([BI)C" } : Jvm.MethodName)).before a0 Z = true := hw _ (List.mem_of_getElem? (i := 262) rfl)
theorem own_w263 {Z : State} {a0 : Array Value} (hw : own_W Z a0) : (Jvm.Cond.static ({ cls := "java/lang/StringUTF16", name := "charAt", desc := "([BI)C" } : Jvm.MethodName)).before a0 Z = true := hw _ (List.mem_of_getElem? (i := 263) rfl)
theorem own_w264 {Z : State} {a0 : Array Value} (hw : own_W Z a0) : (Jvm.Cond.code ({ cls := "java/lang/StringUTF16", name := "charAt", desc := "([BI)C" } : Jvm.MethodName) jdk_52_method_83_code (2 : Nat) (Option.some Jvm.ClassFile.FieldType.char)).before a0 Z = true := hw _ (List.mem_of_getElem? (i := 264) rfl)
theorem own_w265 {Z : State} {a0 : Array Value} (hw : own_W Z a0) : (Jvm.Cond.methodLink "java/lang/StringUTF16" (67 : Nat) ({ cls := "java/lang/StringUTF16", name := "checkIndex", desc := "(I[B)V" } : Jvm.MethodName)).before a0 Z = true := hw _ (List.mem_of_getElem? (i := 265) rfl)
theorem own_w266 {Z : State} {a0 : Array Value} (hw : own_W Z a0) : (Jvm.Cond.static ({ cls := "java/lang/StringUTF16", name := "checkIndex", desc := "(I[B)V" } : Jvm.MethodName)).before a0 Z = true := hw _ (List.mem_of_getElem? (i := 266) rfl)
theorem own_w267 {Z : State} {a0 : Array Value} (hw : own_W Z a0) : (Jvm.Cond.code ({ cls := "java/lang/StringUTF16", name := "checkIndex", desc := "(I[B)V" } : Jvm.MethodName) jdk_52_method_91_code (2 : Nat) (Option.none : Option Jvm.ClassFile.FieldType)).before a0 Z = true := hw _ (List.mem_of_getElem? (i := 267) rfl)
theorem own_w268 {Z : State} {a0 : Array Value} (hw : own_W Z a0) : (Jvm.Cond.methodLink "java/lang/StringUTF16" (414 : Nat) ({ cls := "java/lang/String", name := "checkIndex", desc := "(II)V" } : Jvm.MethodName)).before a0 Z = true := hw _ (List.mem_of_getElem? (i := 268) rfl)
theorem own_w269 {Z : State} {a0 : Array Value} (hw : own_W Z a0) : (Jvm.Cond.methodLink "java/lang/StringUTF16" (71 : Nat) ({ cls := "java/lang/StringUTF16", name := "getChar", desc := "([BI)C" } : Jvm.MethodName)).before a0 Z = true := hw _ (List.mem_of_getElem? (i := 269) rfl)
theorem own_w270 {Z : State} {a0 : Array Value} (hw : own_W Z a0) : (Jvm.Cond.static ({ cls := "java/lang/StringUTF16", name := "getChar", desc := "([BI)C" } : Jvm.MethodName)).before a0 Z = true := hw _ (List.mem_of_getElem? (i := 270) rfl)
theorem own_w271 {Z : State} {a0 : Array Value} (hw : own_W Z a0) : (Jvm.Cond.code ({ cls := "java/lang/StringUTF16", name := "getChar", desc := "([BI)C" } : Jvm.MethodName) jdk_52_method_5_code (2 : Nat) (Option.some Jvm.ClassFile.FieldType.char)).before a0 Z = true := hw _ (List.mem_of_getElem? (i := 271) rfl)
theorem own_w272 {Z : State} {a0 : Array Value} (hw : own_W Z a0) : (Jvm.Cond.stringLink "com/example/isoscope/isoscope/Edn$Char" (19 : Nat) "tab").before a0 Z = true := hw _ (List.mem_of_getElem? (i := 272) rfl)
theorem own_w273 {Z : State} {a0 : Array Value} (hw : own_W Z a0) : (Jvm.Cond.stringLink "com/example/isoscope/isoscope/CharToStringPinLaw" (30 : Nat) "\\tab").before a0 Z = true := hw _ (List.mem_of_getElem? (i := 273) rfl)
theorem own_w274 {Z : State} {a0 : Array Value} (hw : own_W Z a0) : (Jvm.Cond.stringLink "com/example/isoscope/isoscope/Edn$Char" (15 : Nat) "return").before a0 Z = true := hw _ (List.mem_of_getElem? (i := 274) rfl)
theorem own_w275 {Z : State} {a0 : Array Value} (hw : own_W Z a0) : (Jvm.Cond.stringLink "com/example/isoscope/isoscope/CharToStringPinLaw" (26 : Nat) "\\return").before a0 Z = true := hw _ (List.mem_of_getElem? (i := 275) rfl)
theorem own_w276 {Z : State} {a0 : Array Value} (hw : own_W Z a0) : (Jvm.Cond.stringLink "com/example/isoscope/isoscope/Edn$Char" (17 : Nat) "space").before a0 Z = true := hw _ (List.mem_of_getElem? (i := 276) rfl)
theorem own_w277 {Z : State} {a0 : Array Value} (hw : own_W Z a0) : (Jvm.Cond.stringLink "com/example/isoscope/isoscope/CharToStringPinLaw" (28 : Nat) "\\space").before a0 Z = true := hw _ (List.mem_of_getElem? (i := 277) rfl)
theorem own_w278 {Z : State} {a0 : Array Value} (hw : own_W Z a0) : (Jvm.Cond.methodLink "java/lang/String" (1021 : Nat) ({ cls := "java/lang/StringUTF16", name := "toBytes", desc := "(C)[B" } : Jvm.MethodName)).before a0 Z = true := hw _ (List.mem_of_getElem? (i := 278) rfl)
theorem own_w279 {Z : State} {a0 : Array Value} (hw : own_W Z a0) : (Jvm.Cond.static ({ cls := "java/lang/StringUTF16", name := "toBytes", desc := "(C)[B" } : Jvm.MethodName)).before a0 Z = true := hw _ (List.mem_of_getElem? (i := 279) rfl)
theorem own_w280 {Z : State} {a0 : Array Value} (hw : own_W Z a0) : (Jvm.Cond.code ({ cls := "java/lang/StringUTF16", name := "toBytes", desc := "(C)[B" } : Jvm.MethodName) jdk_52_method_24_code (2 : Nat) (Option.some (Jvm.ClassFile.FieldType.array Jvm.ClassFile.FieldType.byte))).before a0 Z = true := hw _ (List.mem_of_getElem? (i := 280) rfl)
theorem own_d1_0 : decode prog_8_method_1_code 0 = .ok (.aload_n 0, 1) := by decide +kernel
theorem own_d1_1 : decode prog_8_method_1_code 1 = .ok (.invokespecial 1, 3) := by decide +kernel
theorem own_d1_4 : decode prog_8_method_1_code 4 = .ok (.aload_n 0, 1) := by decide +kernel
theorem own_d1_5 : decode prog_8_method_1_code 5 = .ok (.iload_n 1, 1) := by decide +kernel
theorem own_d1_6 : decode prog_8_method_1_code 6 = .ok (.putfield 7, 3) := by decide +kernel
theorem own_d1_9 : decode prog_8_method_1_code 9 = .ok (.return_, 1) := by decide +kernel
theorem own_d2_0 : decode jdk_30_method_1_code 0 = .ok (.aload_n 0, 1) := by decide +kernel
theorem own_d2_1 : decode jdk_30_method_1_code 1 = .ok (.invokespecial 1, 3) := by decide +kernel
theorem own_d2_4 : decode jdk_30_method_1_code 4 = .ok (.return_, 1) := by decide +kernel
theorem own_d4_0 : decode prog_8_method_2_code 0 = .ok (.aload_n 0, 1) := by decide +kernel
theorem own_d4_1 : decode prog_8_method_2_code 1 = .ok (.getfield 7, 3) := by decide +kernel
theorem own_d4_4 : decode prog_8_method_2_code 4 = .ok (.lookupswitch 90 #[(8, 85), (9, 75), (10, 60), (12, 80), (13, 65), (32, 70)], 60) := by decide +kernel
theorem own_d4_64 : decode prog_8_method_2_code 64 = .ok (.ldc 13, 2) := by decide +kernel
theorem own_d4_66 : decode prog_8_method_2_code 66 = .ok (.goto 35, 3) := by decide +kernel
theorem own_d4_69 : decode prog_8_method_2_code 69 = .ok (.ldc 15, 2) := by decide +kernel
theorem own_d4_71 : decode prog_8_method_2_code 71 = .ok (.goto 30, 3) := by decide +kernel
theorem own_d4_74 : decode prog_8_method_2_code 74 = .ok (.ldc 17, 2) := by decide +kernel
theorem own_d4_76 : decode prog_8_method_2_code 76 = .ok (.goto 25, 3) := by decide +kernel
theorem own_d4_79 : decode prog_8_method_2_code 79 = .ok (.ldc 19, 2) := by decide +kernel
theorem own_d4_81 : decode prog_8_method_2_code 81 = .ok (.goto 20, 3) := by decide +kernel
theorem own_d4_84 : decode prog_8_method_2_code 84 = .ok (.ldc 21, 2) := by decide +kernel
theorem own_d4_86 : decode prog_8_method_2_code 86 = .ok (.goto 15, 3) := by decide +kernel
theorem own_d4_89 : decode prog_8_method_2_code 89 = .ok (.ldc 23, 2) := by decide +kernel
theorem own_d4_91 : decode prog_8_method_2_code 91 = .ok (.goto 10, 3) := by decide +kernel
theorem own_d4_94 : decode prog_8_method_2_code 94 = .ok (.aload_n 0, 1) := by decide +kernel
theorem own_d4_95 : decode prog_8_method_2_code 95 = .ok (.getfield 7, 3) := by decide +kernel
theorem own_d4_98 : decode prog_8_method_2_code 98 = .ok (.invokestatic 25, 3) := by decide +kernel
theorem own_d4_101 : decode prog_8_method_2_code 101 = .ok (.astore_n 1, 1) := by decide +kernel
theorem own_d4_102 : decode prog_8_method_2_code 102 = .ok (.new 31, 3) := by decide +kernel
theorem own_d4_105 : decode prog_8_method_2_code 105 = .ok (.dup, 1) := by decide +kernel
theorem own_d4_106 : decode prog_8_method_2_code 106 = .ok (.invokespecial 33, 3) := by decide +kernel
theorem own_d4_109 : decode prog_8_method_2_code 109 = .ok (.ldc 34, 2) := by decide +kernel
theorem own_d4_111 : decode prog_8_method_2_code 111 = .ok (.invokevirtual 36, 3) := by decide +kernel
theorem own_d4_114 : decode prog_8_method_2_code 114 = .ok (.aload_n 1, 1) := by decide +kernel
theorem own_d4_115 : decode prog_8_method_2_code 115 = .ok (.invokevirtual 36, 3) := by decide +kernel
theorem own_d4_118 : decode prog_8_method_2_code 118 = .ok (.invokevirtual 40, 3) := by decide +kernel
theorem own_d4_121 : decode prog_8_method_2_code 121 = .ok (.areturn, 1) := by decide +kernel
theorem own_d5_0 : decode jdk_67_method_1_code 0 = .ok (.aload_n 0, 1) := by decide +kernel
theorem own_d5_1 : decode jdk_67_method_1_code 1 = .ok (.bipush 16, 2) := by decide +kernel
theorem own_d5_3 : decode jdk_67_method_1_code 3 = .ok (.invokespecial 1, 3) := by decide +kernel
theorem own_d5_6 : decode jdk_67_method_1_code 6 = .ok (.return_, 1) := by decide +kernel
theorem own_d6_0 : decode jdk_68_method_2_code 0 = .ok (.aload_n 0, 1) := by decide +kernel
theorem own_d6_1 : decode jdk_68_method_2_code 1 = .ok (.invokespecial 3, 3) := by decide +kernel
theorem own_d6_4 : decode jdk_68_method_2_code 4 = .ok (.getstatic 18, 3) := by decide +kernel
theorem own_d6_7 : decode jdk_68_method_2_code 7 = .ok (.ifCond .eq 18, 3) := by decide +kernel
theorem own_d6_10 : decode jdk_68_method_2_code 10 = .ok (.aload_n 0, 1) := by decide +kernel
theorem own_d6_11 : decode jdk_68_method_2_code 11 = .ok (.iload_n 1, 1) := by decide +kernel
theorem own_d6_12 : decode jdk_68_method_2_code 12 = .ok (.newarray .byte, 2) := by decide +kernel
theorem own_d6_14 : decode jdk_68_method_2_code 14 = .ok (.putfield 15, 3) := by decide +kernel
theorem own_d6_17 : decode jdk_68_method_2_code 17 = .ok (.aload_n 0, 1) := by decide +kernel
theorem own_d6_18 : decode jdk_68_method_2_code 18 = .ok (.iconst 0, 1) := by decide +kernel
theorem own_d6_19 : decode jdk_68_method_2_code 19 = .ok (.putfield 22, 3) := by decide +kernel
theorem own_d6_22 : decode jdk_68_method_2_code 22 = .ok (.goto 16, 3) := by decide +kernel
theorem own_d6_38 : decode jdk_68_method_2_code 38 = .ok (.return_, 1) := by decide +kernel
theorem own_d7_0 : decode jdk_67_method_7_code 0 = .ok (.aload_n 0, 1) := by decide +kernel
theorem own_d7_1 : decode jdk_67_method_7_code 1 = .ok (.aload_n 1, 1) := by decide +kernel
theorem own_d7_2 : decode jdk_67_method_7_code 2 = .ok (.invokespecial 29, 3) := by decide +kernel
theorem own_d7_5 : decode jdk_67_method_7_code 5 = .ok (.pop, 1) := by decide +kernel
theorem own_d7_6 : decode jdk_67_method_7_code 6 = .ok (.aload_n 0, 1) := by decide +kernel
theorem own_d7_7 : decode jdk_67_method_7_code 7 = .ok (.areturn, 1) := by decide +kernel
theorem own_d8_0 : decode jdk_68_method_22_code 0 = .ok (.aload_n 1, 1) := by decide +kernel
theorem own_d8_1 : decode jdk_68_method_22_code 1 = .ok (.ifnonnull 8, 3) := by decide +kernel
theorem own_d8_9 : decode jdk_68_method_22_code 9 = .ok (.aload_n 1, 1) := by decide +kernel
theorem own_d8_10 : decode jdk_68_method_22_code 10 = .ok (.invokevirtual 32, 3) := by decide +kernel
theorem own_d8_13 : decode jdk_68_method_22_code 13 = .ok (.istore_n 2, 1) := by decide +kernel
theorem own_d8_14 : decode jdk_68_method_22_code 14 = .ok (.aload_n 0, 1) := by decide +kernel
theorem own_d8_15 : decode jdk_68_method_22_code 15 = .ok (.aload_n 0, 1) := by decide +kernel
theorem own_d8_16 : decode jdk_68_method_22_code 16 = .ok (.getfield 79, 3) := by decide +kernel
theorem own_d8_19 : decode jdk_68_method_22_code 19 = .ok (.iload_n 2, 1) := by decide +kernel
theorem own_d8_20 : decode jdk_68_method_22_code 20 = .ok (.iadd, 1) := by decide +kernel
theorem own_d8_21 : decode jdk_68_method_22_code 21 = .ok (.invokevirtual 100, 3) := by decide +kernel
theorem own_d8_24 : decode jdk_68_method_22_code 24 = .ok (.aload_n 0, 1) := by decide +kernel
theorem own_d8_25 : decode jdk_68_method_22_code 25 = .ok (.aload_n 0, 1) := by decide +kernel
theorem own_d8_26 : decode jdk_68_method_22_code 26 = .ok (.getfield 79, 3) := by decide +kernel
theorem own_d8_29 : decode jdk_68_method_22_code 29 = .ok (.aload_n 1, 1) := by decide +kernel
theorem own_d8_30 : decode jdk_68_method_22_code 30 = .ok (.invokevirtual 208, 3) := by decide +kernel
theorem own_d8_33 : decode jdk_68_method_22_code 33 = .ok (.aload_n 0, 1) := by decide +kernel
theorem own_d8_34 : decode jdk_68_method_22_code 34 = .ok (.dup, 1) := by decide +kernel
theorem own_d8_35 : decode jdk_68_method_22_code 35 = .ok (.getfield 79, 3) := by decide +kernel
theorem own_d8_38 : decode jdk_68_method_22_code 38 = .ok (.iload_n 2, 1) := by decide +kernel
theorem own_d8_39 : decode jdk_68_method_22_code 39 = .ok (.iadd, 1) := by decide +kernel
theorem own_d8_40 : decode jdk_68_method_22_code 40 = .ok (.putfield 79, 3) := by decide +kernel
theorem own_d8_43 : decode jdk_68_method_22_code 43 = .ok (.aload_n 0, 1) := by decide +kernel
theorem own_d8_44 : decode jdk_68_method_22_code 44 = .ok (.areturn, 1) := by decide +kernel
theorem own_d9_0 : decode jdk_42_method_54_code 0 = .ok (.aload_n 0, 1) := by decide +kernel
theorem own_d9_1 : decode jdk_42_method_54_code 1 = .ok (.getfield 9, 3) := by decide +kernel
theorem own_d9_4 : decode jdk_42_method_54_code 4 = .ok (.arraylength, 1) := by decide +kernel
theorem own_d9_5 : decode jdk_42_method_54_code 5 = .ok (.aload_n 0, 1) := by decide +kernel
theorem own_d9_6 : decode jdk_42_method_54_code 6 = .ok (.invokevirtual 335, 3) := by decide +kernel
theorem own_d9_9 : decode jdk_42_method_54_code 9 = .ok (.ishr, 1) := by decide +kernel
theorem own_d9_10 : decode jdk_42_method_54_code 10 = .ok (.ireturn, 1) := by decide +kernel
theorem own_d10_0 : decode jdk_42_method_152_code 0 = .ok (.getstatic 38, 3) := by decide +kernel
theorem own_d10_3 : decode jdk_42_method_152_code 3 = .ok (.ifCond .eq 10, 3) := by decide +kernel
theorem own_d10_6 : decode jdk_42_method_152_code 6 = .ok (.aload_n 0, 1) := by decide +kernel
theorem own_d10_7 : decode jdk_42_method_152_code 7 = .ok (.getfield 15, 3) := by decide +kernel
theorem own_d10_10 : decode jdk_42_method_152_code 10 = .ok (.goto 4, 3) := by decide +kernel
theorem own_d10_14 : decode jdk_42_method_152_code 14 = .ok (.ireturn, 1) := by decide +kernel
theorem own_d11_0 : decode jdk_68_method_9_code 0 = .ok (.aload_n 0, 1) := by decide +kernel
theorem own_d11_1 : decode jdk_68_method_9_code 1 = .ok (.getfield 15, 3) := by decide +kernel
theorem own_d11_4 : decode jdk_68_method_9_code 4 = .ok (.arraylength, 1) := by decide +kernel
theorem own_d11_5 : decode jdk_68_method_9_code 5 = .ok (.aload_n 0, 1) := by decide +kernel
theorem own_d11_6 : decode jdk_68_method_9_code 6 = .ok (.getfield 22, 3) := by decide +kernel
theorem own_d11_9 : decode jdk_68_method_9_code 9 = .ok (.ishr, 1) := by decide +kernel
theorem own_d11_10 : decode jdk_68_method_9_code 10 = .ok (.istore_n 2, 1) := by decide +kernel
theorem own_d11_11 : decode jdk_68_method_9_code 11 = .ok (.iload_n 1, 1) := by decide +kernel
theorem own_d11_12 : decode jdk_68_method_9_code 12 = .ok (.iload_n 2, 1) := by decide +kernel
theorem own_d11_13 : decode jdk_68_method_9_code 13 = .ok (.isub, 1) := by decide +kernel
theorem own_d11_14 : decode jdk_68_method_9_code 14 = .ok (.ifCond .le 24, 3) := by decide +kernel
theorem own_d11_38 : decode jdk_68_method_9_code 38 = .ok (.return_, 1) := by decide +kernel
theorem own_d12_0 : decode jdk_68_method_73_code 0 = .ok (.aload_n 0, 1) := by decide +kernel
theorem own_d12_1 : decode jdk_68_method_73_code 1 = .ok (.aload_n 2, 1) := by decide +kernel
theorem own_d12_2 : decode jdk_68_method_73_code 2 = .ok (.invokevirtual 397, 3) := by decide +kernel
theorem own_d12_5 : decode jdk_68_method_73_code 5 = .ok (.aload_n 2, 1) := by decide +kernel
theorem own_d12_6 : decode jdk_68_method_73_code 6 = .ok (.aload_n 0, 1) := by decide +kernel
theorem own_d12_7 : decode jdk_68_method_73_code 7 = .ok (.getfield 15, 3) := by decide +kernel
theorem own_d12_10 : decode jdk_68_method_73_code 10 = .ok (.iload_n 1, 1) := by decide +kernel
theorem own_d12_11 : decode jdk_68_method_73_code 11 = .ok (.aload_n 0, 1) := by decide +kernel
theorem own_d12_12 : decode jdk_68_method_73_code 12 = .ok (.getfield 22, 3) := by decide +kernel
theorem own_d12_15 : decode jdk_68_method_73_code 15 = .ok (.invokevirtual 399, 3) := by decide +kernel
theorem own_d12_18 : decode jdk_68_method_73_code 18 = .ok (.return_, 1) := by decide +kernel
theorem own_d13_0 : decode jdk_68_method_71_code 0 = .ok (.getstatic 18, 3) := by decide +kernel
theorem own_d13_3 : decode jdk_68_method_71_code 3 = .ok (.ifCond .eq 18, 3) := by decide +kernel
theorem own_d13_6 : decode jdk_68_method_71_code 6 = .ok (.aload_n 0, 1) := by decide +kernel
theorem own_d13_7 : decode jdk_68_method_71_code 7 = .ok (.getfield 22, 3) := by decide +kernel
theorem own_d13_10 : decode jdk_68_method_71_code 10 = .ok (.aload_n 1, 1) := by decide +kernel
theorem own_d13_11 : decode jdk_68_method_71_code 11 = .ok (.invokevirtual 40, 3) := by decide +kernel
theorem own_d13_14 : decode jdk_68_method_71_code 14 = .ok (.if_icmp .eq 7, 3) := by decide +kernel
theorem own_d13_17 : decode jdk_68_method_71_code 17 = .ok (.aload_n 0, 1) := by decide +kernel
theorem own_d13_18 : decode jdk_68_method_71_code 18 = .ok (.invokevirtual 195, 3) := by decide +kernel
theorem own_d13_21 : decode jdk_68_method_71_code 21 = .ok (.return_, 1) := by decide +kernel
theorem own_d14_0 : decode jdk_42_method_147_code 0 = .ok (.aload_n 0, 1) := by decide +kernel
theorem own_d14_1 : decode jdk_42_method_147_code 1 = .ok (.invokevirtual 335, 3) := by decide +kernel
theorem own_d14_4 : decode jdk_42_method_147_code 4 = .ok (.iload_n 3, 1) := by decide +kernel
theorem own_d14_5 : decode jdk_42_method_147_code 5 = .ok (.if_icmp .ne 23, 3) := by decide +kernel
theorem own_d14_8 : decode jdk_42_method_147_code 8 = .ok (.aload_n 0, 1) := by decide +kernel
theorem own_d14_9 : decode jdk_42_method_147_code 9 = .ok (.getfield 9, 3) := by decide +kernel
theorem own_d14_12 : decode jdk_42_method_147_code 12 = .ok (.iconst 0, 1) := by decide +kernel
theorem own_d14_13 : decode jdk_42_method_147_code 13 = .ok (.aload_n 1, 1) := by decide +kernel
theorem own_d14_14 : decode jdk_42_method_147_code 14 = .ok (.iload_n 2, 1) := by decide +kernel
theorem own_d14_15 : decode jdk_42_method_147_code 15 = .ok (.iload_n 3, 1) := by decide +kernel
theorem own_d14_16 : decode jdk_42_method_147_code 16 = .ok (.ishl, 1) := by decide +kernel
theorem own_d14_17 : decode jdk_42_method_147_code 17 = .ok (.aload_n 0, 1) := by decide +kernel
theorem own_d14_18 : decode jdk_42_method_147_code 18 = .ok (.getfield 9, 3) := by decide +kernel
theorem own_d14_21 : decode jdk_42_method_147_code 21 = .ok (.arraylength, 1) := by decide +kernel
theorem own_d14_22 : decode jdk_42_method_147_code 22 = .ok (.invokestatic 212, 3) := by decide +kernel
theorem own_d14_25 : decode jdk_42_method_147_code 25 = .ok (.goto 18, 3) := by decide +kernel
theorem own_d14_43 : decode jdk_42_method_147_code 43 = .ok (.return_, 1) := by decide +kernel
theorem own_d15_0 : decode jdk_67_method_42_code 0 = .ok (.new 18, 3) := by decide +kernel
theorem own_d15_3 : decode jdk_67_method_42_code 3 = .ok (.dup, 1) := by decide +kernel
theorem own_d15_4 : decode jdk_67_method_42_code 4 = .ok (.aload_n 0, 1) := by decide +kernel
theorem own_d15_5 : decode jdk_67_method_42_code 5 = .ok (.invokespecial 137, 3) := by decide +kernel
theorem own_d15_8 : decode jdk_67_method_42_code 8 = .ok (.areturn, 1) := by decide +kernel
theorem own_d16_0 : decode jdk_42_method_53_code 0 = .ok (.aload_n 0, 1) := by decide +kernel
theorem own_d16_1 : decode jdk_42_method_53_code 1 = .ok (.aload_n 1, 1) := by decide +kernel
theorem own_d16_2 : decode jdk_42_method_53_code 2 = .ok (.aconst_null, 1) := by decide +kernel
theorem own_d16_3 : decode jdk_42_method_53_code 3 = .ok (.invokespecial 489, 3) := by decide +kernel
theorem own_d16_6 : decode jdk_42_method_53_code 6 = .ok (.return_, 1) := by decide +kernel
theorem own_d17_0 : decode jdk_42_method_150_code 0 = .ok (.aload_n 0, 1) := by decide +kernel
theorem own_d17_1 : decode jdk_42_method_150_code 1 = .ok (.invokespecial 1, 3) := by decide +kernel
theorem own_d17_4 : decode jdk_42_method_150_code 4 = .ok (.aload_n 1, 1) := by decide +kernel
theorem own_d17_5 : decode jdk_42_method_150_code 5 = .ok (.invokevirtual 552, 3) := by decide +kernel
theorem own_d17_8 : decode jdk_42_method_150_code 8 = .ok (.astore_n 3, 1) := by decide +kernel
theorem own_d17_9 : decode jdk_42_method_150_code 9 = .ok (.aload_n 1, 1) := by decide +kernel
theorem own_d17_10 : decode jdk_42_method_150_code 10 = .ok (.invokevirtual 549, 3) := by decide +kernel
theorem own_d17_13 : decode jdk_42_method_150_code 13 = .ok (.istore 4, 2) := by decide +kernel
theorem own_d17_15 : decode jdk_42_method_150_code 15 = .ok (.aload_n 1, 1) := by decide +kernel
theorem own_d17_16 : decode jdk_42_method_150_code 16 = .ok (.invokevirtual 1047, 3) := by decide +kernel
theorem own_d17_19 : decode jdk_42_method_150_code 19 = .ok (.ifCond .eq 22, 3) := by decide +kernel
theorem own_d17_22 : decode jdk_42_method_150_code 22 = .ok (.aload_n 0, 1) := by decide +kernel
theorem own_d17_23 : decode jdk_42_method_150_code 23 = .ok (.iconst 0, 1) := by decide +kernel
theorem own_d17_24 : decode jdk_42_method_150_code 24 = .ok (.putfield 15, 3) := by decide +kernel
theorem own_d17_27 : decode jdk_42_method_150_code 27 = .ok (.aload_n 0, 1) := by decide +kernel
theorem own_d17_28 : decode jdk_42_method_150_code 28 = .ok (.aload_n 3, 1) := by decide +kernel
theorem own_d17_29 : decode jdk_42_method_150_code 29 = .ok (.iconst 0, 1) := by decide +kernel
theorem own_d17_30 : decode jdk_42_method_150_code 30 = .ok (.iload 4, 2) := by decide +kernel
theorem own_d17_32 : decode jdk_42_method_150_code 32 = .ok (.invokestatic 54, 3) := by decide +kernel
theorem own_d17_35 : decode jdk_42_method_150_code 35 = .ok (.putfield 9, 3) := by decide +kernel
theorem own_d17_38 : decode jdk_42_method_150_code 38 = .ok (.goto 59, 3) := by decide +kernel
theorem own_d17_41 : decode jdk_42_method_150_code 41 = .ok (.getstatic 38, 3) := by decide +kernel
theorem own_d17_44 : decode jdk_42_method_150_code 44 = .ok (.ifCond .eq 35, 3) := by decide +kernel
theorem own_d17_47 : decode jdk_42_method_150_code 47 = .ok (.aload_n 1, 1) := by decide +kernel
theorem own_d17_48 : decode jdk_42_method_150_code 48 = .ok (.getfield 1048, 3) := by decide +kernel
theorem own_d17_51 : decode jdk_42_method_150_code 51 = .ok (.ifCond .eq 28, 3) := by decide +kernel
theorem own_d17_79 : decode jdk_42_method_150_code 79 = .ok (.aload_n 0, 1) := by decide +kernel
theorem own_d17_80 : decode jdk_42_method_150_code 80 = .ok (.iconst 1, 1) := by decide +kernel
theorem own_d17_81 : decode jdk_42_method_150_code 81 = .ok (.putfield 15, 3) := by decide +kernel
theorem own_d17_84 : decode jdk_42_method_150_code 84 = .ok (.aload_n 0, 1) := by decide +kernel
theorem own_d17_85 : decode jdk_42_method_150_code 85 = .ok (.aload_n 3, 1) := by decide +kernel
theorem own_d17_86 : decode jdk_42_method_150_code 86 = .ok (.iconst 0, 1) := by decide +kernel
theorem own_d17_87 : decode jdk_42_method_150_code 87 = .ok (.iload 4, 2) := by decide +kernel
theorem own_d17_89 : decode jdk_42_method_150_code 89 = .ok (.iconst 1, 1) := by decide +kernel
theorem own_d17_90 : decode jdk_42_method_150_code 90 = .ok (.ishl, 1) := by decide +kernel
theorem own_d17_91 : decode jdk_42_method_150_code 91 = .ok (.invokestatic 54, 3) := by decide +kernel
theorem own_d17_94 : decode jdk_42_method_150_code 94 = .ok (.putfield 9, 3) := by decide +kernel
theorem own_d17_97 : decode jdk_42_method_150_code 97 = .ok (.return_, 1) := by decide +kernel
theorem own_d18_0 : decode jdk_68_method_64_code 0 = .ok (.aload_n 0, 1) := by decide +kernel
theorem own_d18_1 : decode jdk_68_method_64_code 1 = .ok (.getfield 15, 3) := by decide +kernel
theorem own_d18_4 : decode jdk_68_method_64_code 4 = .ok (.areturn, 1) := by decide +kernel
theorem own_d19_0 : decode jdk_67_method_93_code 0 = .ok (.aload_n 0, 1) := by decide +kernel
theorem own_d19_1 : decode jdk_67_method_93_code 1 = .ok (.invokespecial 343, 3) := by decide +kernel
theorem own_d19_4 : decode jdk_67_method_93_code 4 = .ok (.ireturn, 1) := by decide +kernel
theorem own_d20_0 : decode jdk_68_method_6_code 0 = .ok (.aload_n 0, 1) := by decide +kernel
theorem own_d20_1 : decode jdk_68_method_6_code 1 = .ok (.getfield 79, 3) := by decide +kernel
theorem own_d20_4 : decode jdk_68_method_6_code 4 = .ok (.ireturn, 1) := by decide +kernel
theorem own_d21_0 : decode jdk_68_method_68_code 0 = .ok (.getstatic 18, 3) := by decide +kernel
theorem own_d21_3 : decode jdk_68_method_68_code 3 = .ok (.ifCond .eq 14, 3) := by decide +kernel
theorem own_d21_6 : decode jdk_68_method_68_code 6 = .ok (.aload_n 0, 1) := by decide +kernel
theorem own_d21_7 : decode jdk_68_method_68_code 7 = .ok (.getfield 22, 3) := by decide +kernel
theorem own_d21_10 : decode jdk_68_method_68_code 10 = .ok (.ifCond .ne 7, 3) := by decide +kernel
theorem own_d21_13 : decode jdk_68_method_68_code 13 = .ok (.iconst 1, 1) := by decide +kernel
theorem own_d21_14 : decode jdk_68_method_68_code 14 = .ok (.goto 4, 3) := by decide +kernel
theorem own_d21_17 : decode jdk_68_method_68_code 17 = .ok (.iconst 0, 1) := by decide +kernel
theorem own_d21_18 : decode jdk_68_method_68_code 18 = .ok (.ireturn, 1) := by decide +kernel
theorem own_d22_0 : decode jdk_65_method_132_code 0 = .ok (.iload_n 1, 1) := by decide +kernel
theorem own_d22_1 : decode jdk_65_method_132_code 1 = .ok (.ifCond .ne 9, 3) := by decide +kernel
theorem own_d22_4 : decode jdk_65_method_132_code 4 = .ok (.iload_n 2, 1) := by decide +kernel
theorem own_d22_5 : decode jdk_65_method_132_code 5 = .ok (.aload_n 0, 1) := by decide +kernel
theorem own_d22_6 : decode jdk_65_method_132_code 6 = .ok (.arraylength, 1) := by decide +kernel
theorem own_d22_7 : decode jdk_65_method_132_code 7 = .ok (.if_icmp .eq 10, 3) := by decide +kernel
theorem own_d22_10 : decode jdk_65_method_132_code 10 = .ok (.aload_n 0, 1) := by decide +kernel
theorem own_d22_11 : decode jdk_65_method_132_code 11 = .ok (.iload_n 1, 1) := by decide +kernel
theorem own_d22_12 : decode jdk_65_method_132_code 12 = .ok (.iload_n 2, 1) := by decide +kernel
theorem own_d22_13 : decode jdk_65_method_132_code 13 = .ok (.invokestatic 339, 3) := by decide +kernel
theorem own_d22_16 : decode jdk_65_method_132_code 16 = .ok (.areturn, 1) := by decide +kernel
theorem own_d23_0 : decode jdk_65_method_133_code 0 = .ok (.iload_n 1, 1) := by decide +kernel
theorem own_d23_1 : decode jdk_65_method_133_code 1 = .ok (.iload_n 2, 1) := by decide +kernel
theorem own_d23_2 : decode jdk_65_method_133_code 2 = .ok (.invokestatic 343, 3) := by decide +kernel
theorem own_d23_5 : decode jdk_65_method_133_code 5 = .ok (.iload_n 2, 1) := by decide +kernel
theorem own_d23_6 : decode jdk_65_method_133_code 6 = .ok (.iload_n 1, 1) := by decide +kernel
theorem own_d23_7 : decode jdk_65_method_133_code 7 = .ok (.isub, 1) := by decide +kernel
theorem own_d23_8 : decode jdk_65_method_133_code 8 = .ok (.istore_n 3, 1) := by decide +kernel
theorem own_d23_9 : decode jdk_65_method_133_code 9 = .ok (.iload_n 3, 1) := by decide +kernel
theorem own_d23_10 : decode jdk_65_method_133_code 10 = .ok (.newarray .byte, 2) := by decide +kernel
theorem own_d23_12 : decode jdk_65_method_133_code 12 = .ok (.astore 4, 2) := by decide +kernel
theorem own_d23_14 : decode jdk_65_method_133_code 14 = .ok (.aload_n 0, 1) := by decide +kernel
theorem own_d23_15 : decode jdk_65_method_133_code 15 = .ok (.iload_n 1, 1) := by decide +kernel
theorem own_d23_16 : decode jdk_65_method_133_code 16 = .ok (.aload 4, 2) := by decide +kernel
theorem own_d23_18 : decode jdk_65_method_133_code 18 = .ok (.iconst 0, 1) := by decide +kernel
theorem own_d23_19 : decode jdk_65_method_133_code 19 = .ok (.aload_n 0, 1) := by decide +kernel
theorem own_d23_20 : decode jdk_65_method_133_code 20 = .ok (.arraylength, 1) := by decide +kernel
theorem own_d23_21 : decode jdk_65_method_133_code 21 = .ok (.iload_n 1, 1) := by decide +kernel
theorem own_d23_22 : decode jdk_65_method_133_code 22 = .ok (.isub, 1) := by decide +kernel
theorem own_d23_23 : decode jdk_65_method_133_code 23 = .ok (.iload_n 3, 1) := by decide +kernel
theorem own_d23_24 : decode jdk_65_method_133_code 24 = .ok (.invokestatic 304, 3) := by decide +kernel
theorem own_d23_27 : decode jdk_65_method_133_code 27 = .ok (.invokestatic 150, 3) := by decide +kernel
theorem own_d23_30 : decode jdk_65_method_133_code 30 = .ok (.aload 4, 2) := by decide +kernel
theorem own_d23_32 : decode jdk_65_method_133_code 32 = .ok (.areturn, 1) := by decide +kernel
theorem own_d24_0 : decode jdk_65_method_131_code 0 = .ok (.iload_n 1, 1) := by decide +kernel
theorem own_d24_1 : decode jdk_65_method_131_code 1 = .ok (.iload_n 0, 1) := by decide +kernel
theorem own_d24_2 : decode jdk_65_method_131_code 2 = .ok (.if_icmp .ge 35, 3) := by decide +kernel
theorem own_d24_37 : decode jdk_65_method_131_code 37 = .ok (.return_, 1) := by decide +kernel
theorem own_d25_0 : decode jdk_29_method_69_code 0 = .ok (.iload_n 0, 1) := by decide +kernel
theorem own_d25_1 : decode jdk_29_method_69_code 1 = .ok (.iload_n 1, 1) := by decide +kernel
theorem own_d25_2 : decode jdk_29_method_69_code 2 = .ok (.if_icmp .gt 7, 3) := by decide +kernel
theorem own_d25_5 : decode jdk_29_method_69_code 5 = .ok (.iload_n 0, 1) := by decide +kernel
theorem own_d25_6 : decode jdk_29_method_69_code 6 = .ok (.goto 4, 3) := by decide +kernel
theorem own_d25_9 : decode jdk_29_method_69_code 9 = .ok (.iload_n 1, 1) := by decide +kernel
theorem own_d25_10 : decode jdk_29_method_69_code 10 = .ok (.ireturn, 1) := by decide +kernel
theorem own_d26_0 : decode jdk_42_method_66_code 0 = .ok (.aload_n 0, 1) := by decide +kernel
theorem own_d26_1 : decode jdk_42_method_66_code 1 = .ok (.aload_n 1, 1) := by decide +kernel
theorem own_d26_2 : decode jdk_42_method_66_code 2 = .ok (.if_acmp .ne 5, 3) := by decide +kernel
theorem own_d26_5 : decode jdk_42_method_66_code 5 = .ok (.iconst 1, 1) := by decide +kernel
theorem own_d26_6 : decode jdk_42_method_66_code 6 = .ok (.ireturn, 1) := by decide +kernel
theorem own_d26_7 : decode jdk_42_method_66_code 7 = .ok (.aload_n 1, 1) := by decide +kernel
theorem own_d26_8 : decode jdk_42_method_66_code 8 = .ok (.instanceof 10, 3) := by decide +kernel
theorem own_d26_11 : decode jdk_42_method_66_code 11 = .ok (.ifCond .eq 43, 3) := by decide +kernel
theorem own_d26_14 : decode jdk_42_method_66_code 14 = .ok (.aload_n 1, 1) := by decide +kernel
theorem own_d26_15 : decode jdk_42_method_66_code 15 = .ok (.checkcast 10, 3) := by decide +kernel
theorem own_d26_18 : decode jdk_42_method_66_code 18 = .ok (.astore_n 2, 1) := by decide +kernel
theorem own_d26_19 : decode jdk_42_method_66_code 19 = .ok (.getstatic 38, 3) := by decide +kernel
theorem own_d26_22 : decode jdk_42_method_66_code 22 = .ok (.ifCond .eq 14, 3) := by decide +kernel
theorem own_d26_25 : decode jdk_42_method_66_code 25 = .ok (.aload_n 0, 1) := by decide +kernel
theorem own_d26_26 : decode jdk_42_method_66_code 26 = .ok (.getfield 15, 3) := by decide +kernel
theorem own_d26_29 : decode jdk_42_method_66_code 29 = .ok (.aload_n 2, 1) := by decide +kernel
theorem own_d26_30 : decode jdk_42_method_66_code 30 = .ok (.getfield 15, 3) := by decide +kernel
theorem own_d26_33 : decode jdk_42_method_66_code 33 = .ok (.if_icmp .ne 21, 3) := by decide +kernel
theorem own_d26_36 : decode jdk_42_method_66_code 36 = .ok (.aload_n 0, 1) := by decide +kernel
theorem own_d26_37 : decode jdk_42_method_66_code 37 = .ok (.getfield 9, 3) := by decide +kernel
theorem own_d26_40 : decode jdk_42_method_66_code 40 = .ok (.aload_n 2, 1) := by decide +kernel
theorem own_d26_41 : decode jdk_42_method_66_code 41 = .ok (.getfield 9, 3) := by decide +kernel
theorem own_d26_44 : decode jdk_42_method_66_code 44 = .ok (.invokestatic 541, 3) := by decide +kernel
theorem own_d26_47 : decode jdk_42_method_66_code 47 = .ok (.ifCond .eq 7, 3) := by decide +kernel
theorem own_d26_50 : decode jdk_42_method_66_code 50 = .ok (.iconst 1, 1) := by decide +kernel
theorem own_d26_51 : decode jdk_42_method_66_code 51 = .ok (.goto 4, 3) := by decide +kernel
theorem own_d26_55 : decode jdk_42_method_66_code 55 = .ok (.ireturn, 1) := by decide +kernel
theorem own_d27_0 : decode jdk_43_method_13_code 0 = .ok (.aload_n 0, 1) := by decide +kernel
theorem own_d27_1 : decode jdk_43_method_13_code 1 = .ok (.arraylength, 1) := by decide +kernel
theorem own_d27_2 : decode jdk_43_method_13_code 2 = .ok (.aload_n 1, 1) := by decide +kernel
theorem own_d27_3 : decode jdk_43_method_13_code 3 = .ok (.arraylength, 1) := by decide +kernel
theorem own_d27_4 : decode jdk_43_method_13_code 4 = .ok (.if_icmp .ne 30, 3) := by decide +kernel
theorem own_d27_7 : decode jdk_43_method_13_code 7 = .ok (.iconst 0, 1) := by decide +kernel
theorem own_d27_8 : decode jdk_43_method_13_code 8 = .ok (.istore_n 2, 1) := by decide +kernel
theorem own_d27_9 : decode jdk_43_method_13_code 9 = .ok (.iload_n 2, 1) := by decide +kernel
theorem own_d27_10 : decode jdk_43_method_13_code 10 = .ok (.aload_n 0, 1) := by decide +kernel
theorem own_d27_11 : decode jdk_43_method_13_code 11 = .ok (.arraylength, 1) := by decide +kernel
theorem own_d27_12 : decode jdk_43_method_13_code 12 = .ok (.if_icmp .ge 20, 3) := by decide +kernel
theorem own_d27_15 : decode jdk_43_method_13_code 15 = .ok (.aload_n 0, 1) := by decide +kernel
theorem own_d27_16 : decode jdk_43_method_13_code 16 = .ok (.iload_n 2, 1) := by decide +kernel
theorem own_d27_17 : decode jdk_43_method_13_code 17 = .ok (.baload, 1) := by decide +kernel
theorem own_d27_18 : decode jdk_43_method_13_code 18 = .ok (.aload_n 1, 1) := by decide +kernel
theorem own_d27_19 : decode jdk_43_method_13_code 19 = .ok (.iload_n 2, 1) := by decide +kernel
theorem own_d27_20 : decode jdk_43_method_13_code 20 = .ok (.baload, 1) := by decide +kernel
theorem own_d27_21 : decode jdk_43_method_13_code 21 = .ok (.if_icmp .eq 5, 3) := by decide +kernel
theorem own_d27_26 : decode jdk_43_method_13_code 26 = .ok (.iinc 2 1, 3) := by decide +kernel
theorem own_d27_29 : decode jdk_43_method_13_code 29 = .ok (.goto (-20), 3) := by decide +kernel
theorem own_d27_32 : decode jdk_43_method_13_code 32 = .ok (.iconst 1, 1) := by decide +kernel
theorem own_d27_33 : decode jdk_43_method_13_code 33 = .ok (.ireturn, 1) := by decide +kernel
theorem own_d28_0 : decode jdk_89_method_10_code 0 = .ok (.iload_n 0, 1) := by decide +kernel
theorem own_d28_1 : decode jdk_89_method_10_code 1 = .ok (.invokestatic 69, 3) := by decide +kernel
theorem own_d28_4 : decode jdk_89_method_10_code 4 = .ok (.areturn, 1) := by decide +kernel
theorem own_d29_0 : decode jdk_42_method_159_code 0 = .ok (.getstatic 38, 3) := by decide +kernel
theorem own_d29_3 : decode jdk_42_method_159_code 3 = .ok (.ifCond .eq 24, 3) := by decide +kernel
theorem own_d29_6 : decode jdk_42_method_159_code 6 = .ok (.iload_n 0, 1) := by decide +kernel
theorem own_d29_7 : decode jdk_42_method_159_code 7 = .ok (.invokestatic 1068, 3) := by decide +kernel
theorem own_d29_10 : decode jdk_42_method_159_code 10 = .ok (.ifCond .eq 17, 3) := by decide +kernel
theorem own_d29_13 : decode jdk_42_method_159_code 13 = .ok (.new 10, 3) := by decide +kernel
theorem own_d29_16 : decode jdk_42_method_159_code 16 = .ok (.dup, 1) := by decide +kernel
theorem own_d29_17 : decode jdk_42_method_159_code 17 = .ok (.iload_n 0, 1) := by decide +kernel
theorem own_d29_18 : decode jdk_42_method_159_code 18 = .ok (.i2c, 1) := by decide +kernel
theorem own_d29_19 : decode jdk_42_method_159_code 19 = .ok (.invokestatic 1018, 3) := by decide +kernel
theorem own_d29_22 : decode jdk_42_method_159_code 22 = .ok (.iconst 0, 1) := by decide +kernel
theorem own_d29_23 : decode jdk_42_method_159_code 23 = .ok (.invokespecial 209, 3) := by decide +kernel
theorem own_d29_26 : decode jdk_42_method_159_code 26 = .ok (.areturn, 1) := by decide +kernel
theorem own_d29_27 : decode jdk_42_method_159_code 27 = .ok (.iload_n 0, 1) := by decide +kernel
theorem own_d29_28 : decode jdk_42_method_159_code 28 = .ok (.invokestatic 1070, 3) := by decide +kernel
theorem own_d29_31 : decode jdk_42_method_159_code 31 = .ok (.ifCond .eq 17, 3) := by decide +kernel
theorem own_d29_34 : decode jdk_42_method_159_code 34 = .ok (.new 10, 3) := by decide +kernel
theorem own_d29_37 : decode jdk_42_method_159_code 37 = .ok (.dup, 1) := by decide +kernel
theorem own_d29_38 : decode jdk_42_method_159_code 38 = .ok (.iload_n 0, 1) := by decide +kernel
theorem own_d29_39 : decode jdk_42_method_159_code 39 = .ok (.i2c, 1) := by decide +kernel
theorem own_d29_40 : decode jdk_42_method_159_code 40 = .ok (.invokestatic 1021, 3) := by decide +kernel
theorem own_d29_43 : decode jdk_42_method_159_code 43 = .ok (.iconst 1, 1) := by decide +kernel
theorem own_d29_44 : decode jdk_42_method_159_code 44 = .ok (.invokespecial 209, 3) := by decide +kernel
theorem own_d29_47 : decode jdk_42_method_159_code 47 = .ok (.areturn, 1) := by decide +kernel
theorem own_d29_48 : decode jdk_42_method_159_code 48 = .ok (.iload_n 0, 1) := by decide +kernel
theorem own_d29_49 : decode jdk_42_method_159_code 49 = .ok (.invokestatic 418, 3) := by decide +kernel
theorem own_d29_52 : decode jdk_42_method_159_code 52 = .ok (.ifCond .eq 16, 3) := by decide +kernel
theorem own_d29_55 : decode jdk_42_method_159_code 55 = .ok (.new 10, 3) := by decide +kernel
theorem own_d29_58 : decode jdk_42_method_159_code 58 = .ok (.dup, 1) := by decide +kernel
theorem own_d29_59 : decode jdk_42_method_159_code 59 = .ok (.iload_n 0, 1) := by decide +kernel
theorem own_d29_60 : decode jdk_42_method_159_code 60 = .ok (.invokestatic 1073, 3) := by decide +kernel
theorem own_d29_63 : decode jdk_42_method_159_code 63 = .ok (.iconst 1, 1) := by decide +kernel
theorem own_d29_64 : decode jdk_42_method_159_code 64 = .ok (.invokespecial 209, 3) := by decide +kernel
theorem own_d29_67 : decode jdk_42_method_159_code 67 = .ok (.areturn, 1) := by decide +kernel
theorem own_d30_0 : decode jdk_43_method_4_code 0 = .ok (.iload_n 0, 1) := by decide +kernel
theorem own_d30_1 : decode jdk_43_method_4_code 1 = .ok (.ifCond .lt 14, 3) := by decide +kernel
theorem own_d30_4 : decode jdk_43_method_4_code 4 = .ok (.iload_n 0, 1) := by decide +kernel
theorem own_d30_5 : decode jdk_43_method_4_code 5 = .ok (.sipush 255, 3) := by decide +kernel
theorem own_d30_8 : decode jdk_43_method_4_code 8 = .ok (.if_icmp .gt 7, 3) := by decide +kernel
theorem own_d30_11 : decode jdk_43_method_4_code 11 = .ok (.iconst 1, 1) := by decide +kernel
theorem own_d30_12 : decode jdk_43_method_4_code 12 = .ok (.goto 4, 3) := by decide +kernel
theorem own_d30_15 : decode jdk_43_method_4_code 15 = .ok (.iconst 0, 1) := by decide +kernel
theorem own_d30_16 : decode jdk_43_method_4_code 16 = .ok (.ireturn, 1) := by decide +kernel
theorem own_d31_0 : decode jdk_43_method_46_code 0 = .ok (.iconst 1, 1) := by decide +kernel
theorem own_d31_1 : decode jdk_43_method_46_code 1 = .ok (.newarray .byte, 2) := by decide +kernel
theorem own_d31_3 : decode jdk_43_method_46_code 3 = .ok (.dup, 1) := by decide +kernel
theorem own_d31_4 : decode jdk_43_method_46_code 4 = .ok (.iconst 0, 1) := by decide +kernel
theorem own_d31_5 : decode jdk_43_method_46_code 5 = .ok (.iload_n 0, 1) := by decide +kernel
theorem own_d31_6 : decode jdk_43_method_46_code 6 = .ok (.i2b, 1) := by decide +kernel
theorem own_d31_7 : decode jdk_43_method_46_code 7 = .ok (.bastore, 1) := by decide +kernel
theorem own_d31_8 : decode jdk_43_method_46_code 8 = .ok (.areturn, 1) := by decide +kernel
theorem own_d32_0 : decode jdk_42_method_151_code 0 = .ok (.aload_n 0, 1) := by decide +kernel
theorem own_d32_1 : decode jdk_42_method_151_code 1 = .ok (.invokespecial 1, 3) := by decide +kernel
theorem own_d32_4 : decode jdk_42_method_151_code 4 = .ok (.aload_n 0, 1) := by decide +kernel
theorem own_d32_5 : decode jdk_42_method_151_code 5 = .ok (.aload_n 1, 1) := by decide +kernel
theorem own_d32_6 : decode jdk_42_method_151_code 6 = .ok (.putfield 9, 3) := by decide +kernel
theorem own_d32_9 : decode jdk_42_method_151_code 9 = .ok (.aload_n 0, 1) := by decide +kernel
theorem own_d32_10 : decode jdk_42_method_151_code 10 = .ok (.iload_n 2, 1) := by decide +kernel
theorem own_d32_11 : decode jdk_42_method_151_code 11 = .ok (.putfield 15, 3) := by decide +kernel
theorem own_d32_14 : decode jdk_42_method_151_code 14 = .ok (.return_, 1) := by decide +kernel
theorem own_d33_0 : decode jdk_42_method_56_code 0 = .ok (.aload_n 0, 1) := by decide +kernel
theorem own_d33_1 : decode jdk_42_method_56_code 1 = .ok (.invokevirtual 492, 3) := by decide +kernel
theorem own_d33_4 : decode jdk_42_method_56_code 4 = .ok (.ifCond .eq 12, 3) := by decide +kernel
theorem own_d33_7 : decode jdk_42_method_56_code 7 = .ok (.aload_n 0, 1) := by decide +kernel
theorem own_d33_8 : decode jdk_42_method_56_code 8 = .ok (.getfield 9, 3) := by decide +kernel
theorem own_d33_11 : decode jdk_42_method_56_code 11 = .ok (.iload_n 1, 1) := by decide +kernel
theorem own_d33_12 : decode jdk_42_method_56_code 12 = .ok (.invokestatic 495, 3) := by decide +kernel
theorem own_d33_15 : decode jdk_42_method_56_code 15 = .ok (.ireturn, 1) := by decide +kernel
theorem own_d33_16 : decode jdk_42_method_56_code 16 = .ok (.aload_n 0, 1) := by decide +kernel
theorem own_d33_17 : decode jdk_42_method_56_code 17 = .ok (.getfield 9, 3) := by decide +kernel
theorem own_d33_20 : decode jdk_42_method_56_code 20 = .ok (.iload_n 1, 1) := by decide +kernel
theorem own_d33_21 : decode jdk_42_method_56_code 21 = .ok (.invokestatic 498, 3) := by decide +kernel
theorem own_d33_24 : decode jdk_42_method_56_code 24 = .ok (.ireturn, 1) := by decide +kernel
theorem own_d34_0 : decode jdk_42_method_154_code 0 = .ok (.getstatic 38, 3) := by decide +kernel
theorem own_d34_3 : decode jdk_42_method_154_code 3 = .ok (.ifCond .eq 14, 3) := by decide +kernel
theorem own_d34_6 : decode jdk_42_method_154_code 6 = .ok (.aload_n 0, 1) := by decide +kernel
theorem own_d34_7 : decode jdk_42_method_154_code 7 = .ok (.getfield 15, 3) := by decide +kernel
theorem own_d34_10 : decode jdk_42_method_154_code 10 = .ok (.ifCond .ne 7, 3) := by decide +kernel
theorem own_d34_13 : decode jdk_42_method_154_code 13 = .ok (.iconst 1, 1) := by decide +kernel
theorem own_d34_14 : decode jdk_42_method_154_code 14 = .ok (.goto 4, 3) := by decide +kernel
theorem own_d34_17 : decode jdk_42_method_154_code 17 = .ok (.iconst 0, 1) := by decide +kernel
theorem own_d34_18 : decode jdk_42_method_154_code 18 = .ok (.ireturn, 1) := by decide +kernel
theorem own_d35_0 : decode jdk_43_method_2_code 0 = .ok (.iload_n 1, 1) := by decide +kernel
theorem own_d35_1 : decode jdk_43_method_2_code 1 = .ok (.aload_n 0, 1) := by decide +kernel
theorem own_d35_2 : decode jdk_43_method_2_code 2 = .ok (.arraylength, 1) := by decide +kernel
theorem own_d35_3 : decode jdk_43_method_2_code 3 = .ok (.invokestatic 9, 3) := by decide +kernel
theorem own_d35_6 : decode jdk_43_method_2_code 6 = .ok (.aload_n 0, 1) := by decide +kernel
theorem own_d35_7 : decode jdk_43_method_2_code 7 = .ok (.iload_n 1, 1) := by decide +kernel
theorem own_d35_8 : decode jdk_43_method_2_code 8 = .ok (.baload, 1) := by decide +kernel
theorem own_d35_9 : decode jdk_43_method_2_code 9 = .ok (.sipush 255, 3) := by decide +kernel
theorem own_d35_12 : decode jdk_43_method_2_code 12 = .ok (.iand, 1) := by decide +kernel
theorem own_d35_13 : decode jdk_43_method_2_code 13 = .ok (.i2c, 1) := by decide +kernel
theorem own_d35_14 : decode jdk_43_method_2_code 14 = .ok (.ireturn, 1) := by decide +kernel
theorem own_d36_0 : decode jdk_42_method_155_code 0 = .ok (.iload_n 0, 1) := by decide +kernel
theorem own_d36_1 : decode jdk_42_method_155_code 1 = .ok (.iload_n 1, 1) := by decide +kernel
theorem own_d36_2 : decode jdk_42_method_155_code 2 = .ok (.getstatic 1053, 3) := by decide +kernel
theorem own_d36_5 : decode jdk_42_method_155_code 5 = .ok (.invokestatic 1059, 3) := by decide +kernel
theorem own_d36_8 : decode jdk_42_method_155_code 8 = .ok (.pop, 1) := by decide +kernel
theorem own_d36_9 : decode jdk_42_method_155_code 9 = .ok (.return_, 1) := by decide +kernel
theorem own_d37_0 : decode jdk_41_method_11_code 0 = .ok (.iload_n 0, 1) := by decide +kernel
theorem own_d37_1 : decode jdk_41_method_11_code 1 = .ok (.ifCond .lt 8, 3) := by decide +kernel
theorem own_d37_4 : decode jdk_41_method_11_code 4 = .ok (.iload_n 0, 1) := by decide +kernel
theorem own_d37_5 : decode jdk_41_method_11_code 5 = .ok (.iload_n 1, 1) := by decide +kernel
theorem own_d37_6 : decode jdk_41_method_11_code 6 = .ok (.if_icmp .lt 10, 3) := by decide +kernel
theorem own_d37_16 : decode jdk_41_method_11_code 16 = .ok (.iload_n 0, 1) := by decide +kernel
theorem own_d37_17 : decode jdk_41_method_11_code 17 = .ok (.ireturn, 1) := by decide +kernel
theorem own_d38_0 : decode jdk_89_method_12_code 0 = .ok (.iload_n 0, 1) := by decide +kernel
theorem own_d38_1 : decode jdk_89_method_12_code 1 = .ok (.bipush 16, 2) := by decide +kernel
theorem own_d38_3 : decode jdk_89_method_12_code 3 = .ok (.iushr, 1) := by decide +kernel
theorem own_d38_4 : decode jdk_89_method_12_code 4 = .ok (.ifCond .ne 7, 3) := by decide +kernel
theorem own_d38_7 : decode jdk_89_method_12_code 7 = .ok (.iconst 1, 1) := by decide +kernel
theorem own_d38_8 : decode jdk_89_method_12_code 8 = .ok (.goto 4, 3) := by decide +kernel
theorem own_d38_11 : decode jdk_89_method_12_code 11 = .ok (.iconst 0, 1) := by decide +kernel
theorem own_d38_12 : decode jdk_89_method_12_code 12 = .ok (.ireturn, 1) := by decide +kernel
theorem own_d39_0 : decode jdk_89_method_13_code 0 = .ok (.iload_n 0, 1) := by decide +kernel
theorem own_d39_1 : decode jdk_89_method_13_code 1 = .ok (.ldc 73, 2) := by decide +kernel
theorem own_d39_3 : decode jdk_89_method_13_code 3 = .ok (.if_icmp .lt 13, 3) := by decide +kernel
theorem own_d39_6 : decode jdk_89_method_13_code 6 = .ok (.iload_n 0, 1) := by decide +kernel
theorem own_d39_7 : decode jdk_89_method_13_code 7 = .ok (.ldc 74, 2) := by decide +kernel
theorem own_d39_9 : decode jdk_89_method_13_code 9 = .ok (.if_icmp .ge 7, 3) := by decide +kernel
theorem own_d39_12 : decode jdk_89_method_13_code 12 = .ok (.iconst 1, 1) := by decide +kernel
theorem own_d39_13 : decode jdk_89_method_13_code 13 = .ok (.goto 4, 3) := by decide +kernel
theorem own_d39_17 : decode jdk_89_method_13_code 17 = .ok (.ireturn, 1) := by decide +kernel
theorem own_d40_0 : decode jdk_52_method_25_code 0 = .ok (.iconst 4, 1) := by decide +kernel
theorem own_d40_1 : decode jdk_52_method_25_code 1 = .ok (.newarray .byte, 2) := by decide +kernel
theorem own_d40_3 : decode jdk_52_method_25_code 3 = .ok (.astore_n 1, 1) := by decide +kernel
theorem own_d40_4 : decode jdk_52_method_25_code 4 = .ok (.aload_n 1, 1) := by decide +kernel
theorem own_d40_5 : decode jdk_52_method_25_code 5 = .ok (.iconst 0, 1) := by decide +kernel
theorem own_d40_6 : decode jdk_52_method_25_code 6 = .ok (.iload_n 0, 1) := by decide +kernel
theorem own_d40_7 : decode jdk_52_method_25_code 7 = .ok (.invokestatic 157, 3) := by decide +kernel
theorem own_d40_10 : decode jdk_52_method_25_code 10 = .ok (.invokestatic 111, 3) := by decide +kernel
theorem own_d40_13 : decode jdk_52_method_25_code 13 = .ok (.aload_n 1, 1) := by decide +kernel
theorem own_d40_14 : decode jdk_52_method_25_code 14 = .ok (.iconst 1, 1) := by decide +kernel
theorem own_d40_15 : decode jdk_52_method_25_code 15 = .ok (.iload_n 0, 1) := by decide +kernel
theorem own_d40_16 : decode jdk_52_method_25_code 16 = .ok (.invokestatic 161, 3) := by decide +kernel
theorem own_d40_19 : decode jdk_52_method_25_code 19 = .ok (.invokestatic 111, 3) := by decide +kernel
theorem own_d40_22 : decode jdk_52_method_25_code 22 = .ok (.aload_n 1, 1) := by decide +kernel
theorem own_d40_23 : decode jdk_52_method_25_code 23 = .ok (.areturn, 1) := by decide +kernel
theorem own_d41_0 : decode jdk_89_method_28_code 0 = .ok (.iload_n 0, 1) := by decide +kernel
theorem own_d41_1 : decode jdk_89_method_28_code 1 = .ok (.bipush 10, 2) := by decide +kernel
theorem own_d41_3 : decode jdk_89_method_28_code 3 = .ok (.iushr, 1) := by decide +kernel
theorem own_d41_4 : decode jdk_89_method_28_code 4 = .ok (.ldc 110, 2) := by decide +kernel
theorem own_d41_6 : decode jdk_89_method_28_code 6 = .ok (.iadd, 1) := by decide +kernel
theorem own_d41_7 : decode jdk_89_method_28_code 7 = .ok (.i2c, 1) := by decide +kernel
theorem own_d41_8 : decode jdk_89_method_28_code 8 = .ok (.ireturn, 1) := by decide +kernel
theorem own_d42_0 : decode jdk_52_method_4_code 0 = .ok (.getstatic 44, 3) := by decide +kernel
theorem own_d42_3 : decode jdk_52_method_4_code 3 = .ok (.ifCond .ne 25, 3) := by decide +kernel
theorem own_d42_28 : decode jdk_52_method_4_code 28 = .ok (.iload_n 1, 1) := by decide +kernel
theorem own_d42_29 : decode jdk_52_method_4_code 29 = .ok (.iconst 1, 1) := by decide +kernel
theorem own_d42_30 : decode jdk_52_method_4_code 30 = .ok (.ishl, 1) := by decide +kernel
theorem own_d42_31 : decode jdk_52_method_4_code 31 = .ok (.istore_n 1, 1) := by decide +kernel
theorem own_d42_32 : decode jdk_52_method_4_code 32 = .ok (.aload_n 0, 1) := by decide +kernel
theorem own_d42_33 : decode jdk_52_method_4_code 33 = .ok (.iload_n 1, 1) := by decide +kernel
theorem own_d42_34 : decode jdk_52_method_4_code 34 = .ok (.iinc 1 1, 3) := by decide +kernel
theorem own_d42_37 : decode jdk_52_method_4_code 37 = .ok (.iload_n 2, 1) := by decide +kernel
theorem own_d42_38 : decode jdk_52_method_4_code 38 = .ok (.getstatic 59, 3) := by decide +kernel
theorem own_d42_41 : decode jdk_52_method_4_code 41 = .ok (.ishr, 1) := by decide +kernel
theorem own_d42_42 : decode jdk_52_method_4_code 42 = .ok (.i2b, 1) := by decide +kernel
theorem own_d42_43 : decode jdk_52_method_4_code 43 = .ok (.bastore, 1) := by decide +kernel
theorem own_d42_44 : decode jdk_52_method_4_code 44 = .ok (.aload_n 0, 1) := by decide +kernel
theorem own_d42_45 : decode jdk_52_method_4_code 45 = .ok (.iload_n 1, 1) := by decide +kernel
theorem own_d42_46 : decode jdk_52_method_4_code 46 = .ok (.iload_n 2, 1) := by decide +kernel
theorem own_d42_47 : decode jdk_52_method_4_code 47 = .ok (.getstatic 63, 3) := by decide +kernel
theorem own_d42_50 : decode jdk_52_method_4_code 50 = .ok (.ishr, 1) := by decide +kernel
theorem own_d42_51 : decode jdk_52_method_4_code 51 = .ok (.i2b, 1) := by decide +kernel
theorem own_d42_52 : decode jdk_52_method_4_code 52 = .ok (.bastore, 1) := by decide +kernel
theorem own_d42_53 : decode jdk_52_method_4_code 53 = .ok (.return_, 1) := by decide +kernel
theorem own_d43_0 : decode jdk_89_method_29_code 0 = .ok (.iload_n 0, 1) := by decide +kernel
theorem own_d43_1 : decode jdk_89_method_29_code 1 = .ok (.sipush 1023, 3) := by decide +kernel
theorem own_d43_4 : decode jdk_89_method_29_code 4 = .ok (.iand, 1) := by decide +kernel
theorem own_d43_5 : decode jdk_89_method_29_code 5 = .ok (.ldc 76, 2) := by decide +kernel
theorem own_d43_7 : decode jdk_89_method_29_code 7 = .ok (.iadd, 1) := by decide +kernel
theorem own_d43_8 : decode jdk_89_method_29_code 8 = .ok (.i2c, 1) := by decide +kernel
theorem own_d43_9 : decode jdk_89_method_29_code 9 = .ok (.ireturn, 1) := by decide +kernel
theorem own_d44_0 : decode jdk_68_method_11_code 0 = .ok (.aload_n 0, 1) := by decide +kernel
theorem own_d44_1 : decode jdk_68_method_11_code 1 = .ok (.invokevirtual 83, 3) := by decide +kernel
theorem own_d44_4 : decode jdk_68_method_11_code 4 = .ok (.ifCond .ne 4, 3) := by decide +kernel
theorem own_d44_8 : decode jdk_68_method_11_code 8 = .ok (.aload_n 0, 1) := by decide +kernel
theorem own_d44_9 : decode jdk_68_method_11_code 9 = .ok (.getfield 15, 3) := by decide +kernel
theorem own_d44_12 : decode jdk_68_method_11_code 12 = .ok (.arraylength, 1) := by decide +kernel
theorem own_d44_13 : decode jdk_68_method_11_code 13 = .ok (.invokestatic 26, 3) := by decide +kernel
theorem own_d44_16 : decode jdk_68_method_11_code 16 = .ok (.astore_n 1, 1) := by decide +kernel
theorem own_d44_17 : decode jdk_68_method_11_code 17 = .ok (.aload_n 0, 1) := by decide +kernel
theorem own_d44_18 : decode jdk_68_method_11_code 18 = .ok (.getfield 15, 3) := by decide +kernel
theorem own_d44_21 : decode jdk_68_method_11_code 21 = .ok (.iconst 0, 1) := by decide +kernel
theorem own_d44_22 : decode jdk_68_method_11_code 22 = .ok (.aload_n 1, 1) := by decide +kernel
theorem own_d44_23 : decode jdk_68_method_11_code 23 = .ok (.iconst 0, 1) := by decide +kernel
theorem own_d44_24 : decode jdk_68_method_11_code 24 = .ok (.aload_n 0, 1) := by decide +kernel
theorem own_d44_25 : decode jdk_68_method_11_code 25 = .ok (.getfield 79, 3) := by decide +kernel
theorem own_d44_28 : decode jdk_68_method_11_code 28 = .ok (.invokestatic 125, 3) := by decide +kernel
theorem own_d44_31 : decode jdk_68_method_11_code 31 = .ok (.aload_n 0, 1) := by decide +kernel
theorem own_d44_32 : decode jdk_68_method_11_code 32 = .ok (.aload_n 1, 1) := by decide +kernel
theorem own_d44_33 : decode jdk_68_method_11_code 33 = .ok (.putfield 15, 3) := by decide +kernel
theorem own_d44_36 : decode jdk_68_method_11_code 36 = .ok (.aload_n 0, 1) := by decide +kernel
theorem own_d44_37 : decode jdk_68_method_11_code 37 = .ok (.iconst 1, 1) := by decide +kernel
theorem own_d44_38 : decode jdk_68_method_11_code 38 = .ok (.putfield 22, 3) := by decide +kernel
theorem own_d44_41 : decode jdk_68_method_11_code 41 = .ok (.return_, 1) := by decide +kernel
theorem own_d45_0 : decode jdk_52_method_2_code 0 = .ok (.iload_n 0, 1) := by decide +kernel
theorem own_d45_1 : decode jdk_52_method_2_code 1 = .ok (.invokestatic 11, 3) := by decide +kernel
theorem own_d45_4 : decode jdk_52_method_2_code 4 = .ok (.newarray .byte, 2) := by decide +kernel
theorem own_d45_6 : decode jdk_52_method_2_code 6 = .ok (.areturn, 1) := by decide +kernel
theorem own_d46_0 : decode jdk_52_method_3_code 0 = .ok (.iload_n 0, 1) := by decide +kernel
theorem own_d46_1 : decode jdk_52_method_3_code 1 = .ok (.ifCond .ge 11, 3) := by decide +kernel
theorem own_d46_12 : decode jdk_52_method_3_code 12 = .ok (.iload_n 0, 1) := by decide +kernel
theorem own_d46_13 : decode jdk_52_method_3_code 13 = .ok (.ldc 20, 2) := by decide +kernel
theorem own_d46_15 : decode jdk_52_method_3_code 15 = .ok (.if_icmp .lt 40, 3) := by decide +kernel
theorem own_d46_55 : decode jdk_52_method_3_code 55 = .ok (.iload_n 0, 1) := by decide +kernel
theorem own_d46_56 : decode jdk_52_method_3_code 56 = .ok (.iconst 1, 1) := by decide +kernel
theorem own_d46_57 : decode jdk_52_method_3_code 57 = .ok (.ishl, 1) := by decide +kernel
theorem own_d46_58 : decode jdk_52_method_3_code 58 = .ok (.ireturn, 1) := by decide +kernel
theorem own_d47_0 : decode jdk_43_method_50_code 0 = .ok (.aload_n 0, 1) := by decide +kernel
theorem own_d47_1 : decode jdk_43_method_50_code 1 = .ok (.iload_n 1, 1) := by decide +kernel
theorem own_d47_2 : decode jdk_43_method_50_code 2 = .ok (.aload_n 2, 1) := by decide +kernel
theorem own_d47_3 : decode jdk_43_method_50_code 3 = .ok (.iload_n 3, 1) := by decide +kernel
theorem own_d47_4 : decode jdk_43_method_50_code 4 = .ok (.iload 4, 2) := by decide +kernel
theorem own_d47_6 : decode jdk_43_method_50_code 6 = .ok (.invokestatic 240, 3) := by decide +kernel
theorem own_d47_9 : decode jdk_43_method_50_code 9 = .ok (.return_, 1) := by decide +kernel
theorem own_d48_0 : decode jdk_52_method_86_code 0 = .ok (.iload_n 3, 1) := by decide +kernel
theorem own_d48_1 : decode jdk_52_method_86_code 1 = .ok (.iload 4, 2) := by decide +kernel
theorem own_d48_3 : decode jdk_52_method_86_code 3 = .ok (.aload_n 2, 1) := by decide +kernel
theorem own_d48_4 : decode jdk_52_method_86_code 4 = .ok (.invokestatic 173, 3) := by decide +kernel
theorem own_d48_7 : decode jdk_52_method_86_code 7 = .ok (.iconst 0, 1) := by decide +kernel
theorem own_d48_8 : decode jdk_52_method_86_code 8 = .ok (.istore 5, 2) := by decide +kernel
theorem own_d48_10 : decode jdk_52_method_86_code 10 = .ok (.iload 5, 2) := by decide +kernel
theorem own_d48_12 : decode jdk_52_method_86_code 12 = .ok (.iload 4, 2) := by decide +kernel
theorem own_d48_14 : decode jdk_52_method_86_code 14 = .ok (.if_icmp .ge 27, 3) := by decide +kernel
theorem own_d48_17 : decode jdk_52_method_86_code 17 = .ok (.aload_n 2, 1) := by decide +kernel
theorem own_d48_18 : decode jdk_52_method_86_code 18 = .ok (.iload_n 3, 1) := by decide +kernel
theorem own_d48_19 : decode jdk_52_method_86_code 19 = .ok (.iinc 3 1, 3) := by decide +kernel
theorem own_d48_22 : decode jdk_52_method_86_code 22 = .ok (.aload_n 0, 1) := by decide +kernel
theorem own_d48_23 : decode jdk_52_method_86_code 23 = .ok (.iload_n 1, 1) := by decide +kernel
theorem own_d48_24 : decode jdk_52_method_86_code 24 = .ok (.iinc 1 1, 3) := by decide +kernel
theorem own_d48_27 : decode jdk_52_method_86_code 27 = .ok (.baload, 1) := by decide +kernel
theorem own_d48_28 : decode jdk_52_method_86_code 28 = .ok (.sipush 255, 3) := by decide +kernel
theorem own_d48_31 : decode jdk_52_method_86_code 31 = .ok (.iand, 1) := by decide +kernel
theorem own_d48_32 : decode jdk_52_method_86_code 32 = .ok (.invokestatic 111, 3) := by decide +kernel
theorem own_d48_35 : decode jdk_52_method_86_code 35 = .ok (.iinc 5 1, 3) := by decide +kernel
theorem own_d48_38 : decode jdk_52_method_86_code 38 = .ok (.goto (-28), 3) := by decide +kernel
theorem own_d48_41 : decode jdk_52_method_86_code 41 = .ok (.return_, 1) := by decide +kernel
theorem own_d49_0 : decode jdk_52_method_94_code 0 = .ok (.iload_n 0, 1) := by decide +kernel
theorem own_d49_1 : decode jdk_52_method_94_code 1 = .ok (.iload_n 1, 1) := by decide +kernel
theorem own_d49_2 : decode jdk_52_method_94_code 2 = .ok (.aload_n 2, 1) := by decide +kernel
theorem own_d49_3 : decode jdk_52_method_94_code 3 = .ok (.invokestatic 48, 3) := by decide +kernel
theorem own_d49_6 : decode jdk_52_method_94_code 6 = .ok (.invokestatic 419, 3) := by decide +kernel
theorem own_d49_9 : decode jdk_52_method_94_code 9 = .ok (.pop, 1) := by decide +kernel
theorem own_d49_10 : decode jdk_52_method_94_code 10 = .ok (.return_, 1) := by decide +kernel
theorem own_d50_0 : decode jdk_52_method_6_code 0 = .ok (.aload_n 0, 1) := by decide +kernel
theorem own_d50_1 : decode jdk_52_method_6_code 1 = .ok (.arraylength, 1) := by decide +kernel
theorem own_d50_2 : decode jdk_52_method_6_code 2 = .ok (.iconst 1, 1) := by decide +kernel
theorem own_d50_3 : decode jdk_52_method_6_code 3 = .ok (.ishr, 1) := by decide +kernel
theorem own_d50_4 : decode jdk_52_method_6_code 4 = .ok (.ireturn, 1) := by decide +kernel
theorem own_d51_0 : decode jdk_42_method_157_code 0 = .ok (.iload_n 0, 1) := by decide +kernel
theorem own_d51_1 : decode jdk_42_method_157_code 1 = .ok (.iload_n 1, 1) := by decide +kernel
theorem own_d51_2 : decode jdk_42_method_157_code 2 = .ok (.iload_n 2, 1) := by decide +kernel
theorem own_d51_3 : decode jdk_42_method_157_code 3 = .ok (.getstatic 1053, 3) := by decide +kernel
theorem own_d51_6 : decode jdk_42_method_157_code 6 = .ok (.invokestatic 1065, 3) := by decide +kernel
theorem own_d51_9 : decode jdk_42_method_157_code 9 = .ok (.ireturn, 1) := by decide +kernel
theorem own_d52_0 : decode jdk_41_method_13_code 0 = .ok (.iload_n 2, 1) := by decide +kernel
theorem own_d52_1 : decode jdk_41_method_13_code 1 = .ok (.iload_n 0, 1) := by decide +kernel
theorem own_d52_2 : decode jdk_41_method_13_code 2 = .ok (.ior, 1) := by decide +kernel
theorem own_d52_3 : decode jdk_41_method_13_code 3 = .ok (.iload_n 1, 1) := by decide +kernel
theorem own_d52_4 : decode jdk_41_method_13_code 4 = .ok (.ior, 1) := by decide +kernel
theorem own_d52_5 : decode jdk_41_method_13_code 5 = .ok (.ifCond .lt 10, 3) := by decide +kernel
theorem own_d52_8 : decode jdk_41_method_13_code 8 = .ok (.iload_n 1, 1) := by decide +kernel
theorem own_d52_9 : decode jdk_41_method_13_code 9 = .ok (.iload_n 2, 1) := by decide +kernel
theorem own_d52_10 : decode jdk_41_method_13_code 10 = .ok (.iload_n 0, 1) := by decide +kernel
theorem own_d52_11 : decode jdk_41_method_13_code 11 = .ok (.isub, 1) := by decide +kernel
theorem own_d52_12 : decode jdk_41_method_13_code 12 = .ok (.if_icmp .le 11, 3) := by decide +kernel
theorem own_d52_23 : decode jdk_41_method_13_code 23 = .ok (.iload_n 0, 1) := by decide +kernel
theorem own_d52_24 : decode jdk_41_method_13_code 24 = .ok (.ireturn, 1) := by decide +kernel
theorem own_d53_0 : decode jdk_52_method_83_code 0 = .ok (.iload_n 1, 1) := by decide +kernel
theorem own_d53_1 : decode jdk_52_method_83_code 1 = .ok (.aload_n 0, 1) := by decide +kernel
theorem own_d53_2 : decode jdk_52_method_83_code 2 = .ok (.invokestatic 67, 3) := by decide +kernel
theorem own_d53_5 : decode jdk_52_method_83_code 5 = .ok (.aload_n 0, 1) := by decide +kernel
theorem own_d53_6 : decode jdk_52_method_83_code 6 = .ok (.iload_n 1, 1) := by decide +kernel
theorem own_d53_7 : decode jdk_52_method_83_code 7 = .ok (.invokestatic 71, 3) := by decide +kernel
theorem own_d53_10 : decode jdk_52_method_83_code 10 = .ok (.ireturn, 1) := by decide +kernel
theorem own_d54_0 : decode jdk_52_method_91_code 0 = .ok (.iload_n 0, 1) := by decide +kernel
theorem own_d54_1 : decode jdk_52_method_91_code 1 = .ok (.aload_n 1, 1) := by decide +kernel
theorem own_d54_2 : decode jdk_52_method_91_code 2 = .ok (.invokestatic 48, 3) := by decide +kernel
theorem own_d54_5 : decode jdk_52_method_91_code 5 = .ok (.invokestatic 414, 3) := by decide +kernel
theorem own_d54_8 : decode jdk_52_method_91_code 8 = .ok (.return_, 1) := by decide +kernel
theorem own_d55_0 : decode jdk_52_method_5_code 0 = .ok (.getstatic 44, 3) := by decide +kernel
theorem own_d55_3 : decode jdk_52_method_5_code 3 = .ok (.ifCond .ne 25, 3) := by decide +kernel
theorem own_d55_28 : decode jdk_52_method_5_code 28 = .ok (.iload_n 1, 1) := by decide +kernel
theorem own_d55_29 : decode jdk_52_method_5_code 29 = .ok (.iconst 1, 1) := by decide +kernel
theorem own_d55_30 : decode jdk_52_method_5_code 30 = .ok (.ishl, 1) := by decide +kernel
theorem own_d55_31 : decode jdk_52_method_5_code 31 = .ok (.istore_n 1, 1) := by decide +kernel
theorem own_d55_32 : decode jdk_52_method_5_code 32 = .ok (.aload_n 0, 1) := by decide +kernel
theorem own_d55_33 : decode jdk_52_method_5_code 33 = .ok (.iload_n 1, 1) := by decide +kernel
theorem own_d55_34 : decode jdk_52_method_5_code 34 = .ok (.iinc 1 1, 3) := by decide +kernel
theorem own_d55_37 : decode jdk_52_method_5_code 37 = .ok (.baload, 1) := by decide +kernel
theorem own_d55_38 : decode jdk_52_method_5_code 38 = .ok (.sipush 255, 3) := by decide +kernel
theorem own_d55_41 : decode jdk_52_method_5_code 41 = .ok (.iand, 1) := by decide +kernel
theorem own_d55_42 : decode jdk_52_method_5_code 42 = .ok (.getstatic 59, 3) := by decide +kernel
theorem own_d55_45 : decode jdk_52_method_5_code 45 = .ok (.ishl, 1) := by decide +kernel
theorem own_d55_46 : decode jdk_52_method_5_code 46 = .ok (.aload_n 0, 1) := by decide +kernel
theorem own_d55_47 : decode jdk_52_method_5_code 47 = .ok (.iload_n 1, 1) := by decide +kernel
theorem own_d55_48 : decode jdk_52_method_5_code 48 = .ok (.baload, 1) := by decide +kernel
theorem own_d55_49 : decode jdk_52_method_5_code 49 = .ok (.sipush 255, 3) := by decide +kernel
theorem own_d55_52 : decode jdk_52_method_5_code 52 = .ok (.iand, 1) := by decide +kernel
theorem own_d55_53 : decode jdk_52_method_5_code 53 = .ok (.getstatic 63, 3) := by decide +kernel
theorem own_d55_56 : decode jdk_52_method_5_code 56 = .ok (.ishl, 1) := by decide +kernel
theorem own_d55_57 : decode jdk_52_method_5_code 57 = .ok (.ior, 1) := by decide +kernel
theorem own_d55_58 : decode jdk_52_method_5_code 58 = .ok (.i2c, 1) := by decide +kernel
theorem own_d55_59 : decode jdk_52_method_5_code 59 = .ok (.ireturn, 1) := by decide +kernel
theorem own_d56_0 : decode jdk_52_method_24_code 0 = .ok (.iconst 2, 1) := by decide +kernel
theorem own_d56_1 : decode jdk_52_method_24_code 1 = .ok (.newarray .byte, 2) := by decide +kernel
theorem own_d56_3 : decode jdk_52_method_24_code 3 = .ok (.astore_n 1, 1) := by decide +kernel
theorem own_d56_4 : decode jdk_52_method_24_code 4 = .ok (.aload_n 1, 1) := by decide +kernel
theorem own_d56_5 : decode jdk_52_method_24_code 5 = .ok (.iconst 0, 1) := by decide +kernel
theorem own_d56_6 : decode jdk_52_method_24_code 6 = .ok (.iload_n 0, 1) := by decide +kernel
theorem own_d56_7 : decode jdk_52_method_24_code 7 = .ok (.invokestatic 111, 3) := by decide +kernel
theorem own_d56_10 : decode jdk_52_method_24_code 10 = .ok (.aload_n 1, 1) := by decide +kernel
theorem own_d56_11 : decode jdk_52_method_24_code 11 = .ok (.areturn, 1) := by decide +kernel
theorem own_pd0 : parseMethodDescriptor "()V" = some ⟨[], none⟩ := by decide +kernel
theorem own_pd1 : parseMethodDescriptor "()B" = some ⟨[], some .byte⟩ := by decide +kernel
theorem own_pd2 : parseMethodDescriptor "(IILjava/util/function/BiFunction;)I" = some ⟨[.int, .int, (.object "java/util/function/BiFunction")], some .int⟩ := by decide +kernel
theorem own_pd3 : parseMethodDescriptor "(IIILjava/util/function/BiFunction;)I" = some ⟨[.int, .int, .int, (.object "java/util/function/BiFunction")], some .int⟩ := by decide +kernel
theorem own_pd4 : parseMethodDescriptor "([B)I" = some ⟨[(.array .byte)], some .int⟩ := by decide +kernel
theorem own_pd5 : parseMethodDescriptor "(II)V" = some ⟨[.int, .int], none⟩ := by decide +kernel
theorem own_pd6 : parseMethodDescriptor "(III)I" = some ⟨[.int, .int, .int], some .int⟩ := by decide +kernel
theorem own_pd7 : parseMethodDescriptor "(I)I" = some ⟨[.int], some .int⟩ := by decide +kernel
theorem own_pd8 : parseMethodDescriptor "([BII)V" = some ⟨[(.array .byte), .int, .int], none⟩ := by decide +kernel
theorem own_pd9 : parseMethodDescriptor "(I)C" = some ⟨[.int], some .char⟩ := by decide +kernel
theorem own_pd10 : parseMethodDescriptor "(I)Z" = some ⟨[.int], some .boolean⟩ := by decide +kernel
theorem own_pd11 : parseMethodDescriptor "(C)[B" = some ⟨[.char], some (.array .byte)⟩ := by decide +kernel
theorem own_pd12 : parseMethodDescriptor "([BB)V" = some ⟨[(.array .byte), .byte], none⟩ := by decide +kernel
theorem own_pd13 : parseMethodDescriptor "(I)Ljava/lang/String;" = some ⟨[.int], some (.object "java/lang/String")⟩ := by decide +kernel
theorem own_pd14 : parseMethodDescriptor "(I)[B" = some ⟨[.int], some (.array .byte)⟩ := by decide +kernel
theorem own_pd15 : parseMethodDescriptor "(I)V" = some ⟨[.int], none⟩ := by decide +kernel
theorem own_pd16 : parseMethodDescriptor "()I" = some ⟨[], some .int⟩ := by decide +kernel
theorem own_pd17 : parseMethodDescriptor "(Ljava/lang/String;)V" = some ⟨[(.object "java/lang/String")], none⟩ := by decide +kernel
theorem own_pd18 : parseMethodDescriptor "([BIB)V" = some ⟨[(.array .byte), .int, .byte], none⟩ := by decide +kernel
theorem own_pd19 : parseMethodDescriptor "(ILjava/lang/String;)V" = some ⟨[.int, (.object "java/lang/String")], none⟩ := by decide +kernel
theorem own_pd20 : parseMethodDescriptor "(Ljava/lang/String;)Ljava/lang/AbstractStringBuilder;" = some ⟨[(.object "java/lang/String")], some (.object "java/lang/AbstractStringBuilder")⟩ := by decide +kernel
theorem own_pd21 : parseMethodDescriptor "(II[B)V" = some ⟨[.int, .int, (.array .byte)], none⟩ := by decide +kernel
theorem own_pd22 : parseMethodDescriptor "([BI[BII)V" = some ⟨[(.array .byte), .int, (.array .byte), .int, .int], none⟩ := by decide +kernel
theorem own_pd23 : parseMethodDescriptor "()Z" = some ⟨[], some .boolean⟩ := by decide +kernel
theorem own_pd24 : parseMethodDescriptor "(II)I" = some ⟨[.int, .int], some .int⟩ := by decide +kernel
theorem own_pd25 : parseMethodDescriptor "([BII)[B" = some ⟨[(.array .byte), .int, .int], some (.array .byte)⟩ := by decide +kernel
theorem own_pd26 : parseMethodDescriptor "()[B" = some ⟨[], some (.array .byte)⟩ := by decide +kernel
theorem own_pd27 : parseMethodDescriptor "(Ljava/lang/AbstractStringBuilder;Ljava/lang/Void;)V" = some ⟨[(.object "java/lang/AbstractStringBuilder"), (.object "java/lang/Void")], none⟩ := by decide +kernel
theorem own_pd28 : parseMethodDescriptor "(Ljava/lang/StringBuilder;)V" = some ⟨[(.object "java/lang/StringBuilder")], none⟩ := by decide +kernel
theorem own_pd29 : parseMethodDescriptor "([B[B)Z" = some ⟨[(.array .byte), (.array .byte)], some .boolean⟩ := by decide +kernel
theorem own_pd30 : parseMethodDescriptor "([BI)C" = some ⟨[(.array .byte), .int], some .char⟩ := by decide +kernel
theorem own_pd31 : parseMethodDescriptor "(I[B)V" = some ⟨[.int, (.array .byte)], none⟩ := by decide +kernel
theorem own_pd32 : parseMethodDescriptor "(Ljava/lang/String;)Ljava/lang/StringBuilder;" = some ⟨[(.object "java/lang/String")], some (.object "java/lang/StringBuilder")⟩ := by decide +kernel
theorem own_pd33 : parseMethodDescriptor "()Ljava/lang/String;" = some ⟨[], some (.object "java/lang/String")⟩ := by decide +kernel
theorem own_pd34 : parseMethodDescriptor "(Ljava/lang/Object;)Z" = some ⟨[(.object "java/lang/Object")], some .boolean⟩ := by decide +kernel
theorem own_pn0 : plainName "java/lang/Record" = true := by first | (simp [plainName, overriddenIn]; done) | decide +kernel
theorem own_pn1 : plainName "com/example/isoscope/isoscope/Edn$Char" = true := by first | (simp [plainName, overriddenIn]; done) | decide +kernel
theorem own_pn2 : plainName "java/lang/String" = true := by first | (simp [plainName, overriddenIn]; done) | decide +kernel
theorem own_pn3 : plainName "java/lang/AbstractStringBuilder" = true := by first | (simp [plainName, overriddenIn]; done) | decide +kernel
theorem own_pn4 : plainName "java/util/Arrays" = true := by first | (simp [plainName, overriddenIn]; done) | decide +kernel
theorem own_pn5 : plainName "jdk/internal/util/Preconditions" = true := by first | (simp [plainName, overriddenIn]; done) | decide +kernel
theorem own_pn6 : plainName "java/lang/StringUTF16" = true := by first | (simp [plainName, overriddenIn]; done) | decide +kernel
theorem own_pn7 : plainName "java/lang/StringLatin1" = true := by first | (simp [plainName, overriddenIn]; done) | decide +kernel
theorem own_pn8 : plainName "java/lang/Character" = true := by first | (simp [plainName, overriddenIn]; done) | decide +kernel
theorem own_pn9 : plainName "java/lang/StringBuilder" = true := by first | (simp [plainName, overriddenIn]; done) | decide +kernel
theorem own_pn10 : plainName "com/example/isoscope/isoscope/CharToStringPinLaw" = true := by first | (simp [plainName, overriddenIn]; done) | decide +kernel
theorem own_ef2 (m : MethodId) (a1 : Addr) : entryFrame m #[(.ref a1)] 1 = mkF m 0 #[.val (.ref a1)] [] := by first | (simp [entryFrame, mkF, argsToLocals, Value.category]; done) | rfl
theorem own_ef1 (m : MethodId) (a1 : Addr) (cp : Int32) : entryFrame m #[(.ref a1), (.int cp)] 2 = mkF m 0 #[.val (.ref a1), .val (.int cp)] [] := by first | (simp [entryFrame, mkF, argsToLocals, Value.category]; done) | rfl
theorem own_ef10 (m : MethodId) (sA : Addr) : entryFrame m #[(.ref sA)] 1 = mkF m 0 #[.val (.ref sA)] [] := by first | (simp [entryFrame, mkF, argsToLocals, Value.category]; done) | rfl
theorem own_ef34 (m : MethodId) (sA : Addr) : entryFrame m #[(.ref sA)] 1 = mkF m 0 #[.val (.ref sA)] [] := by first | (simp [entryFrame, mkF, argsToLocals, Value.category]; done) | rfl
theorem own_ef21 (m : MethodId) (bA : Addr) : entryFrame m #[(.ref bA)] 1 = mkF m 0 #[.val (.ref bA)] [] := by first | (simp [entryFrame, mkF, argsToLocals, Value.category]; done) | rfl
theorem own_ef9 (m : MethodId) (sA : Addr) : entryFrame m #[(.ref sA)] 1 = mkF m 0 #[.val (.ref sA)] [] := by first | (simp [entryFrame, mkF, argsToLocals, Value.category]; done) | rfl
theorem own_ef25 (m : MethodId) (x : Int32) (y : Int32) : entryFrame m #[(.int x), (.int y)] 2 = mkF m 0 #[.val (.int x), .val (.int y)] [] := by first | (simp [entryFrame, mkF, argsToLocals, Value.category]; done) | rfl
theorem own_ef24 (m : MethodId) (x : Int32) (y : Int32) : entryFrame m #[(.int x), (.int y)] 2 = mkF m 0 #[.val (.int x), .val (.int y)] [] := by first | (simp [entryFrame, mkF, argsToLocals, Value.category]; done) | rfl
theorem own_ef37n (m : MethodId) (i : Int32) (z : Int32) : entryFrame m #[(.int i), (.int z), .null] 3 = mkF m 0 #[.val (.int i), .val (.int z), .val .null] [] := by first | (simp [entryFrame, mkF, argsToLocals, Value.category]; done) | rfl
theorem own_ef52n (m : MethodId) (i : Int32) (sz : Int32) (z : Int32) : entryFrame m #[(.int i), (.int sz), (.int z), .null] 4 = mkF m 0 #[.val (.int i), .val (.int sz), .val (.int z), .val .null] [] := by first | (simp [entryFrame, mkF, argsToLocals, Value.category]; done) | rfl
theorem own_ef37 (m : MethodId) (i : Int32) (z : Int32) (fa : Addr) : entryFrame m #[(.int i), (.int z), (.ref fa)] 3 = mkF m 0 #[.val (.int i), .val (.int z), .val (.ref fa)] [] := by first | (simp [entryFrame, mkF, argsToLocals, Value.category]; done) | rfl
theorem own_ef52 (m : MethodId) (i : Int32) (sz : Int32) (z : Int32) (fa : Addr) : entryFrame m #[(.int i), (.int sz), (.int z), (.ref fa)] 4 = mkF m 0 #[.val (.int i), .val (.int sz), .val (.int z), .val (.ref fa)] [] := by first | (simp [entryFrame, mkF, argsToLocals, Value.category]; done) | rfl
theorem own_ef36 (m : MethodId) (i : Int32) (z : Int32) : entryFrame m #[(.int i), (.int z)] 2 = mkF m 0 #[.val (.int i), .val (.int z)] [] := by first | (simp [entryFrame, mkF, argsToLocals, Value.category]; done) | rfl
theorem own_ef51 (m : MethodId) (i : Int32) (sz : Int32) (z : Int32) : entryFrame m #[(.int i), (.int sz), (.int z)] 3 = mkF m 0 #[.val (.int i), .val (.int sz), .val (.int z)] [] := by first | (simp [entryFrame, mkF, argsToLocals, Value.category]; done) | rfl
theorem own_ef50 (m : MethodId) (a1 : Addr) : entryFrame m #[(.ref a1)] 1 = mkF m 0 #[.val (.ref a1)] [] := by first | (simp [entryFrame, mkF, argsToLocals, Value.category]; done) | rfl
theorem own_ef54 (m : MethodId) (i : Int32) (a1 : Addr) : entryFrame m #[(.int i), (.ref a1)] 2 = mkF m 0 #[.val (.int i), .val (.ref a1)] [] := by first | (simp [entryFrame, mkF, argsToLocals, Value.category]; done) | rfl
theorem own_ef49 (m : MethodId) (i : Int32) (sz : Int32) (a1 : Addr) : entryFrame m #[(.int i), (.int sz), (.ref a1)] 3 = mkF m 0 #[.val (.int i), .val (.int sz), .val (.ref a1)] [] := by first | (simp [entryFrame, mkF, argsToLocals, Value.category]; done) | rfl
theorem own_ef30 (m : MethodId) (cp : Int32) : entryFrame m #[(.int cp)] 1 = mkF m 0 #[.val (.int cp)] [] := by first | (simp [entryFrame, mkF, argsToLocals, Value.category]; done) | rfl
theorem own_ef38 (m : MethodId) (cp : Int32) : entryFrame m #[(.int cp)] 1 = mkF m 0 #[.val (.int cp)] [] := by first | (simp [entryFrame, mkF, argsToLocals, Value.category]; done) | rfl
theorem own_ef39 (m : MethodId) (cp : Int32) : entryFrame m #[(.int cp)] 1 = mkF m 0 #[.val (.int cp)] [] := by first | (simp [entryFrame, mkF, argsToLocals, Value.category]; done) | rfl
theorem own_ef41 (m : MethodId) (cp : Int32) : entryFrame m #[(.int cp)] 1 = mkF m 0 #[.val (.int cp)] [] := by first | (simp [entryFrame, mkF, argsToLocals, Value.category]; done) | rfl
theorem own_ef43 (m : MethodId) (cp : Int32) : entryFrame m #[(.int cp)] 1 = mkF m 0 #[.val (.int cp)] [] := by first | (simp [entryFrame, mkF, argsToLocals, Value.category]; done) | rfl
theorem own_ef46 (m : MethodId) (p1 : Int32) : entryFrame m #[(.int p1)] 1 = mkF m 0 #[.val (.int p1)] [] := by first | (simp [entryFrame, mkF, argsToLocals, Value.category]; done) | rfl
theorem own_ef45 (m : MethodId) (p1 : Int32) : entryFrame m #[(.int p1)] 1 = mkF m 0 #[.val (.int p1)] [] := by first | (simp [entryFrame, mkF, argsToLocals, Value.category]; done) | rfl
theorem own_ef42 (m : MethodId) (a1 : Addr) (p1 : Int32) (ch : Int32) : entryFrame m #[(.ref a1), (.int p1), (.int ch)] 3 = mkF m 0 #[.val (.ref a1), .val (.int p1), .val (.int ch)] [] := by first | (simp [entryFrame, mkF, argsToLocals, Value.category]; done) | rfl
theorem own_ef31 (m : MethodId) (ch : Int32) : entryFrame m #[(.int ch)] 1 = mkF m 0 #[.val (.int ch)] [] := by first | (simp [entryFrame, mkF, argsToLocals, Value.category]; done) | rfl
theorem own_ef56 (m : MethodId) (ch : Int32) : entryFrame m #[(.int ch)] 2 = mkF m 0 #[.val (.int ch), .unset] [] := by first | (simp [entryFrame, mkF, argsToLocals, Value.category]; done) | rfl
theorem own_ef40 (m : MethodId) (cp : Int32) : entryFrame m #[(.int cp)] 2 = mkF m 0 #[.val (.int cp), .unset] [] := by first | (simp [entryFrame, mkF, argsToLocals, Value.category]; done) | rfl
theorem own_ef32 (m : MethodId) (a1 : Addr) (a2 : Addr) (p2 : Int32) : entryFrame m #[(.ref a1), (.ref a2), (.int p2)] 3 = mkF m 0 #[.val (.ref a1), .val (.ref a2), .val (.int p2)] [] := by first | (simp [entryFrame, mkF, argsToLocals, Value.category]; done) | rfl
theorem own_ef29 (m : MethodId) (cp : Int32) : entryFrame m #[(.int cp)] 1 = mkF m 0 #[.val (.int cp)] [] := by first | (simp [entryFrame, mkF, argsToLocals, Value.category]; done) | rfl
theorem own_ef28 (m : MethodId) (cp : Int32) : entryFrame m #[(.int cp)] 1 = mkF m 0 #[.val (.int cp)] [] := by first | (simp [entryFrame, mkF, argsToLocals, Value.category]; done) | rfl
theorem own_ef6 (m : MethodId) (a1 : Addr) (p1 : Int32) : entryFrame m #[(.ref a1), (.int p1)] 2 = mkF m 0 #[.val (.ref a1), .val (.int p1)] [] := by first | (simp [entryFrame, mkF, argsToLocals, Value.category]; done) | rfl
theorem own_ef5 (m : MethodId) (a1 : Addr) : entryFrame m #[(.ref a1)] 1 = mkF m 0 #[.val (.ref a1)] [] := by first | (simp [entryFrame, mkF, argsToLocals, Value.category]; done) | rfl
theorem own_ef18 (m : MethodId) (bA : Addr) : entryFrame m #[(.ref bA)] 1 = mkF m 0 #[.val (.ref bA)] [] := by first | (simp [entryFrame, mkF, argsToLocals, Value.category]; done) | rfl
theorem own_ef20 (m : MethodId) (bA : Addr) : entryFrame m #[(.ref bA)] 1 = mkF m 0 #[.val (.ref bA)] [] := by first | (simp [entryFrame, mkF, argsToLocals, Value.category]; done) | rfl
theorem own_ef19 (m : MethodId) (bA : Addr) : entryFrame m #[(.ref bA)] 1 = mkF m 0 #[.val (.ref bA)] [] := by first | (simp [entryFrame, mkF, argsToLocals, Value.category]; done) | rfl
theorem own_ef11 (m : MethodId) (bA : Addr) (mc : Int32) : entryFrame m #[(.ref bA), (.int mc)] 3 = mkF m 0 #[.val (.ref bA), .val (.int mc), .unset] [] := by first | (simp [entryFrame, mkF, argsToLocals, Value.category]; done) | rfl
theorem own_ef13 (m : MethodId) (bA : Addr) (sA : Addr) : entryFrame m #[(.ref bA), (.ref sA)] 2 = mkF m 0 #[.val (.ref bA), .val (.ref sA)] [] := by first | (simp [entryFrame, mkF, argsToLocals, Value.category]; done) | rfl
theorem own_ef14 (m : MethodId) (sA : Addr) (dV : Addr) (p2 : Int32) (co : Int32) : entryFrame m #[(.ref sA), (.ref dV), (.int p2), (.int co)] 4 = mkF m 0 #[.val (.ref sA), .val (.ref dV), .val (.int p2), .val (.int co)] [] := by first | (simp [entryFrame, mkF, argsToLocals, Value.category]; done) | rfl
theorem own_ef12 (m : MethodId) (bA : Addr) (p1 : Int32) (sA : Addr) : entryFrame m #[(.ref bA), (.int p1), (.ref sA)] 3 = mkF m 0 #[.val (.ref bA), .val (.int p1), .val (.ref sA)] [] := by first | (simp [entryFrame, mkF, argsToLocals, Value.category]; done) | rfl
theorem own_ef8 (m : MethodId) (bA : Addr) (sA : Addr) : entryFrame m #[(.ref bA), (.ref sA)] 3 = mkF m 0 #[.val (.ref bA), .val (.ref sA), .unset] [] := by first | (simp [entryFrame, mkF, argsToLocals, Value.category]; done) | rfl
theorem own_ef7 (m : MethodId) (bA : Addr) (sA : Addr) : entryFrame m #[(.ref bA), (.ref sA)] 2 = mkF m 0 #[.val (.ref bA), .val (.ref sA)] [] := by first | (simp [entryFrame, mkF, argsToLocals, Value.category]; done) | rfl
theorem own_ef48 (m : MethodId) (a1 : Addr) (p1 : Int32) (a2 : Addr) (p3 : Int32) (p4 : Int32) : entryFrame m #[(.ref a1), (.int p1), (.ref a2), (.int p3), (.int p4)] 6 = mkF m 0 #[.val (.ref a1), .val (.int p1), .val (.ref a2), .val (.int p3), .val (.int p4), .unset] [] := by first | (simp [entryFrame, mkF, argsToLocals, Value.category]; done) | rfl
theorem own_ef47 (m : MethodId) (a1 : Addr) (p1 : Int32) (a2 : Addr) (p3 : Int32) (p4 : Int32) : entryFrame m #[(.ref a1), (.int p1), (.ref a2), (.int p3), (.int p4)] 5 = mkF m 0 #[.val (.ref a1), .val (.int p1), .val (.ref a2), .val (.int p3), .val (.int p4)] [] := by first | (simp [entryFrame, mkF, argsToLocals, Value.category]; done) | rfl
theorem own_ef44 (m : MethodId) (bA : Addr) : entryFrame m #[(.ref bA)] 2 = mkF m 0 #[.val (.ref bA), .unset] [] := by first | (simp [entryFrame, mkF, argsToLocals, Value.category]; done) | rfl
theorem own_ef23 (m : MethodId) (a1 : Addr) (p1 : Int32) (n : Int32) : entryFrame m #[(.ref a1), (.int p1), (.int n)] 5 = mkF m 0 #[.val (.ref a1), .val (.int p1), .val (.int n), .unset, .unset] [] := by first | (simp [entryFrame, mkF, argsToLocals, Value.category]; done) | rfl
theorem own_ef22 (m : MethodId) (a1 : Addr) (p1 : Int32) (n : Int32) : entryFrame m #[(.ref a1), (.int p1), (.int n)] 3 = mkF m 0 #[.val (.ref a1), .val (.int p1), .val (.int n)] [] := by first | (simp [entryFrame, mkF, argsToLocals, Value.category]; done) | rfl
theorem own_ef17n (m : MethodId) (a1 : Addr) (bA : Addr) : entryFrame m #[(.ref a1), (.ref bA), .null] 5 = mkF m 0 #[.val (.ref a1), .val (.ref bA), .val .null, .unset, .unset] [] := by first | (simp [entryFrame, mkF, argsToLocals, Value.category]; done) | rfl
theorem own_ef16 (m : MethodId) (a1 : Addr) (bA : Addr) : entryFrame m #[(.ref a1), (.ref bA)] 2 = mkF m 0 #[.val (.ref a1), .val (.ref bA)] [] := by first | (simp [entryFrame, mkF, argsToLocals, Value.category]; done) | rfl
theorem own_ef15 (m : MethodId) (bA : Addr) : entryFrame m #[(.ref bA)] 1 = mkF m 0 #[.val (.ref bA)] [] := by first | (simp [entryFrame, mkF, argsToLocals, Value.category]; done) | rfl
theorem own_ef27 (m : MethodId) (a1 : Addr) (a2 : Addr) : entryFrame m #[(.ref a1), (.ref a2)] 3 = mkF m 0 #[.val (.ref a1), .val (.ref a2), .unset] [] := by first | (simp [entryFrame, mkF, argsToLocals, Value.category]; done) | rfl
theorem own_ef26 (m : MethodId) (sA : Addr) (tA : Addr) : entryFrame m #[(.ref sA), (.ref tA)] 3 = mkF m 0 #[.val (.ref sA), .val (.ref tA), .unset] [] := by first | (simp [entryFrame, mkF, argsToLocals, Value.category]; done) | rfl
theorem own_ef35 (m : MethodId) (a1 : Addr) (i : Int32) : entryFrame m #[(.ref a1), (.int i)] 2 = mkF m 0 #[.val (.ref a1), .val (.int i)] [] := by first | (simp [entryFrame, mkF, argsToLocals, Value.category]; done) | rfl
theorem own_ef33 (m : MethodId) (sA : Addr) (p1 : Int32) : entryFrame m #[(.ref sA), (.int p1)] 2 = mkF m 0 #[.val (.ref sA), .val (.int p1)] [] := by first | (simp [entryFrame, mkF, argsToLocals, Value.category]; done) | rfl
theorem own_ef55 (m : MethodId) (a1 : Addr) (p1 : Int32) : entryFrame m #[(.ref a1), (.int p1)] 2 = mkF m 0 #[.val (.ref a1), .val (.int p1)] [] := by first | (simp [entryFrame, mkF, argsToLocals, Value.category]; done) | rfl
theorem own_ef53 (m : MethodId) (a1 : Addr) (p1 : Int32) : entryFrame m #[(.ref a1), (.int p1)] 2 = mkF m 0 #[.val (.ref a1), .val (.int p1)] [] := by first | (simp [entryFrame, mkF, argsToLocals, Value.category]; done) | rfl
theorem own_ef4 (m : MethodId) (a1 : Addr) : entryFrame m #[(.ref a1)] 2 = mkF m 0 #[.val (.ref a1), .unset] [] := by first | (simp [entryFrame, mkF, argsToLocals, Value.category]; done) | rfl
theorem own_ef0 (m : MethodId) (p1 : Int32) (p2 : Int32) : entryFrame m #[(.int p1), (.int p2)] maxLocals = mkF m 0 #[.val (.int p1), .val (.int p2), .unset, .unset, .unset, .unset, .unset, .unset] [] := by first | (simp [entryFrame, mkF, argsToLocals, Value.category, maxLocals]; done) | rfl
theorem own_same {Z : State} {a0 : Array Value} {C : String} {y z : MethodName} (hi : (Jvm.Cond.instanceMethod y).before a0 Z = true) (hs : (Jvm.Cond.selects C z z).before a0 Z = true) (hd : (Jvm.Cond.declares z).before a0 Z = true) (hc : z.cls = y.cls) (hy : y.cls ≠ "java/lang/invoke/MethodHandle" ∧ y.cls ≠ "java/lang/invoke/VarHandle") : (Jvm.Cond.sameMethod y.cls y.cls y.name y.desc).before a0 Z = true := by
  obtain ⟨mk, methM, hnamed, -, -, -⟩ := Cond.instanceMethod_spec hi
  obtain ⟨mz, -, hz, -⟩ := Cond.declares_spec hd
  have hf := State.methodFound?_of_named hnamed hy
  have h1 := findClass_of_methodNamed hnamed
  have h2 := findClass_of_methodNamed hz
  obtain ⟨k, hk, -⟩ := className_of_methodNamed hnamed
  have hni := notFace_of_selects hs mz hz
  obtain ⟨kr, hkr, hf2⟩ := hni
  rw [hc, h1] at h2
  rw [← Option.some.inj h2, hk] at hkr
  obtain rfl := Option.some.inj hkr
  simp [Cond.before, Cond.holds, Cond.value, h1, hf, hnamed, hk, hf2]
section OwnSuper
variable {p : Program} {l : Launch} {e : Env} {R : Room} {s : State} {m : MethodId} {args : Array Value} {below : List Frame} {meth : Method} {c : Code} {T : State} {locs : List Loc} {cells slots : Nat} {Z : State} {a0 : Array Value} {h : Heap}
theorem own_callT (X : Stand p l e R s m args below meth c T locs cells slots) (hx : p.tables.exec = Jvm.exec) (hZ : Z.Warmed39 s.vm) {own K : String} {index : Nat} {y : MethodName} {bytes : ByteArray} {maxL : Nat} {ret : Option FieldType} (hn : y.name ≠ "<init>") (hown : s.vm.findClass own = some m.cls)
    (w1 : (Jvm.Cond.methodLink own index y).before a0 Z = true) (w5 : (Jvm.Cond.sameMethod y.cls y.cls y.name y.desc).before a0 Z = true) (w2 : (Jvm.Cond.instanceMethod y).before a0 Z = true) (w6 : (Jvm.Cond.superclass own y.cls).before a0 Z = true) (w3 : (Jvm.Cond.initialized y.cls).before a0 Z = true) (w4 : (Jvm.Cond.code y bytes maxL ret).before a0 Z = true)
    {rm : Room} {as' : Array Value} {Q : Option Value → Heap → List Loc → Prop} (hM : MetFree l y (head1 [Jvm.Cond.code y bytes maxL ret] rm) (fun a U => a = as' ∧ Z.Warmed39 U.vm ∧ U.heap = h) (fun _ _ _ _ _ => True) (fun _ U o U' => ∃ v L, o = .returned v ∧ Q v U'.heap L ∧ FrameEnd U o U' L rm.cells rm.slots))
    (eT : T.heap = h) {a : Addr} (F : Ins Z h a K true) {g : JFrame} (hg : g.method = m) (hsize : g.locals.size = c.maxLocals) {argsL rest : List Value} (hlen : ∀ sig, parseMethodDescriptor y.desc = some sig → argsL.length = sig.parameters.length) (hstack : g.stack = argsL.reverse ++ .ref a :: rest) (has : (.ref a :: argsL).toArray = as') {W : Nat} (hW : 2 * g.monitorRoom + (rest.map fun v => v.category).sum ≤ W)
    (hd : decode c.code g.pc = .ok (.invokespecial index, 3)) (hf : rm.frames + 1 ≤ R.frames) (hl : W + (maxL + 11) + rm.locals ≤ R.locals) (hc : cells + rm.cells ≤ R.cells) (hs : slots + rm.slots ≤ R.slots) :
    ∃ v T' L, Q v T'.heap L ∧ Stand p l e R s m args below meth c T' (locs ++ L) (cells + rm.cells) (slots + rm.slots) ∧ ∀ t, Steps p.tables e below (T'.setTop { g with pc := g.pc + 3, stack := v.toList ++ rest }) t → Steps p.tables e below (T.setTop g) t := by
  obtain ⟨v, vm₁, ⟨T', L', k', n'⟩, -, X', ⟨L, hQ, l1, y1, z1⟩, st⟩ := superBack X hx hZ (y := y) hown w1 w5 w2 w6 hn (backOf (W := W) hM hZ w4 w3 hf hl) eT F hg hsize w4 (argsL := argsL) (rest := rest) hlen hstack hW hd (fun _ _ => ⟨has, eT, hc, hs⟩)
  dsimp only [Pt.U, Pt.locs, Pt.cells, Pt.slots] at X' l1 y1 z1 st hQ
  subst l1 y1 z1
  exact ⟨v, T', L, hQ, X', fun t k => st.trans k⟩
end OwnSuper
theorem own_decl {Z : State} {a0 : Array Value} {y : MethodName} {bytes : ByteArray} {maxL : Nat} {ret : Option FieldType} (hi : (Jvm.Cond.instanceMethod y).before a0 Z = true) (hc : (Jvm.Cond.code y bytes maxL ret).before a0 Z = true) : (Jvm.Cond.declares y).before a0 Z = true := by
  obtain ⟨mk, methM, hnamed, hm, hst, -⟩ := Cond.instanceMethod_spec hi
  obtain ⟨m2, cM, q1, -, -, -, -, -, -, hsig⟩ := Cond.code_spec hnamed hc
  cases hm.symm.trans q1
  simp [Cond.before, Cond.holds, Cond.value, hnamed, hm, hst, hsig]
theorem own_extkl {h0 h h' : Heap} {ws : List Addr} (O : Ext h0 h) (K : Keep h h' ws) (q : ∀ x ∈ ws, h0.size ≤ x) : Ext h0 h' :=
  ⟨Nat.le_trans O.1 K.1, fun x c r => K.2.1 x c (O.2 x c r) (fun z => absurd (Array.getElem?_eq_some_iff.mp r).1 (Nat.not_lt.mpr (q x z)))⟩
theorem own_arvc {Z : State} {h : Heap} {a : Addr} {k : ClassId} {ty : FieldType} {n : Int32} {vs ws : List Value} {dv : Value} (F : Arv Z h a k ty n vs dv) (q : vs = ws) : Arv Z h a k ty n ws dv := q ▸ F
def own_cut (us : List Value) (n : Int32) : List Value := (List.range n.toNatClampNeg).map fun i => us.getD ((0 : Int32).toNatClampNeg + i) (.int 0)
def own_put (ws : List Value) (of : Int32) (us : List Value) (z : Int32) : List Value := ws.take of.toNatClampNeg ++ own_cut us z ++ ws.drop (of.toNatClampNeg + z.toNatClampNeg)
theorem own_n0 : (0 : Int32).toNatClampNeg = 0 := by decide
theorem own_z0 (z : Int32) : (0 : Int32).toNatClampNeg + z.toNatClampNeg ≤ z.toNatClampNeg := by rw [own_n0]; omega
theorem own_z1 {n z : Int32} (h : n.toNatClampNeg ≤ z.toNatClampNeg) : (0 : Int32).toNatClampNeg + n.toNatClampNeg ≤ z.toNatClampNeg := by rw [own_n0]; omega
theorem own_zl (n : Int32) (v : Value) : (0 : Int32).toNatClampNeg + n.toNatClampNeg ≤ ([] ++ List.replicate n.toNatClampNeg v).length := by rw [own_n0]; simp
theorem own_cutl (us : List Value) (n : Int32) (v : Value) : ([] ++ List.replicate n.toNatClampNeg v).take (0 : Int32).toNatClampNeg ++ own_cut us n ++ ([] ++ List.replicate n.toNatClampNeg v).drop ((0 : Int32).toNatClampNeg + n.toNatClampNeg) = own_cut us n := by rw [own_n0]; simp
theorem own_sub0 (x : Int32) : x - 0 = x := by
  have q := c_isub x 0
  have r1 := rng32 x
  have r2 := rng32 (x - 0)
  have z : (0 : Int32).toInt = 0 := by decide
  exact Int32.toInt_inj.mp (by omega)
def own_Bl (c : Int32) : Int32 := nar .byte (c.toInt8.toInt32)
def own_B0 (c : Int32) : Int32 := nar .byte ((c >>> ((0 : Int32) &&& 31)).toInt8.toInt32)
def own_B1 (c : Int32) : Int32 := nar .byte ((c >>> ((8 : Int32) &&& 31)).toInt8.toInt32)
def own_HS (c : Int32) : Int32 := nar .char ((((c.toUInt32 >>> ((10 : Int32) &&& 31).toUInt32).toInt32) + (55232 : Int32)).toUInt32.toUInt16.toUInt32.toInt32)
def own_LS (c : Int32) : Int32 := nar .char (((c &&& (1023 : Int32)) + (56320 : Int32)).toUInt32.toUInt16.toUInt32.toInt32)
def own_c1 (x : Int32) : Int32 := nar .char (nar .char ((x &&& (255 : Int32)).toUInt32.toUInt16.toUInt32.toInt32))
def own_gc (x y : Int32) : Int32 := nar .char (nar .char (nar .char ((((x &&& (255 : Int32)) <<< ((0 : Int32) &&& 31)) ||| ((y &&& (255 : Int32)) <<< ((8 : Int32) &&& 31))).toUInt32.toUInt16.toUInt32.toInt32)))
theorem own_nb (x : Int32) : (nar .byte x).toInt = x.toInt8.toInt32.toInt := rfl
theorem own_narc (x : Int32) (h0 : 0 ≤ x.toInt) (h1 : x.toInt < 65536) : nar .char x = x := by
  have q := c_i2c x
  show x.toUInt32.toUInt16.toUInt32.toInt32 = x
  exact Int32.toInt_inj.mp (by omega)
theorem own_i2cr (x : Int32) : 0 ≤ x.toUInt32.toUInt16.toUInt32.toInt32.toInt ∧ x.toUInt32.toUInt16.toUInt32.toInt32.toInt < 65536 := (c_i2c x).2
theorem own_byte (x : Int32) : ((nar .byte (x.toInt8.toInt32)) &&& (255 : Int32)).toInt = x.toInt % 256 := by
  have q := c_mask (nar .byte (x.toInt8.toInt32)) 255 8 (by decide) (by decide)
  have a := c_i2b x
  have b : (nar .byte (x.toInt8.toInt32)).toInt = x.toInt8.toInt32.toInt8.toInt32.toInt := rfl
  have c := c_i2b (x.toInt8.toInt32)
  rw [q, b]
  omega
theorem own_c1b (cp : Int32) (h0 : 0 ≤ cp.toInt) (h1 : cp.toInt ≤ 255) : own_c1 (own_Bl (cp.toUInt32.toUInt16.toUInt32.toInt32)) = cp.toUInt32.toUInt16.toUInt32.toInt32 := by
  have e : cp.toUInt32.toUInt16.toUInt32.toInt32 = cp := own_narc cp h0 (by omega)
  rw [e]
  have q : ((own_Bl cp) &&& (255 : Int32)).toInt = cp.toInt % 256 := own_byte cp
  have q2 : (own_Bl cp) &&& (255 : Int32) = cp := Int32.toInt_inj.mp (by omega)
  show nar .char (nar .char (nar .char ((own_Bl cp) &&& (255 : Int32)))) = cp
  rw [q2, own_narc cp h0 (by omega), own_narc cp h0 (by omega), own_narc cp h0 (by omega)]
theorem own_gcp (c : Int32) (h0 : 0 ≤ c.toInt) (h1 : c.toInt < 65536) : own_gc (own_B0 c) (own_B1 c) = c := by
  have a0 := c_ishr c 0 0 (by decide)
  have a1 := c_ishr c 8 8 (by decide)
  have b0 : ((own_B0 c) &&& (255 : Int32)).toInt = (c >>> ((0 : Int32) &&& 31)).toInt % 256 := own_byte _
  have b1 : ((own_B1 c) &&& (255 : Int32)).toInt = (c >>> ((8 : Int32) &&& 31)).toInt % 256 := own_byte _
  have s0 := c_ishl ((own_B0 c) &&& (255 : Int32)) 0 0 (by decide)
  have s1 := c_ishl ((own_B1 c) &&& (255 : Int32)) 8 8 (by decide)
  have r0 := rng32 (((own_B0 c) &&& (255 : Int32)) <<< ((0 : Int32) &&& 31))
  have r1 := rng32 (((own_B1 c) &&& (255 : Int32)) <<< ((8 : Int32) &&& 31))
  have o := c_or' (((own_B0 c) &&& (255 : Int32)) <<< ((0 : Int32) &&& 31)) (((own_B1 c) &&& (255 : Int32)) <<< ((8 : Int32) &&& 31)) 8 (by decide) 256 (by decide) (by omega) (by omega) (by omega)
  have r := rng32 ((((own_B0 c) &&& (255 : Int32)) <<< ((0 : Int32) &&& 31)) ||| (((own_B1 c) &&& (255 : Int32)) <<< ((8 : Int32) &&& 31)))
  have q : (((own_B0 c) &&& (255 : Int32)) <<< ((0 : Int32) &&& 31)) ||| (((own_B1 c) &&& (255 : Int32)) <<< ((8 : Int32) &&& 31)) = c := Int32.toInt_inj.mp (by omega)
  show nar .char (nar .char (nar .char (nar .char ((((own_B0 c) &&& (255 : Int32)) <<< ((0 : Int32) &&& 31)) ||| (((own_B1 c) &&& (255 : Int32)) <<< ((8 : Int32) &&& 31)))))) = c
  rw [q, own_narc c h0 h1, own_narc c h0 h1, own_narc c h0 h1, own_narc c h0 h1]
theorem own_HSr (c : Int32) : 0 ≤ (own_HS c).toInt ∧ (own_HS c).toInt < 65536 := (c_i2c _).2
theorem own_LSr (c : Int32) : 0 ≤ (own_LS c).toInt ∧ (own_LS c).toInt < 65536 := (c_i2c _).2
theorem own_hi (c : Int32) (h0 : 65536 ≤ c.toInt) (h1 : c.toInt < 1114112) : own_HS c = ((55296 : Int32) + ((c - (65536 : Int32)).toUInt32 >>> ((10 : Int32) &&& 31).toUInt32).toInt32).toUInt32.toUInt16.toUInt32.toInt32 := by
  have a := c_isub c 65536
  have z : (65536 : Int32).toInt = 65536 := by decide
  have r := rng32 (c - (65536 : Int32))
  have s1 := c_iushr c 10 10 (by decide) (by decide)
  have s2 := c_iushr (c - (65536 : Int32)) 10 10 (by decide) (by decide)
  have t1 := c_iadd ((c.toUInt32 >>> ((10 : Int32) &&& 31).toUInt32).toInt32) (55232 : Int32)
  have t2 := c_iadd (55296 : Int32) (((c - (65536 : Int32)).toUInt32 >>> ((10 : Int32) &&& 31).toUInt32).toInt32)
  have z1 : (55232 : Int32).toInt = 55232 := by decide
  have z2 : (55296 : Int32).toInt = 55296 := by decide
  have e : ((c.toUInt32 >>> ((10 : Int32) &&& 31).toUInt32).toInt32) + (55232 : Int32) = (55296 : Int32) + ((c - (65536 : Int32)).toUInt32 >>> ((10 : Int32) &&& 31).toUInt32).toInt32 := by
    have u1 := rng32 (((c.toUInt32 >>> ((10 : Int32) &&& 31).toUInt32).toInt32) + (55232 : Int32))
    have u2 := rng32 ((55296 : Int32) + ((c - (65536 : Int32)).toUInt32 >>> ((10 : Int32) &&& 31).toUInt32).toInt32)
    exact Int32.toInt_inj.mp (by omega)
  unfold own_HS
  rw [e]
  exact own_narc _ (c_i2c _).2.1 (c_i2c _).2.2
theorem own_lo (c : Int32) (h0 : 65536 ≤ c.toInt) (h1 : c.toInt < 1114112) : own_LS c = ((56320 : Int32) + ((c - (65536 : Int32)) &&& (1023 : Int32))).toUInt32.toUInt16.toUInt32.toInt32 := by
  have a := c_isub c 65536
  have z : (65536 : Int32).toInt = 65536 := by decide
  have r := rng32 (c - (65536 : Int32))
  have s1 := c_mask c 1023 10 (by decide) (by decide)
  have s2 := c_mask (c - (65536 : Int32)) 1023 10 (by decide) (by decide)
  have e0 : c &&& (1023 : Int32) = (c - (65536 : Int32)) &&& (1023 : Int32) := Int32.toInt_inj.mp (by omega)
  have e : (c &&& (1023 : Int32)) + (56320 : Int32) = (56320 : Int32) + ((c - (65536 : Int32)) &&& (1023 : Int32)) := by rw [e0, Int32.add_comm]
  unfold own_LS
  rw [e]
  exact own_narc _ (c_i2c _).2.1 (c_i2c _).2.2
theorem own_bmp (c : Int32) (h0 : 0 ≤ c.toInt) (h1 : c.toInt < 65536) : ((c.toUInt32 >>> ((16 : Int32) &&& 31).toUInt32).toInt32) = 0 := by
  have s := c_iushr c 16 16 (by decide) (by decide)
  have z : (0 : Int32).toInt = 0 := by decide
  exact Int32.toInt_inj.mp (by omega)
theorem own_nbmp (c : Int32) (h0 : 65536 ≤ c.toInt) (h1 : c.toInt < 1114112) : ¬ ((c.toUInt32 >>> ((16 : Int32) &&& 31).toUInt32).toInt32) = 0 := fun q => by
  have s := c_iushr c 16 16 (by decide) (by decide)
  have z : (0 : Int32).toInt = 0 := by decide
  rw [q] at s
  omega
theorem own_remN (x : Int32) (n : Int32) (k : Int) (h : 0 ≤ x.toInt) (hn : n.toInt = k) (hk : 0 < k) : 0 ≤ (x % n).toInt ∧ (x % n).toInt < k := by
  have q := (c_iremV x n).1 h (by omega)
  omega
theorem own_miss (k : Int32) (n8 : ¬ k = 8) (n9 : ¬ k = 9) (n10 : ¬ k = 10) (n12 : ¬ k = 12) (n13 : ¬ k = 13) (n32 : ¬ k = 32) : (#[(8, 85), (9, 75), (10, 60), (12, 80), (13, 65), (32, 70)] : Array (Int × Int)).find? (·.1 == k.toInt) = none := by
  have f : ∀ (y : Int32) (z : Int), y.toInt = z → ¬ k = y → (z == k.toInt) = false := fun y z e n => by
    rw [← e]
    exact beq_eq_false_iff_ne.mpr fun q => n (Int32.toInt_inj.mp q.symm)
  simp [f 8 8 (by decide) n8, f 9 9 (by decide) n9, f 10 10 (by decide) n10, f 12 12 (by decide) n12, f 13 13 (by decide) n13, f 32 32 (by decide) n32]
theorem own_c192 : own_c1 (92 : Int32) = 92 := by decide
theorem own_gc92 : own_gc (own_B0 (92 : Int32)) (own_B1 (92 : Int32)) = 92 := by decide
def own_rc_Q (Z : State) (a1 : Addr) (h0 : Heap) (n0 : Nat) (v : Option Value) (h : Heap) (L : List Loc) : Prop := v = none ∧ Fr n0 L ∧ h = h0
set_option maxRecDepth 65536 in
set_option maxHeartbeats 40000000 in
theorem own_rc (l : Launch) {Z : State} {a0 : Array Value} (hw : own_W Z a0) (ws : List Jvm.Cond) (a1 : Addr) (h0 : Heap) (n0 : Nat) (Z0 : n0 ≤ h0.size)  :
    MetFree l (⟨"java/lang/Record", "<init>", "()V"⟩ : MethodName) (head1 (Jvm.Cond.code (⟨"java/lang/Record", "<init>", "()V"⟩ : MethodName) jdk_30_method_1_code 1 none :: ws) ({ frames := 1, cells := 0, slots := 0, locals := 12 } : Room)) (fun a U => a = #[(.ref a1)] ∧ Z.Warmed39 U.vm ∧ U.heap = h0) (fun _ _ _ _ _ => True) (fun _ U o U' => ∃ v L, o = .returned v ∧ own_rc_Q Z a1 h0 n0 v U'.heap L ∧ FrameEnd U o U' L ({ frames := 1, cells := 0, slots := 0, locals := 12 } : Room).cells ({ frames := 1, cells := 0, slots := 0, locals := 12 } : Room).slots) := by
  refine own_enter (C := ({ frames := 1, cells := 0, slots := 0, locals := 12 } : Room).cells) (S := ({ frames := 1, cells := 0, slots := 0, locals := 12 } : Room).slots) (plainFor_of_name own_pn0) ?_
  intro p e s m below meth c T0 X0 I e0
  obtain ⟨hx, hby, hml, hown, hnm, hret, hlk, hZ⟩ := I
  have N0 := Fr.nil n0
  have O0 := own_extr h0
  refine own_cast (own_ef2 m a1) ?_
  show own_Go _ _ _ _ T0 (mkF m 0 #[.val (.ref a1)] [])
  refine own_st (fun _ k => XS.aloadN X0.here hx rfl (hb hby own_d2_0) rfl rfl k) ?_
  obtain ⟨T1, X1, e1, st1⟩ := initO X0 hx hZ hown (own_w11 hw) (own_w12 hw) (own_w13 hw) e0 (g := (mkF m 1 #[.val (.ref a1)] [(.ref a1)])) rfl (by rw [hml]; rfl) rfl (hb hby own_d2_1) (by decide) (W := 0) (Nat.le_of_eq rfl) (by decide)
  refine own_st st1 ?_
  exact own_retV X1 hx hret hlk (hb hby own_d2_4) ⟨rfl, N0, e1⟩ (by decide) (by decide)
def own_chi_Q (Z : State) (a1 : Addr) (cp : Int32) (h0 : Heap) (n0 : Nat) (v : Option Value) (h : Heap) (L : List Loc) : Prop := v = none ∧ Fr n0 L ∧ Keep h0 h [a1] ∧ Fld Z h a1 "com/example/isoscope/isoscope/Edn$Char" "codePoint" "I" (.int cp)
set_option maxRecDepth 65536 in
set_option maxHeartbeats 40000000 in
theorem own_chi (l : Launch) {Z : State} {a0 : Array Value} (hw : own_W Z a0) (ws : List Jvm.Cond) (a1 : Addr) (cp : Int32) (h0 : Heap) (n0 : Nat) (Z0 : n0 ≤ h0.size) (g_a1 : n0 ≤ a1) (Ea : Exa Z h0 a1 "com/example/isoscope/isoscope/Edn$Char") (Fp : Fld Z h0 a1 "com/example/isoscope/isoscope/Edn$Char" "codePoint" "I" (.int 0)) :
    MetFree l (⟨"com/example/isoscope/isoscope/Edn$Char", "<init>", "(I)V"⟩ : MethodName) (head1 (Jvm.Cond.code (⟨"com/example/isoscope/isoscope/Edn$Char", "<init>", "(I)V"⟩ : MethodName) prog_8_method_1_code 2 none :: ws) ({ frames := 2, cells := 0, slots := 0, locals := 24 } : Room)) (fun a U => a = #[(.ref a1), (.int cp)] ∧ Z.Warmed39 U.vm ∧ U.heap = h0) (fun _ _ _ _ _ => True) (fun _ U o U' => ∃ v L, o = .returned v ∧ own_chi_Q Z a1 cp h0 n0 v U'.heap L ∧ FrameEnd U o U' L ({ frames := 2, cells := 0, slots := 0, locals := 24 } : Room).cells ({ frames := 2, cells := 0, slots := 0, locals := 24 } : Room).slots) := by
  refine own_enter (C := ({ frames := 2, cells := 0, slots := 0, locals := 24 } : Room).cells) (S := ({ frames := 2, cells := 0, slots := 0, locals := 24 } : Room).slots) (plainFor_of_name own_pn1) ?_
  intro p e s m below meth c T0 X0 I e0
  obtain ⟨hx, hby, hml, hown, hnm, hret, hlk, hZ⟩ := I
  have N0 := Fr.nil n0
  have O0 := own_extr h0
  refine own_cast (own_ef1 m a1 cp) ?_
  show own_Go _ _ _ _ T0 (mkF m 0 #[.val (.ref a1), .val (.int cp)] [])
  have K0 := Keep.refl h0 [a1]
  refine own_st (fun _ k => XS.aloadN X0.here hx rfl (hb hby own_d1_0) rfl rfl k) ?_
  obtain ⟨v1, T1, L1, hQ1, X1, st1⟩ := own_callI X0 hx hZ (y := (⟨"java/lang/Record", "<init>", "()V"⟩ : MethodName)) rfl hown (own_w6 hw) (own_w7 hw) (own_w9 hw) (own_w10 hw) (by decide) (own_rc l hw [] a1 h0 n0 Z0) e0 (g := (mkF m 1 #[.val (.ref a1), .val (.int cp)] [(.ref a1)])) rfl (by rw [hml]; rfl) (argsL := []) (rest := []) (lenOf own_pd0 rfl) rfl rfl (W := 0) (Nat.le_of_eq rfl) (hb hby own_d1_1) (by decide) (by decide) (by decide) (by decide)
  obtain ⟨rfl, N1, e1⟩ := hQ1
  have N1' := Fr.app N0 N1
  refine own_st st1 ?_
  refine own_st (fun _ k => XS.aloadN X1.here hx rfl (hb hby own_d1_4) rfl rfl k) ?_
  refine own_st (fun _ k => XS.iloadN X1.here hx rfl (hb hby own_d1_5) rfl k) ?_
  obtain ⟨T2, hp2, X2, e2, W2, st2⟩ := putF X1 hx hZ hown (host := "") (Or.inl (own_w14 hw)) Via.refl e1 Fp Ea (Or.inr ⟨(own_w15 hw), rfl, hnm⟩) (own_w1 hw) (ty := .int) (by decide) rfl rfl (g := (mkF m 6 #[.val (.ref a1), .val (.int cp)] [(.int cp), (.ref a1)])) rfl rfl (hb hby own_d1_6)
  have K2 := Keep.wr K0 W2 (Or.inl (List.mem_of_getElem? (i := 0) rfl))
  have Ex_a1_2 := Ea.wr W2
  have F_codePoint_a1_2 := Fp.same W2
  have N2 := Fr.snoc X2 N1' g_a1
  refine own_st st2 ?_
  exact own_retV X2 hx hret hlk (hb hby own_d1_9) ⟨rfl, N2, by rw [e2]; exact K2, by rw [e2]; exact F_codePoint_a1_2⟩ (by decide) (by decide)
def own_co_Q (Z : State) (sA : Addr) (cs co : Int32) (h0 : Heap) (n0 : Nat) (v : Option Value) (h : Heap) (L : List Loc) : Prop := v = some (.int co) ∧ Fr n0 L ∧ h = h0
set_option maxRecDepth 65536 in
set_option maxHeartbeats 40000000 in
theorem own_co (l : Launch) {Z : State} {a0 : Array Value} (hw : own_W Z a0) (ws : List Jvm.Cond) (sA : Addr) (cs co : Int32) (h0 : Heap) (n0 : Nat) (Z0 : n0 ≤ h0.size) (zn : Z.heap.size ≤ n0) (OZ : Ext Z.heap h0) (Scs : Sta Z Z.heap "java/lang/String" "COMPACT_STRINGS" "Z" (.int cs)) (hcs : ¬ cs = 0) (hnc : nar .byte co = co) (Fsc : Fld Z h0 sA "java/lang/String" "coder" "B" (.int co)) :
    MetFree l (⟨"java/lang/String", "coder", "()B"⟩ : MethodName) (head1 (Jvm.Cond.code (⟨"java/lang/String", "coder", "()B"⟩ : MethodName) jdk_42_method_152_code 1 (some .byte) :: ws) ({ frames := 0, cells := 0, slots := 0, locals := 0 } : Room)) (fun a U => a = #[(.ref sA)] ∧ Z.Warmed39 U.vm ∧ U.heap = h0) (fun _ _ _ _ _ => True) (fun _ U o U' => ∃ v L, o = .returned v ∧ own_co_Q Z sA cs co h0 n0 v U'.heap L ∧ FrameEnd U o U' L ({ frames := 0, cells := 0, slots := 0, locals := 0 } : Room).cells ({ frames := 0, cells := 0, slots := 0, locals := 0 } : Room).slots) := by
  refine own_enter (C := ({ frames := 0, cells := 0, slots := 0, locals := 0 } : Room).cells) (S := ({ frames := 0, cells := 0, slots := 0, locals := 0 } : Room).slots) (plainFor_of_name own_pn2) ?_
  intro p e s m below meth c T0 X0 I e0
  obtain ⟨hx, hby, hml, hown, hnm, hret, hlk, hZ⟩ := I
  have N0 := Fr.nil n0
  have O0 := own_extr h0
  refine own_cast (own_ef10 m sA) ?_
  show own_Go _ _ _ _ T0 (mkF m 0 #[.val (.ref sA)] [])
  obtain ⟨T1, X1, e1, st1⟩ := getS2 X0 hx hZ hown (host := "") (Or.inl (own_w69 hw)) Via.refl e0 (Scs.ext (own_extt OZ O0)) (g := (mkF m 0 #[.val (.ref sA)] [])) rfl (hb hby own_d10_0)
  refine own_st st1 ?_
  refine own_st (fun _ k => XS.ifNo X1.here hx rfl (hb hby own_d10_3) rfl ((if0 _ _).trans (feq (hcs : ¬ (cs = (0 : Int32)))).1) k) ?_
  refine own_st (fun _ k => XS.aloadN X1.here hx rfl (hb hby own_d10_6) rfl rfl k) ?_
  obtain ⟨T2, X2, e2, st2⟩ := getF X1 hx hZ hown (host := "") (Or.inl (own_w70 hw)) Via.refl e1 (Fsc.ext O0) (g := (mkF m 7 #[.val (.ref sA)] [(.ref sA)])) rfl rfl (hb hby own_d10_7)
  refine own_st st2 ?_
  refine own_st (fun _ k => XS.goto X2.here hx rfl (pc0 := 10) (pc' := 14) rfl (hb hby own_d10_10) (by decide) (by decide) k) ?_
  exact own_retN X2 hx hret (by simp) hlk (hb hby own_d10_14) ⟨by first | rfl | (rw [hnc]), N0, e2⟩ (by decide) (by decide)
def own_l10_Q (Z : State) (sA : Addr) (cs : Int32) (h0 : Heap) (n0 : Nat) (v : Option Value) (h : Heap) (L : List Loc) : Prop := v = some (.int 1) ∧ Fr n0 L ∧ h = h0
set_option maxRecDepth 65536 in
set_option maxHeartbeats 40000000 in
theorem own_l10 (l : Launch) {Z : State} {a0 : Array Value} (hw : own_W Z a0) (ws : List Jvm.Cond) (sA : Addr) (cs : Int32) (h0 : Heap) (n0 : Nat) (Z0 : n0 ≤ h0.size) (zn : Z.heap.size ≤ n0) (OZ : Ext Z.heap h0) (Scs : Sta Z Z.heap "java/lang/String" "COMPACT_STRINGS" "Z" (.int cs)) (hcs : ¬ cs = 0) (Fsc : Fld Z h0 sA "java/lang/String" "coder" "B" (.int 0)) :
    MetFree l (⟨"java/lang/String", "isLatin1", "()Z"⟩ : MethodName) (head1 (Jvm.Cond.code (⟨"java/lang/String", "isLatin1", "()Z"⟩ : MethodName) jdk_42_method_154_code 1 (some .boolean) :: ws) ({ frames := 0, cells := 0, slots := 0, locals := 0 } : Room)) (fun a U => a = #[(.ref sA)] ∧ Z.Warmed39 U.vm ∧ U.heap = h0) (fun _ _ _ _ _ => True) (fun _ U o U' => ∃ v L, o = .returned v ∧ own_l10_Q Z sA cs h0 n0 v U'.heap L ∧ FrameEnd U o U' L ({ frames := 0, cells := 0, slots := 0, locals := 0 } : Room).cells ({ frames := 0, cells := 0, slots := 0, locals := 0 } : Room).slots) := by
  refine own_enter (C := ({ frames := 0, cells := 0, slots := 0, locals := 0 } : Room).cells) (S := ({ frames := 0, cells := 0, slots := 0, locals := 0 } : Room).slots) (plainFor_of_name own_pn2) ?_
  intro p e s m below meth c T0 X0 I e0
  obtain ⟨hx, hby, hml, hown, hnm, hret, hlk, hZ⟩ := I
  have N0 := Fr.nil n0
  have O0 := own_extr h0
  refine own_cast (own_ef34 m sA) ?_
  show own_Go _ _ _ _ T0 (mkF m 0 #[.val (.ref sA)] [])
  obtain ⟨T1, X1, e1, st1⟩ := getS2 X0 hx hZ hown (host := "") (Or.inl (own_w69 hw)) Via.refl e0 (Scs.ext (own_extt OZ O0)) (g := (mkF m 0 #[.val (.ref sA)] [])) rfl (hb hby own_d34_0)
  refine own_st st1 ?_
  refine own_st (fun _ k => XS.ifNo X1.here hx rfl (hb hby own_d34_3) rfl ((if0 _ _).trans (feq (hcs : ¬ (cs = (0 : Int32)))).1) k) ?_
  refine own_st (fun _ k => XS.aloadN X1.here hx rfl (hb hby own_d34_6) rfl rfl k) ?_
  obtain ⟨T2, X2, e2, st2⟩ := getF X1 hx hZ hown (host := "") (Or.inl (own_w70 hw)) Via.refl e1 (Fsc.ext O0) (g := (mkF m 7 #[.val (.ref sA)] [(.ref sA)])) rfl rfl (hb hby own_d34_7)
  refine own_st st2 ?_
  refine own_st (fun _ k => XS.ifNo X2.here hx rfl (hb hby own_d34_10) rfl ((if0 _ _).trans (teq (by decide : (0 : Int32) = (0 : Int32))).2) k) ?_
  refine own_st (fun _ k => XS.iconst X2.here hx rfl (hb hby own_d34_13) k) ?_
  refine own_st (fun _ k => XS.goto X2.here hx rfl (pc0 := 14) (pc' := 18) rfl (hb hby own_d34_14) (by decide) (by decide) k) ?_
  exact own_retN X2 hx hret (by simp) hlk (hb hby own_d34_18) ⟨rfl, N0, e2⟩ (by decide) (by decide)
def own_bl0_Q (Z : State) (bA : Addr) (cs : Int32) (h0 : Heap) (n0 : Nat) (v : Option Value) (h : Heap) (L : List Loc) : Prop := v = some (.int 1) ∧ Fr n0 L ∧ h = h0
set_option maxRecDepth 65536 in
set_option maxHeartbeats 40000000 in
theorem own_bl0 (l : Launch) {Z : State} {a0 : Array Value} (hw : own_W Z a0) (ws : List Jvm.Cond) (bA : Addr) (cs : Int32) (h0 : Heap) (n0 : Nat) (Z0 : n0 ≤ h0.size) (zn : Z.heap.size ≤ n0) (OZ : Ext Z.heap h0) (Scs : Sta Z Z.heap "java/lang/String" "COMPACT_STRINGS" "Z" (.int cs)) (hcs : ¬ cs = 0) (Fbc : Fld Z h0 bA "java/lang/AbstractStringBuilder" "coder" "B" (.int 0)) :
    MetFree l (⟨"java/lang/AbstractStringBuilder", "isLatin1", "()Z"⟩ : MethodName) (head1 (Jvm.Cond.code (⟨"java/lang/AbstractStringBuilder", "isLatin1", "()Z"⟩ : MethodName) jdk_68_method_68_code 1 (some .boolean) :: ws) ({ frames := 0, cells := 0, slots := 0, locals := 0 } : Room)) (fun a U => a = #[(.ref bA)] ∧ Z.Warmed39 U.vm ∧ U.heap = h0) (fun _ _ _ _ _ => True) (fun _ U o U' => ∃ v L, o = .returned v ∧ own_bl0_Q Z bA cs h0 n0 v U'.heap L ∧ FrameEnd U o U' L ({ frames := 0, cells := 0, slots := 0, locals := 0 } : Room).cells ({ frames := 0, cells := 0, slots := 0, locals := 0 } : Room).slots) := by
  refine own_enter (C := ({ frames := 0, cells := 0, slots := 0, locals := 0 } : Room).cells) (S := ({ frames := 0, cells := 0, slots := 0, locals := 0 } : Room).slots) (plainFor_of_name own_pn3) ?_
  intro p e s m below meth c T0 X0 I e0
  obtain ⟨hx, hby, hml, hown, hnm, hret, hlk, hZ⟩ := I
  have N0 := Fr.nil n0
  have O0 := own_extr h0
  refine own_cast (own_ef21 m bA) ?_
  show own_Go _ _ _ _ T0 (mkF m 0 #[.val (.ref bA)] [])
  obtain ⟨T1, X1, e1, st1⟩ := getS2 X0 hx hZ hown (host := "") (Or.inl (own_w42 hw)) Via.refl e0 (Scs.ext (own_extt OZ O0)) (g := (mkF m 0 #[.val (.ref bA)] [])) rfl (hb hby own_d21_0)
  refine own_st st1 ?_
  refine own_st (fun _ k => XS.ifNo X1.here hx rfl (hb hby own_d21_3) rfl ((if0 _ _).trans (feq (hcs : ¬ (cs = (0 : Int32)))).1) k) ?_
  refine own_st (fun _ k => XS.aloadN X1.here hx rfl (hb hby own_d21_6) rfl rfl k) ?_
  obtain ⟨T2, X2, e2, st2⟩ := getF X1 hx hZ hown (host := "") (Or.inl (own_w45 hw)) Via.refl e1 (Fbc.ext O0) (g := (mkF m 7 #[.val (.ref bA)] [(.ref bA)])) rfl rfl (hb hby own_d21_7)
  refine own_st st2 ?_
  refine own_st (fun _ k => XS.ifNo X2.here hx rfl (hb hby own_d21_10) rfl ((if0 _ _).trans (teq (by decide : (0 : Int32) = (0 : Int32))).2) k) ?_
  refine own_st (fun _ k => XS.iconst X2.here hx rfl (hb hby own_d21_13) k) ?_
  refine own_st (fun _ k => XS.goto X2.here hx rfl (pc0 := 14) (pc' := 18) rfl (hb hby own_d21_14) (by decide) (by decide) k) ?_
  exact own_retN X2 hx hret (by simp) hlk (hb hby own_d21_18) ⟨rfl, N0, e2⟩ (by decide) (by decide)
def own_l11_Q (Z : State) (sA : Addr) (cs : Int32) (h0 : Heap) (n0 : Nat) (v : Option Value) (h : Heap) (L : List Loc) : Prop := v = some (.int 0) ∧ Fr n0 L ∧ h = h0
set_option maxRecDepth 65536 in
set_option maxHeartbeats 40000000 in
theorem own_l11 (l : Launch) {Z : State} {a0 : Array Value} (hw : own_W Z a0) (ws : List Jvm.Cond) (sA : Addr) (cs : Int32) (h0 : Heap) (n0 : Nat) (Z0 : n0 ≤ h0.size) (zn : Z.heap.size ≤ n0) (OZ : Ext Z.heap h0) (Scs : Sta Z Z.heap "java/lang/String" "COMPACT_STRINGS" "Z" (.int cs)) (hcs : ¬ cs = 0) (Fsc : Fld Z h0 sA "java/lang/String" "coder" "B" (.int 1)) :
    MetFree l (⟨"java/lang/String", "isLatin1", "()Z"⟩ : MethodName) (head1 (Jvm.Cond.code (⟨"java/lang/String", "isLatin1", "()Z"⟩ : MethodName) jdk_42_method_154_code 1 (some .boolean) :: ws) ({ frames := 0, cells := 0, slots := 0, locals := 0 } : Room)) (fun a U => a = #[(.ref sA)] ∧ Z.Warmed39 U.vm ∧ U.heap = h0) (fun _ _ _ _ _ => True) (fun _ U o U' => ∃ v L, o = .returned v ∧ own_l11_Q Z sA cs h0 n0 v U'.heap L ∧ FrameEnd U o U' L ({ frames := 0, cells := 0, slots := 0, locals := 0 } : Room).cells ({ frames := 0, cells := 0, slots := 0, locals := 0 } : Room).slots) := by
  refine own_enter (C := ({ frames := 0, cells := 0, slots := 0, locals := 0 } : Room).cells) (S := ({ frames := 0, cells := 0, slots := 0, locals := 0 } : Room).slots) (plainFor_of_name own_pn2) ?_
  intro p e s m below meth c T0 X0 I e0
  obtain ⟨hx, hby, hml, hown, hnm, hret, hlk, hZ⟩ := I
  have N0 := Fr.nil n0
  have O0 := own_extr h0
  refine own_cast (own_ef34 m sA) ?_
  show own_Go _ _ _ _ T0 (mkF m 0 #[.val (.ref sA)] [])
  obtain ⟨T1, X1, e1, st1⟩ := getS2 X0 hx hZ hown (host := "") (Or.inl (own_w69 hw)) Via.refl e0 (Scs.ext (own_extt OZ O0)) (g := (mkF m 0 #[.val (.ref sA)] [])) rfl (hb hby own_d34_0)
  refine own_st st1 ?_
  refine own_st (fun _ k => XS.ifNo X1.here hx rfl (hb hby own_d34_3) rfl ((if0 _ _).trans (feq (hcs : ¬ (cs = (0 : Int32)))).1) k) ?_
  refine own_st (fun _ k => XS.aloadN X1.here hx rfl (hb hby own_d34_6) rfl rfl k) ?_
  obtain ⟨T2, X2, e2, st2⟩ := getF X1 hx hZ hown (host := "") (Or.inl (own_w70 hw)) Via.refl e1 (Fsc.ext O0) (g := (mkF m 7 #[.val (.ref sA)] [(.ref sA)])) rfl rfl (hb hby own_d34_7)
  refine own_st st2 ?_
  refine own_st (fun _ k => XS.ifYes X2.here hx rfl (pc0 := 10) (pc' := 17) rfl (hb hby own_d34_10) rfl ((if0 _ _).trans (feq (by decide : ¬ ((1 : Int32) = (0 : Int32)))).2) (by decide) (by decide) k) ?_
  refine own_st (fun _ k => XS.iconst X2.here hx rfl (hb hby own_d34_17) k) ?_
  exact own_retN X2 hx hret (by simp) hlk (hb hby own_d34_18) ⟨rfl, N0, e2⟩ (by decide) (by decide)
def own_bl1_Q (Z : State) (bA : Addr) (cs : Int32) (h0 : Heap) (n0 : Nat) (v : Option Value) (h : Heap) (L : List Loc) : Prop := v = some (.int 0) ∧ Fr n0 L ∧ h = h0
set_option maxRecDepth 65536 in
set_option maxHeartbeats 40000000 in
theorem own_bl1 (l : Launch) {Z : State} {a0 : Array Value} (hw : own_W Z a0) (ws : List Jvm.Cond) (bA : Addr) (cs : Int32) (h0 : Heap) (n0 : Nat) (Z0 : n0 ≤ h0.size) (zn : Z.heap.size ≤ n0) (OZ : Ext Z.heap h0) (Scs : Sta Z Z.heap "java/lang/String" "COMPACT_STRINGS" "Z" (.int cs)) (hcs : ¬ cs = 0) (Fbc : Fld Z h0 bA "java/lang/AbstractStringBuilder" "coder" "B" (.int 1)) :
    MetFree l (⟨"java/lang/AbstractStringBuilder", "isLatin1", "()Z"⟩ : MethodName) (head1 (Jvm.Cond.code (⟨"java/lang/AbstractStringBuilder", "isLatin1", "()Z"⟩ : MethodName) jdk_68_method_68_code 1 (some .boolean) :: ws) ({ frames := 0, cells := 0, slots := 0, locals := 0 } : Room)) (fun a U => a = #[(.ref bA)] ∧ Z.Warmed39 U.vm ∧ U.heap = h0) (fun _ _ _ _ _ => True) (fun _ U o U' => ∃ v L, o = .returned v ∧ own_bl1_Q Z bA cs h0 n0 v U'.heap L ∧ FrameEnd U o U' L ({ frames := 0, cells := 0, slots := 0, locals := 0 } : Room).cells ({ frames := 0, cells := 0, slots := 0, locals := 0 } : Room).slots) := by
  refine own_enter (C := ({ frames := 0, cells := 0, slots := 0, locals := 0 } : Room).cells) (S := ({ frames := 0, cells := 0, slots := 0, locals := 0 } : Room).slots) (plainFor_of_name own_pn3) ?_
  intro p e s m below meth c T0 X0 I e0
  obtain ⟨hx, hby, hml, hown, hnm, hret, hlk, hZ⟩ := I
  have N0 := Fr.nil n0
  have O0 := own_extr h0
  refine own_cast (own_ef21 m bA) ?_
  show own_Go _ _ _ _ T0 (mkF m 0 #[.val (.ref bA)] [])
  obtain ⟨T1, X1, e1, st1⟩ := getS2 X0 hx hZ hown (host := "") (Or.inl (own_w42 hw)) Via.refl e0 (Scs.ext (own_extt OZ O0)) (g := (mkF m 0 #[.val (.ref bA)] [])) rfl (hb hby own_d21_0)
  refine own_st st1 ?_
  refine own_st (fun _ k => XS.ifNo X1.here hx rfl (hb hby own_d21_3) rfl ((if0 _ _).trans (feq (hcs : ¬ (cs = (0 : Int32)))).1) k) ?_
  refine own_st (fun _ k => XS.aloadN X1.here hx rfl (hb hby own_d21_6) rfl rfl k) ?_
  obtain ⟨T2, X2, e2, st2⟩ := getF X1 hx hZ hown (host := "") (Or.inl (own_w45 hw)) Via.refl e1 (Fbc.ext O0) (g := (mkF m 7 #[.val (.ref bA)] [(.ref bA)])) rfl rfl (hb hby own_d21_7)
  refine own_st st2 ?_
  refine own_st (fun _ k => XS.ifYes X2.here hx rfl (pc0 := 10) (pc' := 17) rfl (hb hby own_d21_10) rfl ((if0 _ _).trans (feq (by decide : ¬ ((1 : Int32) = (0 : Int32)))).2) (by decide) (by decide) k) ?_
  refine own_st (fun _ k => XS.iconst X2.here hx rfl (hb hby own_d21_17) k) ?_
  exact own_retN X2 hx hret (by simp) hlk (hb hby own_d21_18) ⟨rfl, N0, e2⟩ (by decide) (by decide)
def own_ln_Q (Z : State) (sA sV : Addr) (sK : ClassId) (sU : List Value) (cs co sZ sl : Int32) (h0 : Heap) (n0 : Nat) (v : Option Value) (h : Heap) (L : List Loc) : Prop := v = some (.int sl) ∧ Fr n0 L ∧ h = h0
set_option maxRecDepth 65536 in
set_option maxHeartbeats 40000000 in
theorem own_ln (l : Launch) {Z : State} {a0 : Array Value} (hw : own_W Z a0) (ws : List Jvm.Cond) (sA sV : Addr) (sK : ClassId) (sU : List Value) (cs co sZ sl : Int32) (h0 : Heap) (n0 : Nat) (Z0 : n0 ≤ h0.size) (zn : Z.heap.size ≤ n0) (OZ : Ext Z.heap h0) (Scs : Sta Z Z.heap "java/lang/String" "COMPACT_STRINGS" "Z" (.int cs)) (hcs : ¬ cs = 0) (hnc : nar .byte co = co) (hln : (sZ >>> (co &&& 31)) = sl) (Es : Exa Z h0 sA "java/lang/String") (Fsv : Fld Z h0 sA "java/lang/String" "value" "[B" (.ref sV)) (Fsc : Fld Z h0 sA "java/lang/String" "coder" "B" (.int co)) (Vs : Arv Z h0 sV sK .byte sZ sU (.int 0)) :
    MetFree l (⟨"java/lang/String", "length", "()I"⟩ : MethodName) (head1 (Jvm.Cond.code (⟨"java/lang/String", "length", "()I"⟩ : MethodName) jdk_42_method_54_code 1 (some .int) :: ws) ({ frames := 1, cells := 0, slots := 0, locals := 13 } : Room)) (fun a U => a = #[(.ref sA)] ∧ Z.Warmed39 U.vm ∧ U.heap = h0) (fun _ _ _ _ _ => True) (fun _ U o U' => ∃ v L, o = .returned v ∧ own_ln_Q Z sA sV sK sU cs co sZ sl h0 n0 v U'.heap L ∧ FrameEnd U o U' L ({ frames := 1, cells := 0, slots := 0, locals := 13 } : Room).cells ({ frames := 1, cells := 0, slots := 0, locals := 13 } : Room).slots) := by
  refine own_enter (C := ({ frames := 1, cells := 0, slots := 0, locals := 13 } : Room).cells) (S := ({ frames := 1, cells := 0, slots := 0, locals := 13 } : Room).slots) (plainFor_of_name own_pn2) ?_
  intro p e s m below meth c T0 X0 I e0
  obtain ⟨hx, hby, hml, hown, hnm, hret, hlk, hZ⟩ := I
  have N0 := Fr.nil n0
  have O0 := own_extr h0
  refine own_cast (own_ef9 m sA) ?_
  show own_Go _ _ _ _ T0 (mkF m 0 #[.val (.ref sA)] [])
  refine own_st (fun _ k => XS.aloadN X0.here hx rfl (hb hby own_d9_0) rfl rfl k) ?_
  obtain ⟨T1, X1, e1, st1⟩ := getF X0 hx hZ hown (host := "") (Or.inl (own_w63 hw)) Via.refl e0 (Fsv.ext O0) (g := (mkF m 1 #[.val (.ref sA)] [(.ref sA)])) rfl rfl (hb hby own_d9_1)
  refine own_st st1 ?_
  refine own_st (own_len X1 hx hZ e1 (Vs.ext O0) (g := (mkF m 4 #[.val (.ref sA)] [(.ref sV)])) rfl rfl (hb hby own_d9_4)) ?_
  refine own_st (fun _ k => XS.aloadN X1.here hx rfl (hb hby own_d9_5) rfl rfl k) ?_
  obtain ⟨v2, T2, L2, hQ2, X2, st2⟩ := own_callV X1 hx hZ (y := (⟨"java/lang/String", "coder", "()B"⟩ : MethodName)) hown (own_w64 hw) (own_w65 hw) (own_w67 hw) (own_w66 hw) (own_w22 hw) (own_w68 hw) (by decide) (own_co l hw [] sA cs co h0 n0 (Nat.le_trans Z0 O0.1) zn (own_extt OZ O0) Scs hcs hnc (Fsc.ext O0)) e1 (Es.ext O0) (g := (mkF m 6 #[.val (.ref sA)] [(.ref sA), (.int sZ)])) rfl (by rw [hml]; rfl) (argsL := []) (rest := [(.int sZ)]) (lenOf own_pd1 rfl) rfl rfl (W := 1) (Nat.le_of_eq rfl) (hb hby own_d9_6) (by decide) (by decide) (by decide) (by decide)
  obtain ⟨rfl, N2, e2⟩ := hQ2
  have N2' := Fr.app N0 N2
  refine own_st st2 ?_
  refine own_st (fun _ k => XS.ishr X2.here hx rfl (hb hby own_d9_9) rfl k) ?_
  exact own_retI X2 hx hret hlk (hb hby own_d9_10) ⟨by rw [hln], N2', e2⟩ (by decide) (by decide)
def own_min_Q (Z : State) (x y : Int32) (h0 : Heap) (n0 : Nat) (v : Option Value) (h : Heap) (L : List Loc) : Prop := v = some (.int (if (y < x) then y else x)) ∧ Fr n0 L ∧ h = h0
set_option maxRecDepth 65536 in
set_option maxHeartbeats 40000000 in
theorem own_min (l : Launch) {Z : State} {a0 : Array Value} (hw : own_W Z a0) (ws : List Jvm.Cond) (x y : Int32) (h0 : Heap) (n0 : Nat) (Z0 : n0 ≤ h0.size)  :
    MetFree l (⟨"java/lang/Math", "min", "(II)I"⟩ : MethodName) (head1 (Jvm.Cond.code (⟨"java/lang/Math", "min", "(II)I"⟩ : MethodName) jdk_29_method_69_code 2 (some .int) :: ws) ({ frames := 0, cells := 0, slots := 0, locals := 0 } : Room)) (fun a U => a = #[(.int x), (.int y)] ∧ Z.Warmed39 U.vm ∧ U.heap = h0) (fun _ _ _ _ _ => True) (fun _ U o U' => ∃ v L, o = .returned v ∧ own_min_Q Z x y h0 n0 v U'.heap L ∧ FrameEnd U o U' L ({ frames := 0, cells := 0, slots := 0, locals := 0 } : Room).cells ({ frames := 0, cells := 0, slots := 0, locals := 0 } : Room).slots) := by
  refine own_enter (C := ({ frames := 0, cells := 0, slots := 0, locals := 0 } : Room).cells) (S := ({ frames := 0, cells := 0, slots := 0, locals := 0 } : Room).slots) (by decide +kernel) ?_
  intro p e s m below meth c T0 X0 I e0
  obtain ⟨hx, hby, hml, hown, hnm, hret, hlk, hZ⟩ := I
  have N0 := Fr.nil n0
  have O0 := own_extr h0
  refine own_cast (own_ef25 m x y) ?_
  show own_Go _ _ _ _ T0 (mkF m 0 #[.val (.int x), .val (.int y)] [])
  refine own_st (fun _ k => XS.iloadN X0.here hx rfl (hb hby own_d25_0) rfl k) ?_
  refine own_st (fun _ k => XS.iloadN X0.here hx rfl (hb hby own_d25_1) rfl k) ?_
  by_cases hm : y < x
  · refine own_st (fun _ k => XS.icmpYes X0.here hx rfl (pc0 := 2) (pc' := 9) rfl (hb hby own_d25_2) rfl (tlt (hm : y < x)).2.2.1 (by decide) (by decide) k) ?_
    refine own_st (fun _ k => XS.iloadN X0.here hx rfl (hb hby own_d25_9) rfl k) ?_
    exact own_retI X0 hx hret hlk (hb hby own_d25_10) ⟨by rw [if_pos hm], N0, e0⟩ (by decide) (by decide)
  · refine own_st (fun _ k => XS.icmpNo X0.here hx rfl (hb hby own_d25_2) rfl (flt (hm : ¬ (y < x))).2.2.1 k) ?_
    refine own_st (fun _ k => XS.iloadN X0.here hx rfl (hb hby own_d25_5) rfl k) ?_
    refine own_st (fun _ k => XS.goto X0.here hx rfl (pc0 := 6) (pc' := 10) rfl (hb hby own_d25_6) (by decide) (by decide) k) ?_
    exact own_retI X0 hx hret hlk (hb hby own_d25_10) ⟨by rw [if_neg hm], N0, e0⟩ (by decide) (by decide)
def own_ckl_Q (Z : State) (x y : Int32) (h0 : Heap) (n0 : Nat) (v : Option Value) (h : Heap) (L : List Loc) : Prop := v = none ∧ Fr n0 L ∧ h = h0
set_option maxRecDepth 65536 in
set_option maxHeartbeats 40000000 in
theorem own_ckl (l : Launch) {Z : State} {a0 : Array Value} (hw : own_W Z a0) (ws : List Jvm.Cond) (x y : Int32) (h0 : Heap) (n0 : Nat) (Z0 : n0 ≤ h0.size) (hle : ¬ y < x) :
    MetFree l (⟨"java/util/Arrays", "checkLength", "(II)V"⟩ : MethodName) (head1 (Jvm.Cond.code (⟨"java/util/Arrays", "checkLength", "(II)V"⟩ : MethodName) jdk_65_method_131_code 2 none :: ws) ({ frames := 0, cells := 0, slots := 0, locals := 0 } : Room)) (fun a U => a = #[(.int x), (.int y)] ∧ Z.Warmed39 U.vm ∧ U.heap = h0) (fun _ _ _ _ _ => True) (fun _ U o U' => ∃ v L, o = .returned v ∧ own_ckl_Q Z x y h0 n0 v U'.heap L ∧ FrameEnd U o U' L ({ frames := 0, cells := 0, slots := 0, locals := 0 } : Room).cells ({ frames := 0, cells := 0, slots := 0, locals := 0 } : Room).slots) := by
  refine own_enter (C := ({ frames := 0, cells := 0, slots := 0, locals := 0 } : Room).cells) (S := ({ frames := 0, cells := 0, slots := 0, locals := 0 } : Room).slots) (plainFor_of_name own_pn4) ?_
  intro p e s m below meth c T0 X0 I e0
  obtain ⟨hx, hby, hml, hown, hnm, hret, hlk, hZ⟩ := I
  have N0 := Fr.nil n0
  have O0 := own_extr h0
  refine own_cast (own_ef24 m x y) ?_
  show own_Go _ _ _ _ T0 (mkF m 0 #[.val (.int x), .val (.int y)] [])
  refine own_st (fun _ k => XS.iloadN X0.here hx rfl (hb hby own_d24_0) rfl k) ?_
  refine own_st (fun _ k => XS.iloadN X0.here hx rfl (hb hby own_d24_1) rfl k) ?_
  refine own_st (fun _ k => XS.icmpYes X0.here hx rfl (pc0 := 2) (pc' := 37) rfl (hb hby own_d24_2) rfl (flt (hle : ¬ (y < x))).2.1 (by decide) (by decide) k) ?_
  exact own_retV X0 hx hret hlk (hb hby own_d24_37) ⟨rfl, N0, e0⟩ (by decide) (by decide)
def own_pkn_Q (Z : State) (i z : Int32) (h0 : Heap) (n0 : Nat) (v : Option Value) (h : Heap) (L : List Loc) : Prop := v = some (.int i) ∧ Fr n0 L ∧ h = h0
set_option maxRecDepth 65536 in
set_option maxHeartbeats 40000000 in
theorem own_pkn (l : Launch) {Z : State} {a0 : Array Value} (hw : own_W Z a0) (ws : List Jvm.Cond) (i z : Int32) (h0 : Heap) (n0 : Nat) (Z0 : n0 ≤ h0.size) (hi0 : ¬ i < 0) (hi1 : i < z) :
    MetFree l (⟨"jdk/internal/util/Preconditions", "checkIndex", "(IILjava/util/function/BiFunction;)I"⟩ : MethodName) (head1 (Jvm.Cond.code (⟨"jdk/internal/util/Preconditions", "checkIndex", "(IILjava/util/function/BiFunction;)I"⟩ : MethodName) jdk_41_method_11_code 3 (some .int) :: ws) ({ frames := 0, cells := 0, slots := 0, locals := 0 } : Room)) (fun a U => a = #[(.int i), (.int z), .null] ∧ Z.Warmed39 U.vm ∧ U.heap = h0) (fun _ _ _ _ _ => True) (fun _ U o U' => ∃ v L, o = .returned v ∧ own_pkn_Q Z i z h0 n0 v U'.heap L ∧ FrameEnd U o U' L ({ frames := 0, cells := 0, slots := 0, locals := 0 } : Room).cells ({ frames := 0, cells := 0, slots := 0, locals := 0 } : Room).slots) := by
  refine own_enter (C := ({ frames := 0, cells := 0, slots := 0, locals := 0 } : Room).cells) (S := ({ frames := 0, cells := 0, slots := 0, locals := 0 } : Room).slots) (plainFor_of_name own_pn5) ?_
  intro p e s m below meth c T0 X0 I e0
  obtain ⟨hx, hby, hml, hown, hnm, hret, hlk, hZ⟩ := I
  have N0 := Fr.nil n0
  have O0 := own_extr h0
  refine own_cast (own_ef37n m i z) ?_
  show own_Go _ _ _ _ T0 (mkF m 0 #[.val (.int i), .val (.int z), .val .null] [])
  refine own_st (fun _ k => XS.iloadN X0.here hx rfl (hb hby own_d37_0) rfl k) ?_
  refine own_st (fun _ k => XS.ifNo X0.here hx rfl (hb hby own_d37_1) rfl ((if0 _ _).trans (flt (hi0 : ¬ (i < (0 : Int32)))).1) k) ?_
  refine own_st (fun _ k => XS.iloadN X0.here hx rfl (hb hby own_d37_4) rfl k) ?_
  refine own_st (fun _ k => XS.iloadN X0.here hx rfl (hb hby own_d37_5) rfl k) ?_
  refine own_st (fun _ k => XS.icmpYes X0.here hx rfl (pc0 := 6) (pc' := 16) rfl (hb hby own_d37_6) rfl (tlt (hi1 : i < z)).1 (by decide) (by decide) k) ?_
  refine own_st (fun _ k => XS.iloadN X0.here hx rfl (hb hby own_d37_16) rfl k) ?_
  exact own_retI X0 hx hret hlk (hb hby own_d37_17) ⟨rfl, N0, e0⟩ (by decide) (by decide)
def own_pfn_Q (Z : State) (i sz z : Int32) (h0 : Heap) (n0 : Nat) (v : Option Value) (h : Heap) (L : List Loc) : Prop := v = some (.int i) ∧ Fr n0 L ∧ h = h0
set_option maxRecDepth 65536 in
set_option maxHeartbeats 40000000 in
theorem own_pfn (l : Launch) {Z : State} {a0 : Array Value} (hw : own_W Z a0) (ws : List Jvm.Cond) (i sz z : Int32) (h0 : Heap) (n0 : Nat) (Z0 : n0 ≤ h0.size) (hq1 : ¬ ((z ||| i) ||| sz) < 0) (hq2 : ¬ (z - i) < sz) :
    MetFree l (⟨"jdk/internal/util/Preconditions", "checkFromIndexSize", "(IIILjava/util/function/BiFunction;)I"⟩ : MethodName) (head1 (Jvm.Cond.code (⟨"jdk/internal/util/Preconditions", "checkFromIndexSize", "(IIILjava/util/function/BiFunction;)I"⟩ : MethodName) jdk_41_method_13_code 4 (some .int) :: ws) ({ frames := 0, cells := 0, slots := 0, locals := 0 } : Room)) (fun a U => a = #[(.int i), (.int sz), (.int z), .null] ∧ Z.Warmed39 U.vm ∧ U.heap = h0) (fun _ _ _ _ _ => True) (fun _ U o U' => ∃ v L, o = .returned v ∧ own_pfn_Q Z i sz z h0 n0 v U'.heap L ∧ FrameEnd U o U' L ({ frames := 0, cells := 0, slots := 0, locals := 0 } : Room).cells ({ frames := 0, cells := 0, slots := 0, locals := 0 } : Room).slots) := by
  refine own_enter (C := ({ frames := 0, cells := 0, slots := 0, locals := 0 } : Room).cells) (S := ({ frames := 0, cells := 0, slots := 0, locals := 0 } : Room).slots) (plainFor_of_name own_pn5) ?_
  intro p e s m below meth c T0 X0 I e0
  obtain ⟨hx, hby, hml, hown, hnm, hret, hlk, hZ⟩ := I
  have N0 := Fr.nil n0
  have O0 := own_extr h0
  refine own_cast (own_ef52n m i sz z) ?_
  show own_Go _ _ _ _ T0 (mkF m 0 #[.val (.int i), .val (.int sz), .val (.int z), .val .null] [])
  refine own_st (fun _ k => XS.iloadN X0.here hx rfl (hb hby own_d52_0) rfl k) ?_
  refine own_st (fun _ k => XS.iloadN X0.here hx rfl (hb hby own_d52_1) rfl k) ?_
  refine own_st (fun _ k => XS.ior X0.here hx rfl (hb hby own_d52_2) rfl k) ?_
  refine own_st (fun _ k => XS.iloadN X0.here hx rfl (hb hby own_d52_3) rfl k) ?_
  refine own_st (fun _ k => XS.ior X0.here hx rfl (hb hby own_d52_4) rfl k) ?_
  refine own_st (fun _ k => XS.ifNo X0.here hx rfl (hb hby own_d52_5) rfl ((if0 _ _).trans (flt (hq1 : ¬ (((z ||| i) ||| sz) < (0 : Int32)))).1) k) ?_
  refine own_st (fun _ k => XS.iloadN X0.here hx rfl (hb hby own_d52_8) rfl k) ?_
  refine own_st (fun _ k => XS.iloadN X0.here hx rfl (hb hby own_d52_9) rfl k) ?_
  show own_Go _ _ _ _ T0 (mkF m 10 #[.val (.int i), .val (.int sz), .val (.int z), .val .null] [(.int z), (.int sz)])
  refine own_st (fun _ k => XS.iloadN X0.here hx rfl (hb hby own_d52_10) rfl k) ?_
  refine own_st (fun _ k => XS.isub X0.here hx rfl (hb hby own_d52_11) rfl k) ?_
  refine own_st (fun _ k => XS.icmpYes X0.here hx rfl (pc0 := 12) (pc' := 23) rfl (hb hby own_d52_12) rfl (flt (hq2 : ¬ ((z - i) < sz))).2.2.2 (by decide) (by decide) k) ?_
  refine own_st (fun _ k => XS.iloadN X0.here hx rfl (hb hby own_d52_23) rfl k) ?_
  exact own_retI X0 hx hret hlk (hb hby own_d52_24) ⟨rfl, N0, e0⟩ (by decide) (by decide)
def own_pkr_Q (Z : State) (i z : Int32) (fa : Addr) (h0 : Heap) (n0 : Nat) (v : Option Value) (h : Heap) (L : List Loc) : Prop := v = some (.int i) ∧ Fr n0 L ∧ h = h0
set_option maxRecDepth 65536 in
set_option maxHeartbeats 40000000 in
theorem own_pkr (l : Launch) {Z : State} {a0 : Array Value} (hw : own_W Z a0) (ws : List Jvm.Cond) (i z : Int32) (fa : Addr) (h0 : Heap) (n0 : Nat) (Z0 : n0 ≤ h0.size) (hi0 : ¬ i < 0) (hi1 : i < z) :
    MetFree l (⟨"jdk/internal/util/Preconditions", "checkIndex", "(IILjava/util/function/BiFunction;)I"⟩ : MethodName) (head1 (Jvm.Cond.code (⟨"jdk/internal/util/Preconditions", "checkIndex", "(IILjava/util/function/BiFunction;)I"⟩ : MethodName) jdk_41_method_11_code 3 (some .int) :: ws) ({ frames := 0, cells := 0, slots := 0, locals := 0 } : Room)) (fun a U => a = #[(.int i), (.int z), (.ref fa)] ∧ Z.Warmed39 U.vm ∧ U.heap = h0) (fun _ _ _ _ _ => True) (fun _ U o U' => ∃ v L, o = .returned v ∧ own_pkr_Q Z i z fa h0 n0 v U'.heap L ∧ FrameEnd U o U' L ({ frames := 0, cells := 0, slots := 0, locals := 0 } : Room).cells ({ frames := 0, cells := 0, slots := 0, locals := 0 } : Room).slots) := by
  refine own_enter (C := ({ frames := 0, cells := 0, slots := 0, locals := 0 } : Room).cells) (S := ({ frames := 0, cells := 0, slots := 0, locals := 0 } : Room).slots) (plainFor_of_name own_pn5) ?_
  intro p e s m below meth c T0 X0 I e0
  obtain ⟨hx, hby, hml, hown, hnm, hret, hlk, hZ⟩ := I
  have N0 := Fr.nil n0
  have O0 := own_extr h0
  refine own_cast (own_ef37 m i z fa) ?_
  show own_Go _ _ _ _ T0 (mkF m 0 #[.val (.int i), .val (.int z), .val (.ref fa)] [])
  refine own_st (fun _ k => XS.iloadN X0.here hx rfl (hb hby own_d37_0) rfl k) ?_
  refine own_st (fun _ k => XS.ifNo X0.here hx rfl (hb hby own_d37_1) rfl ((if0 _ _).trans (flt (hi0 : ¬ (i < (0 : Int32)))).1) k) ?_
  refine own_st (fun _ k => XS.iloadN X0.here hx rfl (hb hby own_d37_4) rfl k) ?_
  refine own_st (fun _ k => XS.iloadN X0.here hx rfl (hb hby own_d37_5) rfl k) ?_
  refine own_st (fun _ k => XS.icmpYes X0.here hx rfl (pc0 := 6) (pc' := 16) rfl (hb hby own_d37_6) rfl (tlt (hi1 : i < z)).1 (by decide) (by decide) k) ?_
  refine own_st (fun _ k => XS.iloadN X0.here hx rfl (hb hby own_d37_16) rfl k) ?_
  exact own_retI X0 hx hret hlk (hb hby own_d37_17) ⟨rfl, N0, e0⟩ (by decide) (by decide)
def own_pfr_Q (Z : State) (i sz z : Int32) (fa : Addr) (h0 : Heap) (n0 : Nat) (v : Option Value) (h : Heap) (L : List Loc) : Prop := v = some (.int i) ∧ Fr n0 L ∧ h = h0
set_option maxRecDepth 65536 in
set_option maxHeartbeats 40000000 in
theorem own_pfr (l : Launch) {Z : State} {a0 : Array Value} (hw : own_W Z a0) (ws : List Jvm.Cond) (i sz z : Int32) (fa : Addr) (h0 : Heap) (n0 : Nat) (Z0 : n0 ≤ h0.size) (hq1 : ¬ ((z ||| i) ||| sz) < 0) (hq2 : ¬ (z - i) < sz) :
    MetFree l (⟨"jdk/internal/util/Preconditions", "checkFromIndexSize", "(IIILjava/util/function/BiFunction;)I"⟩ : MethodName) (head1 (Jvm.Cond.code (⟨"jdk/internal/util/Preconditions", "checkFromIndexSize", "(IIILjava/util/function/BiFunction;)I"⟩ : MethodName) jdk_41_method_13_code 4 (some .int) :: ws) ({ frames := 0, cells := 0, slots := 0, locals := 0 } : Room)) (fun a U => a = #[(.int i), (.int sz), (.int z), (.ref fa)] ∧ Z.Warmed39 U.vm ∧ U.heap = h0) (fun _ _ _ _ _ => True) (fun _ U o U' => ∃ v L, o = .returned v ∧ own_pfr_Q Z i sz z fa h0 n0 v U'.heap L ∧ FrameEnd U o U' L ({ frames := 0, cells := 0, slots := 0, locals := 0 } : Room).cells ({ frames := 0, cells := 0, slots := 0, locals := 0 } : Room).slots) := by
  refine own_enter (C := ({ frames := 0, cells := 0, slots := 0, locals := 0 } : Room).cells) (S := ({ frames := 0, cells := 0, slots := 0, locals := 0 } : Room).slots) (plainFor_of_name own_pn5) ?_
  intro p e s m below meth c T0 X0 I e0
  obtain ⟨hx, hby, hml, hown, hnm, hret, hlk, hZ⟩ := I
  have N0 := Fr.nil n0
  have O0 := own_extr h0
  refine own_cast (own_ef52 m i sz z fa) ?_
  show own_Go _ _ _ _ T0 (mkF m 0 #[.val (.int i), .val (.int sz), .val (.int z), .val (.ref fa)] [])
  refine own_st (fun _ k => XS.iloadN X0.here hx rfl (hb hby own_d52_0) rfl k) ?_
  refine own_st (fun _ k => XS.iloadN X0.here hx rfl (hb hby own_d52_1) rfl k) ?_
  refine own_st (fun _ k => XS.ior X0.here hx rfl (hb hby own_d52_2) rfl k) ?_
  refine own_st (fun _ k => XS.iloadN X0.here hx rfl (hb hby own_d52_3) rfl k) ?_
  refine own_st (fun _ k => XS.ior X0.here hx rfl (hb hby own_d52_4) rfl k) ?_
  refine own_st (fun _ k => XS.ifNo X0.here hx rfl (hb hby own_d52_5) rfl ((if0 _ _).trans (flt (hq1 : ¬ (((z ||| i) ||| sz) < (0 : Int32)))).1) k) ?_
  refine own_st (fun _ k => XS.iloadN X0.here hx rfl (hb hby own_d52_8) rfl k) ?_
  refine own_st (fun _ k => XS.iloadN X0.here hx rfl (hb hby own_d52_9) rfl k) ?_
  show own_Go _ _ _ _ T0 (mkF m 10 #[.val (.int i), .val (.int sz), .val (.int z), .val (.ref fa)] [(.int z), (.int sz)])
  refine own_st (fun _ k => XS.iloadN X0.here hx rfl (hb hby own_d52_10) rfl k) ?_
  refine own_st (fun _ k => XS.isub X0.here hx rfl (hb hby own_d52_11) rfl k) ?_
  refine own_st (fun _ k => XS.icmpYes X0.here hx rfl (pc0 := 12) (pc' := 23) rfl (hb hby own_d52_12) rfl (flt (hq2 : ¬ ((z - i) < sz))).2.2.2 (by decide) (by decide) k) ?_
  refine own_st (fun _ k => XS.iloadN X0.here hx rfl (hb hby own_d52_23) rfl k) ?_
  exact own_retI X0 hx hret hlk (hb hby own_d52_24) ⟨rfl, N0, e0⟩ (by decide) (by decide)
def own_sk_Q (Z : State) (i z : Int32) (fm : Value) (h0 : Heap) (n0 : Nat) (v : Option Value) (h : Heap) (L : List Loc) : Prop := v = none ∧ Fr n0 L ∧ h = h0
set_option maxRecDepth 65536 in
set_option maxHeartbeats 40000000 in
theorem own_sk (l : Launch) {Z : State} {a0 : Array Value} (hw : own_W Z a0) (ws : List Jvm.Cond) (i z : Int32) (fm : Value) (h0 : Heap) (n0 : Nat) (Z0 : n0 ≤ h0.size) (zn : Z.heap.size ≤ n0) (OZ : Ext Z.heap h0) (Sfm : Sta Z Z.heap "jdk/internal/util/Preconditions" "SIOOBE_FORMATTER" "Ljava/util/function/BiFunction;" fm) (hfm : fm.isRef = true) (hi0 : ¬ i < 0) (hi1 : i < z) :
    MetFree l (⟨"java/lang/String", "checkIndex", "(II)V"⟩ : MethodName) (head1 (Jvm.Cond.code (⟨"java/lang/String", "checkIndex", "(II)V"⟩ : MethodName) jdk_42_method_155_code 2 none :: ws) ({ frames := 1, cells := 0, slots := 0, locals := 14 } : Room)) (fun a U => a = #[(.int i), (.int z)] ∧ Z.Warmed39 U.vm ∧ U.heap = h0) (fun _ _ _ _ _ => True) (fun _ U o U' => ∃ v L, o = .returned v ∧ own_sk_Q Z i z fm h0 n0 v U'.heap L ∧ FrameEnd U o U' L ({ frames := 1, cells := 0, slots := 0, locals := 14 } : Room).cells ({ frames := 1, cells := 0, slots := 0, locals := 14 } : Room).slots) := by
  refine own_enter (C := ({ frames := 1, cells := 0, slots := 0, locals := 14 } : Room).cells) (S := ({ frames := 1, cells := 0, slots := 0, locals := 14 } : Room).slots) (plainFor_of_name own_pn2) ?_
  intro p e s m below meth c T0 X0 I e0
  obtain ⟨hx, hby, hml, hown, hnm, hret, hlk, hZ⟩ := I
  have N0 := Fr.nil n0
  have O0 := own_extr h0
  refine own_cast (own_ef36 m i z) ?_
  show own_Go _ _ _ _ T0 (mkF m 0 #[.val (.int i), .val (.int z)] [])
  rcases ref_cases hfm with rfl | ⟨fa, rfl⟩
  · show own_Go _ _ _ _ T0 (mkF m 0 #[.val (.int i), .val (.int z)] [])
    refine own_st (fun _ k => XS.iloadN X0.here hx rfl (hb hby own_d36_0) rfl k) ?_
    refine own_st (fun _ k => XS.iloadN X0.here hx rfl (hb hby own_d36_1) rfl k) ?_
    obtain ⟨T1, X1, e1, st1⟩ := getS2 X0 hx hZ hown (host := "") (Or.inl (own_w192 hw)) Via.refl e0 (Sfm.ext (own_extt OZ O0)) (g := (mkF m 2 #[.val (.int i), .val (.int z)] [(.int z), (.int i)])) rfl (hb hby own_d36_2)
    refine own_st st1 ?_
    obtain ⟨v2, T2, L2, hQ2, X2, st2⟩ := own_callS X1 hx hZ (y := (⟨"jdk/internal/util/Preconditions", "checkIndex", "(IILjava/util/function/BiFunction;)I"⟩ : MethodName)) hown (own_w194 hw) (own_w195 hw) (own_w193 hw) (own_w196 hw) (by decide) (own_pkn l hw [] i z  h0 n0 (Nat.le_trans Z0 O0.1) hi0 hi1) e1 (g := (mkF m 5 #[.val (.int i), .val (.int z)] [.null, (.int z), (.int i)])) rfl (by rw [hml]; rfl) (argsL := [(.int i), (.int z), .null]) (rest := []) (lenOf own_pd2 rfl) rfl rfl (W := 0) (Nat.le_of_eq rfl) (hb hby own_d36_5) (by decide) (by decide) (by decide) (by decide)
    obtain ⟨rfl, N2, e2⟩ := hQ2
    have N2' := Fr.app N0 N2
    refine own_st st2 ?_
    refine own_st (fun _ k => XS.pop X2.here hx rfl (hb hby own_d36_8) rfl rfl k) ?_
    exact own_retV X2 hx hret hlk (hb hby own_d36_9) ⟨rfl, N2', e2⟩ (by decide) (by decide)
  · show own_Go _ _ _ _ T0 (mkF m 0 #[.val (.int i), .val (.int z)] [])
    refine own_st (fun _ k => XS.iloadN X0.here hx rfl (hb hby own_d36_0) rfl k) ?_
    refine own_st (fun _ k => XS.iloadN X0.here hx rfl (hb hby own_d36_1) rfl k) ?_
    obtain ⟨T3, X3, e3, st3⟩ := getS2 X0 hx hZ hown (host := "") (Or.inl (own_w192 hw)) Via.refl e0 (Sfm.ext (own_extt OZ O0)) (g := (mkF m 2 #[.val (.int i), .val (.int z)] [(.int z), (.int i)])) rfl (hb hby own_d36_2)
    refine own_st st3 ?_
    obtain ⟨v4, T4, L4, hQ4, X4, st4⟩ := own_callS X3 hx hZ (y := (⟨"jdk/internal/util/Preconditions", "checkIndex", "(IILjava/util/function/BiFunction;)I"⟩ : MethodName)) hown (own_w194 hw) (own_w195 hw) (own_w193 hw) (own_w196 hw) (by decide) (own_pkr l hw [] i z fa h0 n0 (Nat.le_trans Z0 O0.1) hi0 hi1) e3 (g := (mkF m 5 #[.val (.int i), .val (.int z)] [(.ref fa), (.int z), (.int i)])) rfl (by rw [hml]; rfl) (argsL := [(.int i), (.int z), (.ref fa)]) (rest := []) (lenOf own_pd2 rfl) rfl rfl (W := 0) (Nat.le_of_eq rfl) (hb hby own_d36_5) (by decide) (by decide) (by decide) (by decide)
    obtain ⟨rfl, N4, e4⟩ := hQ4
    have N4' := Fr.app N0 N4
    refine own_st st4 ?_
    refine own_st (fun _ k => XS.pop X4.here hx rfl (hb hby own_d36_8) rfl rfl k) ?_
    exact own_retV X4 hx hret hlk (hb hby own_d36_9) ⟨rfl, N4', e4⟩ (by decide) (by decide)
def own_sb_Q (Z : State) (i sz z : Int32) (fm : Value) (h0 : Heap) (n0 : Nat) (v : Option Value) (h : Heap) (L : List Loc) : Prop := v = some (.int i) ∧ Fr n0 L ∧ h = h0
set_option maxRecDepth 65536 in
set_option maxHeartbeats 40000000 in
theorem own_sb (l : Launch) {Z : State} {a0 : Array Value} (hw : own_W Z a0) (ws : List Jvm.Cond) (i sz z : Int32) (fm : Value) (h0 : Heap) (n0 : Nat) (Z0 : n0 ≤ h0.size) (zn : Z.heap.size ≤ n0) (OZ : Ext Z.heap h0) (Sfm : Sta Z Z.heap "jdk/internal/util/Preconditions" "SIOOBE_FORMATTER" "Ljava/util/function/BiFunction;" fm) (hfm : fm.isRef = true) (hq1 : ¬ ((z ||| i) ||| sz) < 0) (hq2 : ¬ (z - i) < sz) :
    MetFree l (⟨"java/lang/String", "checkBoundsOffCount", "(III)I"⟩ : MethodName) (head1 (Jvm.Cond.code (⟨"java/lang/String", "checkBoundsOffCount", "(III)I"⟩ : MethodName) jdk_42_method_157_code 3 (some .int) :: ws) ({ frames := 1, cells := 0, slots := 0, locals := 15 } : Room)) (fun a U => a = #[(.int i), (.int sz), (.int z)] ∧ Z.Warmed39 U.vm ∧ U.heap = h0) (fun _ _ _ _ _ => True) (fun _ U o U' => ∃ v L, o = .returned v ∧ own_sb_Q Z i sz z fm h0 n0 v U'.heap L ∧ FrameEnd U o U' L ({ frames := 1, cells := 0, slots := 0, locals := 15 } : Room).cells ({ frames := 1, cells := 0, slots := 0, locals := 15 } : Room).slots) := by
  refine own_enter (C := ({ frames := 1, cells := 0, slots := 0, locals := 15 } : Room).cells) (S := ({ frames := 1, cells := 0, slots := 0, locals := 15 } : Room).slots) (plainFor_of_name own_pn2) ?_
  intro p e s m below meth c T0 X0 I e0
  obtain ⟨hx, hby, hml, hown, hnm, hret, hlk, hZ⟩ := I
  have N0 := Fr.nil n0
  have O0 := own_extr h0
  refine own_cast (own_ef51 m i sz z) ?_
  show own_Go _ _ _ _ T0 (mkF m 0 #[.val (.int i), .val (.int sz), .val (.int z)] [])
  rcases ref_cases hfm with rfl | ⟨fa, rfl⟩
  · show own_Go _ _ _ _ T0 (mkF m 0 #[.val (.int i), .val (.int sz), .val (.int z)] [])
    refine own_st (fun _ k => XS.iloadN X0.here hx rfl (hb hby own_d51_0) rfl k) ?_
    refine own_st (fun _ k => XS.iloadN X0.here hx rfl (hb hby own_d51_1) rfl k) ?_
    refine own_st (fun _ k => XS.iloadN X0.here hx rfl (hb hby own_d51_2) rfl k) ?_
    obtain ⟨T1, X1, e1, st1⟩ := getS2 X0 hx hZ hown (host := "") (Or.inl (own_w192 hw)) Via.refl e0 (Sfm.ext (own_extt OZ O0)) (g := (mkF m 3 #[.val (.int i), .val (.int sz), .val (.int z)] [(.int z), (.int sz), (.int i)])) rfl (hb hby own_d51_3)
    refine own_st st1 ?_
    obtain ⟨v2, T2, L2, hQ2, X2, st2⟩ := own_callS X1 hx hZ (y := (⟨"jdk/internal/util/Preconditions", "checkFromIndexSize", "(IIILjava/util/function/BiFunction;)I"⟩ : MethodName)) hown (own_w255 hw) (own_w256 hw) (own_w193 hw) (own_w257 hw) (by decide) (own_pfn l hw [] i sz z  h0 n0 (Nat.le_trans Z0 O0.1) hq1 hq2) e1 (g := (mkF m 6 #[.val (.int i), .val (.int sz), .val (.int z)] [.null, (.int z), (.int sz), (.int i)])) rfl (by rw [hml]; rfl) (argsL := [(.int i), (.int sz), (.int z), .null]) (rest := []) (lenOf own_pd3 rfl) rfl rfl (W := 0) (Nat.le_of_eq rfl) (hb hby own_d51_6) (by decide) (by decide) (by decide) (by decide)
    obtain ⟨rfl, N2, e2⟩ := hQ2
    have N2' := Fr.app N0 N2
    refine own_st st2 ?_
    exact own_retI X2 hx hret hlk (hb hby own_d51_9) ⟨rfl, N2', e2⟩ (by decide) (by decide)
  · show own_Go _ _ _ _ T0 (mkF m 0 #[.val (.int i), .val (.int sz), .val (.int z)] [])
    refine own_st (fun _ k => XS.iloadN X0.here hx rfl (hb hby own_d51_0) rfl k) ?_
    refine own_st (fun _ k => XS.iloadN X0.here hx rfl (hb hby own_d51_1) rfl k) ?_
    refine own_st (fun _ k => XS.iloadN X0.here hx rfl (hb hby own_d51_2) rfl k) ?_
    obtain ⟨T3, X3, e3, st3⟩ := getS2 X0 hx hZ hown (host := "") (Or.inl (own_w192 hw)) Via.refl e0 (Sfm.ext (own_extt OZ O0)) (g := (mkF m 3 #[.val (.int i), .val (.int sz), .val (.int z)] [(.int z), (.int sz), (.int i)])) rfl (hb hby own_d51_3)
    refine own_st st3 ?_
    obtain ⟨v4, T4, L4, hQ4, X4, st4⟩ := own_callS X3 hx hZ (y := (⟨"jdk/internal/util/Preconditions", "checkFromIndexSize", "(IIILjava/util/function/BiFunction;)I"⟩ : MethodName)) hown (own_w255 hw) (own_w256 hw) (own_w193 hw) (own_w257 hw) (by decide) (own_pfr l hw [] i sz z fa h0 n0 (Nat.le_trans Z0 O0.1) hq1 hq2) e3 (g := (mkF m 6 #[.val (.int i), .val (.int sz), .val (.int z)] [(.ref fa), (.int z), (.int sz), (.int i)])) rfl (by rw [hml]; rfl) (argsL := [(.int i), (.int sz), (.int z), (.ref fa)]) (rest := []) (lenOf own_pd3 rfl) rfl rfl (W := 0) (Nat.le_of_eq rfl) (hb hby own_d51_6) (by decide) (by decide) (by decide) (by decide)
    obtain ⟨rfl, N4, e4⟩ := hQ4
    have N4' := Fr.app N0 N4
    refine own_st st4 ?_
    exact own_retI X4 hx hret hlk (hb hby own_d51_9) ⟨rfl, N4', e4⟩ (by decide) (by decide)
def own_ul_Q (Z : State) (a1 : Addr) (k1 : ClassId) (us : List Value) (z : Int32) (h0 : Heap) (n0 : Nat) (v : Option Value) (h : Heap) (L : List Loc) : Prop := v = some (.int (z >>> ((1 : Int32) &&& 31))) ∧ Fr n0 L ∧ h = h0
set_option maxRecDepth 65536 in
set_option maxHeartbeats 40000000 in
theorem own_ul (l : Launch) {Z : State} {a0 : Array Value} (hw : own_W Z a0) (ws : List Jvm.Cond) (a1 : Addr) (k1 : ClassId) (us : List Value) (z : Int32) (h0 : Heap) (n0 : Nat) (Z0 : n0 ≤ h0.size) (Va : Arv Z h0 a1 k1 .byte z us (.int 0)) :
    MetFree l (⟨"java/lang/StringUTF16", "length", "([B)I"⟩ : MethodName) (head1 (Jvm.Cond.code (⟨"java/lang/StringUTF16", "length", "([B)I"⟩ : MethodName) jdk_52_method_6_code 1 (some .int) :: ws) ({ frames := 0, cells := 0, slots := 0, locals := 0 } : Room)) (fun a U => a = #[(.ref a1)] ∧ Z.Warmed39 U.vm ∧ U.heap = h0) (fun _ _ _ _ _ => True) (fun _ U o U' => ∃ v L, o = .returned v ∧ own_ul_Q Z a1 k1 us z h0 n0 v U'.heap L ∧ FrameEnd U o U' L ({ frames := 0, cells := 0, slots := 0, locals := 0 } : Room).cells ({ frames := 0, cells := 0, slots := 0, locals := 0 } : Room).slots) := by
  refine own_enter (C := ({ frames := 0, cells := 0, slots := 0, locals := 0 } : Room).cells) (S := ({ frames := 0, cells := 0, slots := 0, locals := 0 } : Room).slots) (plainFor_of_name own_pn6) ?_
  intro p e s m below meth c T0 X0 I e0
  obtain ⟨hx, hby, hml, hown, hnm, hret, hlk, hZ⟩ := I
  have N0 := Fr.nil n0
  have O0 := own_extr h0
  refine own_cast (own_ef50 m a1) ?_
  show own_Go _ _ _ _ T0 (mkF m 0 #[.val (.ref a1)] [])
  refine own_st (fun _ k => XS.aloadN X0.here hx rfl (hb hby own_d50_0) rfl rfl k) ?_
  refine own_st (own_len X0 hx hZ e0 (Va.ext O0) (g := (mkF m 1 #[.val (.ref a1)] [(.ref a1)])) rfl rfl (hb hby own_d50_1)) ?_
  refine own_st (fun _ k => XS.iconst X0.here hx rfl (hb hby own_d50_2) k) ?_
  refine own_st (fun _ k => XS.ishr X0.here hx rfl (hb hby own_d50_3) rfl k) ?_
  exact own_retI X0 hx hret hlk (hb hby own_d50_4) ⟨rfl, N0, e0⟩ (by decide) (by decide)
def own_uk_Q (Z : State) (a1 : Addr) (k1 : ClassId) (us : List Value) (i z : Int32) (fm : Value) (h0 : Heap) (n0 : Nat) (v : Option Value) (h : Heap) (L : List Loc) : Prop := v = none ∧ Fr n0 L ∧ h = h0
set_option maxRecDepth 65536 in
set_option maxHeartbeats 40000000 in
theorem own_uk (l : Launch) {Z : State} {a0 : Array Value} (hw : own_W Z a0) (ws : List Jvm.Cond) (a1 : Addr) (k1 : ClassId) (us : List Value) (i z : Int32) (fm : Value) (h0 : Heap) (n0 : Nat) (Z0 : n0 ≤ h0.size) (zn : Z.heap.size ≤ n0) (OZ : Ext Z.heap h0) (Sfm : Sta Z Z.heap "jdk/internal/util/Preconditions" "SIOOBE_FORMATTER" "Ljava/util/function/BiFunction;" fm) (hfm : fm.isRef = true) (hi0 : ¬ i < 0) (hi1 : i < (z >>> ((1 : Int32) &&& 31))) (Va : Arv Z h0 a1 k1 .byte z us (.int 0)) :
    MetFree l (⟨"java/lang/StringUTF16", "checkIndex", "(I[B)V"⟩ : MethodName) (head1 (Jvm.Cond.code (⟨"java/lang/StringUTF16", "checkIndex", "(I[B)V"⟩ : MethodName) jdk_52_method_91_code 2 none :: ws) ({ frames := 2, cells := 0, slots := 0, locals := 27 } : Room)) (fun a U => a = #[(.int i), (.ref a1)] ∧ Z.Warmed39 U.vm ∧ U.heap = h0) (fun _ _ _ _ _ => True) (fun _ U o U' => ∃ v L, o = .returned v ∧ own_uk_Q Z a1 k1 us i z fm h0 n0 v U'.heap L ∧ FrameEnd U o U' L ({ frames := 2, cells := 0, slots := 0, locals := 27 } : Room).cells ({ frames := 2, cells := 0, slots := 0, locals := 27 } : Room).slots) := by
  refine own_enter (C := ({ frames := 2, cells := 0, slots := 0, locals := 27 } : Room).cells) (S := ({ frames := 2, cells := 0, slots := 0, locals := 27 } : Room).slots) (plainFor_of_name own_pn6) ?_
  intro p e s m below meth c T0 X0 I e0
  obtain ⟨hx, hby, hml, hown, hnm, hret, hlk, hZ⟩ := I
  have N0 := Fr.nil n0
  have O0 := own_extr h0
  refine own_cast (own_ef54 m i a1) ?_
  show own_Go _ _ _ _ T0 (mkF m 0 #[.val (.int i), .val (.ref a1)] [])
  refine own_st (fun _ k => XS.iloadN X0.here hx rfl (hb hby own_d54_0) rfl k) ?_
  refine own_st (fun _ k => XS.aloadN X0.here hx rfl (hb hby own_d54_1) rfl rfl k) ?_
  obtain ⟨v1, T1, L1, hQ1, X1, st1⟩ := own_callS X0 hx hZ (y := (⟨"java/lang/StringUTF16", "length", "([B)I"⟩ : MethodName)) hown (own_w249 hw) (own_w250 hw) (own_w211 hw) (own_w251 hw) (by decide) (own_ul l hw [] a1 k1 us z h0 n0 (Nat.le_trans Z0 O0.1) (Va.ext O0)) e0 (g := (mkF m 2 #[.val (.int i), .val (.ref a1)] [(.ref a1), (.int i)])) rfl (by rw [hml]; rfl) (argsL := [(.ref a1)]) (rest := [(.int i)]) (lenOf own_pd4 rfl) rfl rfl (W := 1) (Nat.le_of_eq rfl) (hb hby own_d54_2) (by decide) (by decide) (by decide) (by decide)
  obtain ⟨rfl, N1, e1⟩ := hQ1
  have N1' := Fr.app N0 N1
  refine own_st st1 ?_
  obtain ⟨v2, T2, L2, hQ2, X2, st2⟩ := own_callS X1 hx hZ (y := (⟨"java/lang/String", "checkIndex", "(II)V"⟩ : MethodName)) hown (own_w268 hw) (own_w190 hw) (own_w22 hw) (own_w191 hw) (by decide) (own_sk l hw [] i (z >>> ((1 : Int32) &&& 31)) fm h0 n0 (Nat.le_trans Z0 O0.1) zn (own_extt OZ O0) Sfm hfm hi0 hi1) e1 (g := (mkF m 5 #[.val (.int i), .val (.ref a1)] [(.int (z >>> ((1 : Int32) &&& 31))), (.int i)])) rfl (by rw [hml]; rfl) (argsL := [(.int i), (.int (z >>> ((1 : Int32) &&& 31)))]) (rest := []) (lenOf own_pd5 rfl) rfl rfl (W := 0) (Nat.le_of_eq rfl) (hb hby own_d54_5) (by decide) (by decide) (by decide) (by decide)
  obtain ⟨rfl, N2, e2⟩ := hQ2
  have N2' := Fr.app N1' N2
  refine own_st st2 ?_
  exact own_retV X2 hx hret hlk (hb hby own_d54_8) ⟨rfl, N2', e2⟩ (by decide) (by decide)
def own_ub_Q (Z : State) (a1 : Addr) (k1 : ClassId) (us : List Value) (i sz z : Int32) (fm : Value) (h0 : Heap) (n0 : Nat) (v : Option Value) (h : Heap) (L : List Loc) : Prop := v = none ∧ Fr n0 L ∧ h = h0
set_option maxRecDepth 65536 in
set_option maxHeartbeats 40000000 in
theorem own_ub (l : Launch) {Z : State} {a0 : Array Value} (hw : own_W Z a0) (ws : List Jvm.Cond) (a1 : Addr) (k1 : ClassId) (us : List Value) (i sz z : Int32) (fm : Value) (h0 : Heap) (n0 : Nat) (Z0 : n0 ≤ h0.size) (zn : Z.heap.size ≤ n0) (OZ : Ext Z.heap h0) (Sfm : Sta Z Z.heap "jdk/internal/util/Preconditions" "SIOOBE_FORMATTER" "Ljava/util/function/BiFunction;" fm) (hfm : fm.isRef = true) (hq1 : ¬ (((z >>> ((1 : Int32) &&& 31)) ||| i) ||| sz) < 0) (hq2 : ¬ ((z >>> ((1 : Int32) &&& 31)) - i) < sz) (Va : Arv Z h0 a1 k1 .byte z us (.int 0)) :
    MetFree l (⟨"java/lang/StringUTF16", "checkBoundsOffCount", "(II[B)V"⟩ : MethodName) (head1 (Jvm.Cond.code (⟨"java/lang/StringUTF16", "checkBoundsOffCount", "(II[B)V"⟩ : MethodName) jdk_52_method_94_code 3 none :: ws) ({ frames := 2, cells := 0, slots := 0, locals := 29 } : Room)) (fun a U => a = #[(.int i), (.int sz), (.ref a1)] ∧ Z.Warmed39 U.vm ∧ U.heap = h0) (fun _ _ _ _ _ => True) (fun _ U o U' => ∃ v L, o = .returned v ∧ own_ub_Q Z a1 k1 us i sz z fm h0 n0 v U'.heap L ∧ FrameEnd U o U' L ({ frames := 2, cells := 0, slots := 0, locals := 29 } : Room).cells ({ frames := 2, cells := 0, slots := 0, locals := 29 } : Room).slots) := by
  refine own_enter (C := ({ frames := 2, cells := 0, slots := 0, locals := 29 } : Room).cells) (S := ({ frames := 2, cells := 0, slots := 0, locals := 29 } : Room).slots) (plainFor_of_name own_pn6) ?_
  intro p e s m below meth c T0 X0 I e0
  obtain ⟨hx, hby, hml, hown, hnm, hret, hlk, hZ⟩ := I
  have N0 := Fr.nil n0
  have O0 := own_extr h0
  refine own_cast (own_ef49 m i sz a1) ?_
  show own_Go _ _ _ _ T0 (mkF m 0 #[.val (.int i), .val (.int sz), .val (.ref a1)] [])
  refine own_st (fun _ k => XS.iloadN X0.here hx rfl (hb hby own_d49_0) rfl k) ?_
  refine own_st (fun _ k => XS.iloadN X0.here hx rfl (hb hby own_d49_1) rfl k) ?_
  refine own_st (fun _ k => XS.aloadN X0.here hx rfl (hb hby own_d49_2) rfl rfl k) ?_
  obtain ⟨v1, T1, L1, hQ1, X1, st1⟩ := own_callS X0 hx hZ (y := (⟨"java/lang/StringUTF16", "length", "([B)I"⟩ : MethodName)) hown (own_w249 hw) (own_w250 hw) (own_w211 hw) (own_w251 hw) (by decide) (own_ul l hw [] a1 k1 us z h0 n0 (Nat.le_trans Z0 O0.1) (Va.ext O0)) e0 (g := (mkF m 3 #[.val (.int i), .val (.int sz), .val (.ref a1)] [(.ref a1), (.int sz), (.int i)])) rfl (by rw [hml]; rfl) (argsL := [(.ref a1)]) (rest := [(.int sz), (.int i)]) (lenOf own_pd4 rfl) rfl rfl (W := 2) (Nat.le_of_eq rfl) (hb hby own_d49_3) (by decide) (by decide) (by decide) (by decide)
  obtain ⟨rfl, N1, e1⟩ := hQ1
  have N1' := Fr.app N0 N1
  refine own_st st1 ?_
  obtain ⟨v2, T2, L2, hQ2, X2, st2⟩ := own_callS X1 hx hZ (y := (⟨"java/lang/String", "checkBoundsOffCount", "(III)I"⟩ : MethodName)) hown (own_w252 hw) (own_w253 hw) (own_w22 hw) (own_w254 hw) (by decide) (own_sb l hw [] i sz (z >>> ((1 : Int32) &&& 31)) fm h0 n0 (Nat.le_trans Z0 O0.1) zn (own_extt OZ O0) Sfm hfm hq1 hq2) e1 (g := (mkF m 6 #[.val (.int i), .val (.int sz), .val (.ref a1)] [(.int (z >>> ((1 : Int32) &&& 31))), (.int sz), (.int i)])) rfl (by rw [hml]; rfl) (argsL := [(.int i), (.int sz), (.int (z >>> ((1 : Int32) &&& 31)))]) (rest := []) (lenOf own_pd6 rfl) rfl rfl (W := 0) (Nat.le_of_eq rfl) (hb hby own_d49_6) (by decide) (by decide) (by decide) (by decide)
  obtain ⟨rfl, N2, e2⟩ := hQ2
  have N2' := Fr.app N1' N2
  refine own_st st2 ?_
  refine own_st (fun _ k => XS.pop X2.here hx rfl (hb hby own_d49_9) rfl rfl k) ?_
  exact own_retV X2 hx hret hlk (hb hby own_d49_10) ⟨rfl, N2', e2⟩ (by decide) (by decide)
def own_ce1_Q (Z : State) (cp : Int32) (h0 : Heap) (n0 : Nat) (v : Option Value) (h : Heap) (L : List Loc) : Prop := v = some (.int 1) ∧ Fr n0 L ∧ h = h0
set_option maxRecDepth 65536 in
set_option maxHeartbeats 40000000 in
theorem own_ce1 (l : Launch) {Z : State} {a0 : Array Value} (hw : own_W Z a0) (ws : List Jvm.Cond) (cp : Int32) (h0 : Heap) (n0 : Nat) (Z0 : n0 ≤ h0.size) (hc0 : ¬ cp < 0) (hc1 : ¬ (255 : Int32) < cp) :
    MetFree l (⟨"java/lang/StringLatin1", "canEncode", "(I)Z"⟩ : MethodName) (head1 (Jvm.Cond.code (⟨"java/lang/StringLatin1", "canEncode", "(I)Z"⟩ : MethodName) jdk_43_method_4_code 1 (some .boolean) :: ws) ({ frames := 0, cells := 0, slots := 0, locals := 0 } : Room)) (fun a U => a = #[(.int cp)] ∧ Z.Warmed39 U.vm ∧ U.heap = h0) (fun _ _ _ _ _ => True) (fun _ U o U' => ∃ v L, o = .returned v ∧ own_ce1_Q Z cp h0 n0 v U'.heap L ∧ FrameEnd U o U' L ({ frames := 0, cells := 0, slots := 0, locals := 0 } : Room).cells ({ frames := 0, cells := 0, slots := 0, locals := 0 } : Room).slots) := by
  refine own_enter (C := ({ frames := 0, cells := 0, slots := 0, locals := 0 } : Room).cells) (S := ({ frames := 0, cells := 0, slots := 0, locals := 0 } : Room).slots) (plainFor_of_name own_pn7) ?_
  intro p e s m below meth c T0 X0 I e0
  obtain ⟨hx, hby, hml, hown, hnm, hret, hlk, hZ⟩ := I
  have N0 := Fr.nil n0
  have O0 := own_extr h0
  refine own_cast (own_ef30 m cp) ?_
  show own_Go _ _ _ _ T0 (mkF m 0 #[.val (.int cp)] [])
  refine own_st (fun _ k => XS.iloadN X0.here hx rfl (hb hby own_d30_0) rfl k) ?_
  refine own_st (fun _ k => XS.ifNo X0.here hx rfl (hb hby own_d30_1) rfl ((if0 _ _).trans (flt (hc0 : ¬ (cp < (0 : Int32)))).1) k) ?_
  refine own_st (fun _ k => XS.iloadN X0.here hx rfl (hb hby own_d30_4) rfl k) ?_
  refine own_st (fun _ k => XS.sipush X0.here hx rfl (hb hby own_d30_5) k) ?_
  refine own_st (fun _ k => XS.icmpNo X0.here hx rfl (hb hby own_d30_8) rfl (flt (hc1 : ¬ ((255 : Int32) < cp))).2.2.1 k) ?_
  refine own_st (fun _ k => XS.iconst X0.here hx rfl (hb hby own_d30_11) k) ?_
  refine own_st (fun _ k => XS.goto X0.here hx rfl (pc0 := 12) (pc' := 16) rfl (hb hby own_d30_12) (by decide) (by decide) k) ?_
  exact own_retN X0 hx hret (by simp) hlk (hb hby own_d30_16) ⟨rfl, N0, e0⟩ (by decide) (by decide)
def own_ce0_Q (Z : State) (cp : Int32) (h0 : Heap) (n0 : Nat) (v : Option Value) (h : Heap) (L : List Loc) : Prop := v = some (.int 0) ∧ Fr n0 L ∧ h = h0
set_option maxRecDepth 65536 in
set_option maxHeartbeats 40000000 in
theorem own_ce0 (l : Launch) {Z : State} {a0 : Array Value} (hw : own_W Z a0) (ws : List Jvm.Cond) (cp : Int32) (h0 : Heap) (n0 : Nat) (Z0 : n0 ≤ h0.size) (hc0 : ¬ cp < 0) (hc1 : (255 : Int32) < cp) :
    MetFree l (⟨"java/lang/StringLatin1", "canEncode", "(I)Z"⟩ : MethodName) (head1 (Jvm.Cond.code (⟨"java/lang/StringLatin1", "canEncode", "(I)Z"⟩ : MethodName) jdk_43_method_4_code 1 (some .boolean) :: ws) ({ frames := 0, cells := 0, slots := 0, locals := 0 } : Room)) (fun a U => a = #[(.int cp)] ∧ Z.Warmed39 U.vm ∧ U.heap = h0) (fun _ _ _ _ _ => True) (fun _ U o U' => ∃ v L, o = .returned v ∧ own_ce0_Q Z cp h0 n0 v U'.heap L ∧ FrameEnd U o U' L ({ frames := 0, cells := 0, slots := 0, locals := 0 } : Room).cells ({ frames := 0, cells := 0, slots := 0, locals := 0 } : Room).slots) := by
  refine own_enter (C := ({ frames := 0, cells := 0, slots := 0, locals := 0 } : Room).cells) (S := ({ frames := 0, cells := 0, slots := 0, locals := 0 } : Room).slots) (plainFor_of_name own_pn7) ?_
  intro p e s m below meth c T0 X0 I e0
  obtain ⟨hx, hby, hml, hown, hnm, hret, hlk, hZ⟩ := I
  have N0 := Fr.nil n0
  have O0 := own_extr h0
  refine own_cast (own_ef30 m cp) ?_
  show own_Go _ _ _ _ T0 (mkF m 0 #[.val (.int cp)] [])
  refine own_st (fun _ k => XS.iloadN X0.here hx rfl (hb hby own_d30_0) rfl k) ?_
  refine own_st (fun _ k => XS.ifNo X0.here hx rfl (hb hby own_d30_1) rfl ((if0 _ _).trans (flt (hc0 : ¬ (cp < (0 : Int32)))).1) k) ?_
  refine own_st (fun _ k => XS.iloadN X0.here hx rfl (hb hby own_d30_4) rfl k) ?_
  refine own_st (fun _ k => XS.sipush X0.here hx rfl (hb hby own_d30_5) k) ?_
  refine own_st (fun _ k => XS.icmpYes X0.here hx rfl (pc0 := 8) (pc' := 15) rfl (hb hby own_d30_8) rfl (tlt (hc1 : (255 : Int32) < cp)).2.2.1 (by decide) (by decide) k) ?_
  refine own_st (fun _ k => XS.iconst X0.here hx rfl (hb hby own_d30_15) k) ?_
  exact own_retN X0 hx hret (by simp) hlk (hb hby own_d30_16) ⟨rfl, N0, e0⟩ (by decide) (by decide)
def own_bm1_Q (Z : State) (cp : Int32) (h0 : Heap) (n0 : Nat) (v : Option Value) (h : Heap) (L : List Loc) : Prop := v = some (.int 1) ∧ Fr n0 L ∧ h = h0
set_option maxRecDepth 65536 in
set_option maxHeartbeats 40000000 in
theorem own_bm1 (l : Launch) {Z : State} {a0 : Array Value} (hw : own_W Z a0) (ws : List Jvm.Cond) (cp : Int32) (h0 : Heap) (n0 : Nat) (Z0 : n0 ≤ h0.size) (hbm : ((cp.toUInt32 >>> ((16 : Int32) &&& 31).toUInt32).toInt32) = 0) :
    MetFree l (⟨"java/lang/Character", "isBmpCodePoint", "(I)Z"⟩ : MethodName) (head1 (Jvm.Cond.code (⟨"java/lang/Character", "isBmpCodePoint", "(I)Z"⟩ : MethodName) jdk_89_method_12_code 1 (some .boolean) :: ws) ({ frames := 0, cells := 0, slots := 0, locals := 0 } : Room)) (fun a U => a = #[(.int cp)] ∧ Z.Warmed39 U.vm ∧ U.heap = h0) (fun _ _ _ _ _ => True) (fun _ U o U' => ∃ v L, o = .returned v ∧ own_bm1_Q Z cp h0 n0 v U'.heap L ∧ FrameEnd U o U' L ({ frames := 0, cells := 0, slots := 0, locals := 0 } : Room).cells ({ frames := 0, cells := 0, slots := 0, locals := 0 } : Room).slots) := by
  refine own_enter (C := ({ frames := 0, cells := 0, slots := 0, locals := 0 } : Room).cells) (S := ({ frames := 0, cells := 0, slots := 0, locals := 0 } : Room).slots) (plainFor_of_name own_pn8) ?_
  intro p e s m below meth c T0 X0 I e0
  obtain ⟨hx, hby, hml, hown, hnm, hret, hlk, hZ⟩ := I
  have N0 := Fr.nil n0
  have O0 := own_extr h0
  refine own_cast (own_ef38 m cp) ?_
  show own_Go _ _ _ _ T0 (mkF m 0 #[.val (.int cp)] [])
  refine own_st (fun _ k => XS.iloadN X0.here hx rfl (hb hby own_d38_0) rfl k) ?_
  refine own_st (fun _ k => XS.bipush X0.here hx rfl (hb hby own_d38_1) k) ?_
  refine own_st (fun _ k => XS.iushr X0.here hx rfl (hb hby own_d38_3) rfl k) ?_
  refine own_st (fun _ k => XS.ifNo X0.here hx rfl (hb hby own_d38_4) rfl ((if0 _ _).trans (teq (hbm : ((cp.toUInt32 >>> ((16 : Int32) &&& 31).toUInt32).toInt32) = (0 : Int32))).2) k) ?_
  refine own_st (fun _ k => XS.iconst X0.here hx rfl (hb hby own_d38_7) k) ?_
  refine own_st (fun _ k => XS.goto X0.here hx rfl (pc0 := 8) (pc' := 12) rfl (hb hby own_d38_8) (by decide) (by decide) k) ?_
  exact own_retN X0 hx hret (by simp) hlk (hb hby own_d38_12) ⟨rfl, N0, e0⟩ (by decide) (by decide)
def own_bm0_Q (Z : State) (cp : Int32) (h0 : Heap) (n0 : Nat) (v : Option Value) (h : Heap) (L : List Loc) : Prop := v = some (.int 0) ∧ Fr n0 L ∧ h = h0
set_option maxRecDepth 65536 in
set_option maxHeartbeats 40000000 in
theorem own_bm0 (l : Launch) {Z : State} {a0 : Array Value} (hw : own_W Z a0) (ws : List Jvm.Cond) (cp : Int32) (h0 : Heap) (n0 : Nat) (Z0 : n0 ≤ h0.size) (hbm : ¬ ((cp.toUInt32 >>> ((16 : Int32) &&& 31).toUInt32).toInt32) = 0) :
    MetFree l (⟨"java/lang/Character", "isBmpCodePoint", "(I)Z"⟩ : MethodName) (head1 (Jvm.Cond.code (⟨"java/lang/Character", "isBmpCodePoint", "(I)Z"⟩ : MethodName) jdk_89_method_12_code 1 (some .boolean) :: ws) ({ frames := 0, cells := 0, slots := 0, locals := 0 } : Room)) (fun a U => a = #[(.int cp)] ∧ Z.Warmed39 U.vm ∧ U.heap = h0) (fun _ _ _ _ _ => True) (fun _ U o U' => ∃ v L, o = .returned v ∧ own_bm0_Q Z cp h0 n0 v U'.heap L ∧ FrameEnd U o U' L ({ frames := 0, cells := 0, slots := 0, locals := 0 } : Room).cells ({ frames := 0, cells := 0, slots := 0, locals := 0 } : Room).slots) := by
  refine own_enter (C := ({ frames := 0, cells := 0, slots := 0, locals := 0 } : Room).cells) (S := ({ frames := 0, cells := 0, slots := 0, locals := 0 } : Room).slots) (plainFor_of_name own_pn8) ?_
  intro p e s m below meth c T0 X0 I e0
  obtain ⟨hx, hby, hml, hown, hnm, hret, hlk, hZ⟩ := I
  have N0 := Fr.nil n0
  have O0 := own_extr h0
  refine own_cast (own_ef38 m cp) ?_
  show own_Go _ _ _ _ T0 (mkF m 0 #[.val (.int cp)] [])
  refine own_st (fun _ k => XS.iloadN X0.here hx rfl (hb hby own_d38_0) rfl k) ?_
  refine own_st (fun _ k => XS.bipush X0.here hx rfl (hb hby own_d38_1) k) ?_
  refine own_st (fun _ k => XS.iushr X0.here hx rfl (hb hby own_d38_3) rfl k) ?_
  refine own_st (fun _ k => XS.ifYes X0.here hx rfl (pc0 := 4) (pc' := 11) rfl (hb hby own_d38_4) rfl ((if0 _ _).trans (feq (hbm : ¬ (((cp.toUInt32 >>> ((16 : Int32) &&& 31).toUInt32).toInt32) = (0 : Int32)))).2) (by decide) (by decide) k) ?_
  refine own_st (fun _ k => XS.iconst X0.here hx rfl (hb hby own_d38_11) k) ?_
  exact own_retN X0 hx hret (by simp) hlk (hb hby own_d38_12) ⟨rfl, N0, e0⟩ (by decide) (by decide)
def own_su_Q (Z : State) (cp : Int32) (h0 : Heap) (n0 : Nat) (v : Option Value) (h : Heap) (L : List Loc) : Prop := v = some (.int 1) ∧ Fr n0 L ∧ h = h0
set_option maxRecDepth 65536 in
set_option maxHeartbeats 40000000 in
theorem own_su (l : Launch) {Z : State} {a0 : Array Value} (hw : own_W Z a0) (ws : List Jvm.Cond) (cp : Int32) (h0 : Heap) (n0 : Nat) (Z0 : n0 ≤ h0.size) (hs0 : ¬ cp < (65536 : Int32)) (hs1 : cp < (1114112 : Int32)) :
    MetFree l (⟨"java/lang/Character", "isSupplementaryCodePoint", "(I)Z"⟩ : MethodName) (head1 (Jvm.Cond.code (⟨"java/lang/Character", "isSupplementaryCodePoint", "(I)Z"⟩ : MethodName) jdk_89_method_13_code 1 (some .boolean) :: ws) ({ frames := 0, cells := 0, slots := 0, locals := 0 } : Room)) (fun a U => a = #[(.int cp)] ∧ Z.Warmed39 U.vm ∧ U.heap = h0) (fun _ _ _ _ _ => True) (fun _ U o U' => ∃ v L, o = .returned v ∧ own_su_Q Z cp h0 n0 v U'.heap L ∧ FrameEnd U o U' L ({ frames := 0, cells := 0, slots := 0, locals := 0 } : Room).cells ({ frames := 0, cells := 0, slots := 0, locals := 0 } : Room).slots) := by
  refine own_enter (C := ({ frames := 0, cells := 0, slots := 0, locals := 0 } : Room).cells) (S := ({ frames := 0, cells := 0, slots := 0, locals := 0 } : Room).slots) (plainFor_of_name own_pn8) ?_
  intro p e s m below meth c T0 X0 I e0
  obtain ⟨hx, hby, hml, hown, hnm, hret, hlk, hZ⟩ := I
  have N0 := Fr.nil n0
  have O0 := own_extr h0
  refine own_cast (own_ef39 m cp) ?_
  show own_Go _ _ _ _ T0 (mkF m 0 #[.val (.int cp)] [])
  refine own_st (fun _ k => XS.iloadN X0.here hx rfl (hb hby own_d39_0) rfl k) ?_
  refine own_st (X0.ldcInt hx hown (mvT hZ (own_w207 hw)) (g := (mkF m 1 #[.val (.int cp)] [(.int cp)])) rfl (hb hby own_d39_1)) ?_
  refine own_st (fun _ k => XS.icmpNo X0.here hx rfl (hb hby own_d39_3) rfl (flt (hs0 : ¬ (cp < (65536 : Int32)))).1 k) ?_
  refine own_st (fun _ k => XS.iloadN X0.here hx rfl (hb hby own_d39_6) rfl k) ?_
  refine own_st (X0.ldcInt hx hown (mvT hZ (own_w208 hw)) (g := (mkF m 7 #[.val (.int cp)] [(.int cp)])) rfl (hb hby own_d39_7)) ?_
  refine own_st (fun _ k => XS.icmpNo X0.here hx rfl (hb hby own_d39_9) rfl (tlt (hs1 : cp < (1114112 : Int32))).2.1 k) ?_
  refine own_st (fun _ k => XS.iconst X0.here hx rfl (hb hby own_d39_12) k) ?_
  refine own_st (fun _ k => XS.goto X0.here hx rfl (pc0 := 13) (pc' := 17) rfl (hb hby own_d39_13) (by decide) (by decide) k) ?_
  show own_Go _ _ _ _ T0 (mkF m 17 #[.val (.int cp)] [(.int 1)])
  exact own_retN X0 hx hret (by simp) hlk (hb hby own_d39_17) ⟨rfl, N0, e0⟩ (by decide) (by decide)
def own_hs_Q (Z : State) (cp : Int32) (h0 : Heap) (n0 : Nat) (v : Option Value) (h : Heap) (L : List Loc) : Prop := v = some (.int (own_HS cp)) ∧ Fr n0 L ∧ h = h0
set_option maxRecDepth 65536 in
set_option maxHeartbeats 40000000 in
theorem own_hs (l : Launch) {Z : State} {a0 : Array Value} (hw : own_W Z a0) (ws : List Jvm.Cond) (cp : Int32) (h0 : Heap) (n0 : Nat) (Z0 : n0 ≤ h0.size)  :
    MetFree l (⟨"java/lang/Character", "highSurrogate", "(I)C"⟩ : MethodName) (head1 (Jvm.Cond.code (⟨"java/lang/Character", "highSurrogate", "(I)C"⟩ : MethodName) jdk_89_method_28_code 1 (some .char) :: ws) ({ frames := 0, cells := 0, slots := 0, locals := 0 } : Room)) (fun a U => a = #[(.int cp)] ∧ Z.Warmed39 U.vm ∧ U.heap = h0) (fun _ _ _ _ _ => True) (fun _ U o U' => ∃ v L, o = .returned v ∧ own_hs_Q Z cp h0 n0 v U'.heap L ∧ FrameEnd U o U' L ({ frames := 0, cells := 0, slots := 0, locals := 0 } : Room).cells ({ frames := 0, cells := 0, slots := 0, locals := 0 } : Room).slots) := by
  refine own_enter (C := ({ frames := 0, cells := 0, slots := 0, locals := 0 } : Room).cells) (S := ({ frames := 0, cells := 0, slots := 0, locals := 0 } : Room).slots) (plainFor_of_name own_pn8) ?_
  intro p e s m below meth c T0 X0 I e0
  obtain ⟨hx, hby, hml, hown, hnm, hret, hlk, hZ⟩ := I
  have N0 := Fr.nil n0
  have O0 := own_extr h0
  refine own_cast (own_ef41 m cp) ?_
  show own_Go _ _ _ _ T0 (mkF m 0 #[.val (.int cp)] [])
  refine own_st (fun _ k => XS.iloadN X0.here hx rfl (hb hby own_d41_0) rfl k) ?_
  refine own_st (fun _ k => XS.bipush X0.here hx rfl (hb hby own_d41_1) k) ?_
  refine own_st (fun _ k => XS.iushr X0.here hx rfl (hb hby own_d41_3) rfl k) ?_
  refine own_st (X0.ldcInt hx hown (mvT hZ (own_w216 hw)) (g := (mkF m 4 #[.val (.int cp)] [(.int ((cp.toUInt32 >>> ((10 : Int32) &&& 31).toUInt32).toInt32))])) rfl (hb hby own_d41_4)) ?_
  refine own_st (fun _ k => XS.iadd X0.here hx rfl (hb hby own_d41_6) rfl k) ?_
  refine own_st (fun _ k => XS.i2c X0.here hx rfl (hb hby own_d41_7) rfl k) ?_
  exact own_retN X0 hx hret (by simp) hlk (hb hby own_d41_8) ⟨rfl, N0, e0⟩ (by decide) (by decide)
def own_ls_Q (Z : State) (cp : Int32) (h0 : Heap) (n0 : Nat) (v : Option Value) (h : Heap) (L : List Loc) : Prop := v = some (.int (own_LS cp)) ∧ Fr n0 L ∧ h = h0
set_option maxRecDepth 65536 in
set_option maxHeartbeats 40000000 in
theorem own_ls (l : Launch) {Z : State} {a0 : Array Value} (hw : own_W Z a0) (ws : List Jvm.Cond) (cp : Int32) (h0 : Heap) (n0 : Nat) (Z0 : n0 ≤ h0.size)  :
    MetFree l (⟨"java/lang/Character", "lowSurrogate", "(I)C"⟩ : MethodName) (head1 (Jvm.Cond.code (⟨"java/lang/Character", "lowSurrogate", "(I)C"⟩ : MethodName) jdk_89_method_29_code 1 (some .char) :: ws) ({ frames := 0, cells := 0, slots := 0, locals := 0 } : Room)) (fun a U => a = #[(.int cp)] ∧ Z.Warmed39 U.vm ∧ U.heap = h0) (fun _ _ _ _ _ => True) (fun _ U o U' => ∃ v L, o = .returned v ∧ own_ls_Q Z cp h0 n0 v U'.heap L ∧ FrameEnd U o U' L ({ frames := 0, cells := 0, slots := 0, locals := 0 } : Room).cells ({ frames := 0, cells := 0, slots := 0, locals := 0 } : Room).slots) := by
  refine own_enter (C := ({ frames := 0, cells := 0, slots := 0, locals := 0 } : Room).cells) (S := ({ frames := 0, cells := 0, slots := 0, locals := 0 } : Room).slots) (plainFor_of_name own_pn8) ?_
  intro p e s m below meth c T0 X0 I e0
  obtain ⟨hx, hby, hml, hown, hnm, hret, hlk, hZ⟩ := I
  have N0 := Fr.nil n0
  have O0 := own_extr h0
  refine own_cast (own_ef43 m cp) ?_
  show own_Go _ _ _ _ T0 (mkF m 0 #[.val (.int cp)] [])
  refine own_st (fun _ k => XS.iloadN X0.here hx rfl (hb hby own_d43_0) rfl k) ?_
  refine own_st (fun _ k => XS.sipush X0.here hx rfl (hb hby own_d43_1) k) ?_
  refine own_st (fun _ k => XS.iand X0.here hx rfl (hb hby own_d43_4) rfl k) ?_
  refine own_st (X0.ldcInt hx hown (mvT hZ (own_w226 hw)) (g := (mkF m 5 #[.val (.int cp)] [(.int (cp &&& (1023 : Int32)))])) rfl (hb hby own_d43_5)) ?_
  refine own_st (fun _ k => XS.iadd X0.here hx rfl (hb hby own_d43_7) rfl k) ?_
  refine own_st (fun _ k => XS.i2c X0.here hx rfl (hb hby own_d43_8) rfl k) ?_
  exact own_retN X0 hx hret (by simp) hlk (hb hby own_d43_9) ⟨rfl, N0, e0⟩ (by decide) (by decide)
def own_nl_Q (Z : State) (p1 : Int32) (h0 : Heap) (n0 : Nat) (v : Option Value) (h : Heap) (L : List Loc) : Prop := v = some (.int 32) ∧ Fr n0 L ∧ h = h0
set_option maxRecDepth 65536 in
set_option maxHeartbeats 40000000 in
theorem own_nl (l : Launch) {Z : State} {a0 : Array Value} (hw : own_W Z a0) (ws : List Jvm.Cond) (p1 : Int32) (h0 : Heap) (n0 : Nat) (Z0 : n0 ≤ h0.size) (hp1 : p1 = 16) :
    MetFree l (⟨"java/lang/StringUTF16", "newBytesLength", "(I)I"⟩ : MethodName) (head1 (Jvm.Cond.code (⟨"java/lang/StringUTF16", "newBytesLength", "(I)I"⟩ : MethodName) jdk_52_method_3_code 1 (some .int) :: ws) ({ frames := 0, cells := 0, slots := 0, locals := 0 } : Room)) (fun a U => a = #[(.int p1)] ∧ Z.Warmed39 U.vm ∧ U.heap = h0) (fun _ _ _ _ _ => True) (fun _ U o U' => ∃ v L, o = .returned v ∧ own_nl_Q Z p1 h0 n0 v U'.heap L ∧ FrameEnd U o U' L ({ frames := 0, cells := 0, slots := 0, locals := 0 } : Room).cells ({ frames := 0, cells := 0, slots := 0, locals := 0 } : Room).slots) := by
  refine own_enter (C := ({ frames := 0, cells := 0, slots := 0, locals := 0 } : Room).cells) (S := ({ frames := 0, cells := 0, slots := 0, locals := 0 } : Room).slots) (plainFor_of_name own_pn6) ?_
  intro p e s m below meth c T0 X0 I e0
  obtain ⟨hx, hby, hml, hown, hnm, hret, hlk, hZ⟩ := I
  have N0 := Fr.nil n0
  have O0 := own_extr h0
  refine own_cast (own_ef46 m p1) ?_
  show own_Go _ _ _ _ T0 (mkF m 0 #[.val (.int p1)] [])
  rw [hp1]
  show own_Go _ _ _ _ T0 (mkF m 0 #[.val (.int 16)] [])
  refine own_st (fun _ k => XS.iloadN X0.here hx rfl (hb hby own_d46_0) rfl k) ?_
  refine own_st (fun _ k => XS.ifYes X0.here hx rfl (pc0 := 1) (pc' := 12) rfl (hb hby own_d46_1) rfl ((if0 _ _).trans (flt (by decide : ¬ ((16 : Int32) < (0 : Int32)))).2.1) (by decide) (by decide) k) ?_
  refine own_st (fun _ k => XS.iloadN X0.here hx rfl (hb hby own_d46_12) rfl k) ?_
  refine own_st (X0.ldcInt hx hown (mvT hZ (own_w239 hw)) (g := (mkF m 13 #[.val (.int 16)] [(.int 16)])) rfl (hb hby own_d46_13)) ?_
  refine own_st (fun _ k => XS.icmpYes X0.here hx rfl (pc0 := 15) (pc' := 55) rfl (hb hby own_d46_15) rfl (tlt (by decide : (16 : Int32) < (1073741823 : Int32))).1 (by decide) (by decide) k) ?_
  refine own_st (fun _ k => XS.iloadN X0.here hx rfl (hb hby own_d46_55) rfl k) ?_
  refine own_st (fun _ k => XS.iconst X0.here hx rfl (hb hby own_d46_56) k) ?_
  refine own_st (fun _ k => XS.ishl X0.here hx rfl (hb hby own_d46_57) rfl k) ?_
  show own_Go _ _ _ _ T0 (mkF m 58 #[.val (.int 16)] [(.int ((16 : Int32) <<< ((1 : Int32) &&& 31)))])
  rw [show ((16 : Int32) <<< ((1 : Int32) &&& 31)) = (32 : Int32) from by decide]
  exact own_retI X0 hx hret hlk (hb hby own_d46_58) ⟨rfl, N0, e0⟩ (by decide) (by decide)
def own_nbf_Q (Z : State) (p1 : Int32) (h0 : Heap) (n0 : Nat) (v : Option Value) (h : Heap) (L : List Loc) : Prop := ∃ b k, v = some (.ref b) ∧ Fr n0 L ∧ Ext h0 h ∧ n0 ≤ b ∧ h0.size ≤ b ∧ Arv Z h b k .byte (32 : Int32) [(.int 0), (.int 0), (.int 0), (.int 0), (.int 0), (.int 0), (.int 0), (.int 0), (.int 0), (.int 0), (.int 0), (.int 0), (.int 0), (.int 0), (.int 0), (.int 0), (.int 0), (.int 0), (.int 0), (.int 0), (.int 0), (.int 0), (.int 0), (.int 0), (.int 0), (.int 0), (.int 0), (.int 0), (.int 0), (.int 0), (.int 0), (.int 0)] (.int 0)
set_option maxRecDepth 65536 in
set_option maxHeartbeats 40000000 in
theorem own_nbf (l : Launch) {Z : State} {a0 : Array Value} (hw : own_W Z a0) (ws : List Jvm.Cond) (p1 : Int32) (h0 : Heap) (n0 : Nat) (Z0 : n0 ≤ h0.size) (hp1 : p1 = 16) :
    MetFree l (⟨"java/lang/StringUTF16", "newBytesFor", "(I)[B"⟩ : MethodName) (head1 (Jvm.Cond.code (⟨"java/lang/StringUTF16", "newBytesFor", "(I)[B"⟩ : MethodName) jdk_52_method_2_code 1 (some (.array .byte)) :: ws) ({ frames := 1, cells := 1, slots := 32, locals := 12 } : Room)) (fun a U => a = #[(.int p1)] ∧ Z.Warmed39 U.vm ∧ U.heap = h0) (fun _ _ _ _ _ => True) (fun _ U o U' => ∃ v L, o = .returned v ∧ own_nbf_Q Z p1 h0 n0 v U'.heap L ∧ FrameEnd U o U' L ({ frames := 1, cells := 1, slots := 32, locals := 12 } : Room).cells ({ frames := 1, cells := 1, slots := 32, locals := 12 } : Room).slots) := by
  refine own_enter (C := ({ frames := 1, cells := 1, slots := 32, locals := 12 } : Room).cells) (S := ({ frames := 1, cells := 1, slots := 32, locals := 12 } : Room).slots) (plainFor_of_name own_pn6) ?_
  intro p e s m below meth c T0 X0 I e0
  obtain ⟨hx, hby, hml, hown, hnm, hret, hlk, hZ⟩ := I
  have N0 := Fr.nil n0
  have O0 := own_extr h0
  refine own_cast (own_ef45 m p1) ?_
  show own_Go _ _ _ _ T0 (mkF m 0 #[.val (.int p1)] [])
  rw [hp1]
  show own_Go _ _ _ _ T0 (mkF m 0 #[.val (.int 16)] [])
  refine own_st (fun _ k => XS.iloadN X0.here hx rfl (hb hby own_d45_0) rfl k) ?_
  obtain ⟨v1, T1, L1, hQ1, X1, st1⟩ := own_callS X0 hx hZ (y := (⟨"java/lang/StringUTF16", "newBytesLength", "(I)I"⟩ : MethodName)) hown (own_w236 hw) (own_w237 hw) (own_w211 hw) (own_w238 hw) (by decide) (own_nl l hw [] (16 : Int32) h0 n0 (Nat.le_trans Z0 O0.1) rfl) e0 (g := (mkF m 1 #[.val (.int 16)] [(.int 16)])) rfl (by rw [hml]; rfl) (argsL := [(.int 16)]) (rest := []) (lenOf own_pd7 rfl) rfl rfl (W := 0) (Nat.le_of_eq rfl) (hb hby own_d45_1) (by decide) (by decide) (by decide) (by decide)
  obtain ⟨rfl, N1, e1⟩ := hQ1
  have N1' := Fr.app N0 N1
  refine own_st st1 ?_
  obtain ⟨T2, hp2, kk2, X2, e2, Et2, A2, st2⟩ := newP X1 hx hZ (aty := .byte) (own_w24 hw) e1 (g := (mkF m 4 #[.val (.int 16)] [(.int 32)])) rfl (hb hby own_d45_4) rfl (by decide) (cap := 32) (by decide) (by decide) (by decide) (by decide)
  obtain ⟨b2, g2⟩ : ∃ z, z = h0.size := ⟨_, rfl⟩
  rw [← g2] at A2 st2
  have s_b2 : h0.size ≤ b2 := Nat.le_trans O0.1 (Nat.le_of_eq g2.symm)
  have g_b2 : n0 ≤ b2 := Nat.le_trans Z0 s_b2
  have O2 := own_extt O0 Et2
  have Va2 : Arv Z hp2 b2 kk2 .byte (32 : Int32) [(.int 0), (.int 0), (.int 0), (.int 0), (.int 0), (.int 0), (.int 0), (.int 0), (.int 0), (.int 0), (.int 0), (.int 0), (.int 0), (.int 0), (.int 0), (.int 0), (.int 0), (.int 0), (.int 0), (.int 0), (.int 0), (.int 0), (.int 0), (.int 0), (.int 0), (.int 0), (.int 0), (.int 0), (.int 0), (.int 0), (.int 0), (.int 0)] (.int 0) := (Arv.new A2 (by decide)).pad (pad_rep [] (.int 0) 32)
  refine own_st st2 ?_
  exact own_retA X2 hx hret rfl hlk rfl (hb hby own_d45_6) ⟨b2, _, rfl, N1', by rw [e2]; exact O2, g_b2, s_b2, by rw [e2]; exact Va2⟩ (by decide) (by decide)
def own_pc2_0_Q (Z : State) (a1 : Addr) (p1 ch : Int32) (k1 : ClassId) (h0 : Heap) (n0 : Nat) (v : Option Value) (h : Heap) (L : List Loc) : Prop := v = none ∧ Fr n0 L ∧ Keep h0 h [a1] ∧ Arv Z h a1 k1 .byte (2 : Int32) [(.int (own_B0 ch)), (.int (own_B1 ch))] (.int 0)
set_option maxRecDepth 65536 in
set_option maxHeartbeats 40000000 in
theorem own_pc2_0 (l : Launch) {Z : State} {a0 : Array Value} (hw : own_W Z a0) (ws : List Jvm.Cond) (a1 : Addr) (p1 ch : Int32) (k1 : ClassId) (h0 : Heap) (n0 : Nat) (Z0 : n0 ≤ h0.size) (hp1 : p1 = 0) (zn : Z.heap.size ≤ n0) (OZ : Ext Z.heap h0) (Sad : Sta Z Z.heap "java/lang/StringUTF16" "$assertionsDisabled" "Z" (.int 1)) (Shi : Sta Z Z.heap "java/lang/StringUTF16" "HI_BYTE_SHIFT" "I" (.int 0)) (Slo : Sta Z Z.heap "java/lang/StringUTF16" "LO_BYTE_SHIFT" "I" (.int 8)) (g_a1 : n0 ≤ a1) (Va : Arv Z h0 a1 k1 .byte (2 : Int32) [(.int 0), (.int 0)] (.int 0)) :
    MetFree l (⟨"java/lang/StringUTF16", "putChar", "([BII)V"⟩ : MethodName) (head1 (Jvm.Cond.code (⟨"java/lang/StringUTF16", "putChar", "([BII)V"⟩ : MethodName) jdk_52_method_4_code 3 none :: ws) ({ frames := 0, cells := 0, slots := 0, locals := 0 } : Room)) (fun a U => a = #[(.ref a1), (.int p1), (.int ch)] ∧ Z.Warmed39 U.vm ∧ U.heap = h0) (fun _ _ _ _ _ => True) (fun _ U o U' => ∃ v L, o = .returned v ∧ own_pc2_0_Q Z a1 p1 ch k1 h0 n0 v U'.heap L ∧ FrameEnd U o U' L ({ frames := 0, cells := 0, slots := 0, locals := 0 } : Room).cells ({ frames := 0, cells := 0, slots := 0, locals := 0 } : Room).slots) := by
  refine own_enter (C := ({ frames := 0, cells := 0, slots := 0, locals := 0 } : Room).cells) (S := ({ frames := 0, cells := 0, slots := 0, locals := 0 } : Room).slots) (plainFor_of_name own_pn6) ?_
  intro p e s m below meth c T0 X0 I e0
  obtain ⟨hx, hby, hml, hown, hnm, hret, hlk, hZ⟩ := I
  have N0 := Fr.nil n0
  have O0 := own_extr h0
  refine own_cast (own_ef42 m a1 p1 ch) ?_
  show own_Go _ _ _ _ T0 (mkF m 0 #[.val (.ref a1), .val (.int p1), .val (.int ch)] [])
  rw [hp1]
  show own_Go _ _ _ _ T0 (mkF m 0 #[.val (.ref a1), .val (.int 0), .val (.int ch)] [])
  have K0 := Keep.refl h0 [a1]
  obtain ⟨T1, X1, e1, st1⟩ := getS2 X0 hx hZ hown (host := "") (Or.inl (own_w220 hw)) Via.refl e0 (Sad.ext OZ) (g := (mkF m 0 #[.val (.ref a1), .val (.int 0), .val (.int ch)] [])) rfl (hb hby own_d42_0)
  refine own_st st1 ?_
  refine own_st (fun _ k => XS.ifYes X1.here hx rfl (pc0 := 3) (pc' := 28) rfl (hb hby own_d42_3) rfl ((if0 _ _).trans (feq (by decide : ¬ ((1 : Int32) = (0 : Int32)))).2) (by decide) (by decide) k) ?_
  refine own_st (fun _ k => XS.iloadN X1.here hx rfl (hb hby own_d42_28) rfl k) ?_
  refine own_st (fun _ k => XS.iconst X1.here hx rfl (hb hby own_d42_29) k) ?_
  refine own_st (fun _ k => XS.ishl X1.here hx rfl (hb hby own_d42_30) rfl k) ?_
  show own_Go _ _ _ _ T1 (mkF m 31 #[.val (.ref a1), .val (.int 0), .val (.int ch)] [(.int ((0 : Int32) <<< ((1 : Int32) &&& 31)))])
  rw [show ((0 : Int32) <<< ((1 : Int32) &&& 31)) = (0 : Int32) from by decide]
  refine own_st (fun _ k => XS.istoreN X1.here hx rfl (hb hby own_d42_31) rfl (l' := #[.val (.ref a1), .val (.int 0), .val (.int ch)]) rfl k) ?_
  refine own_st (fun _ k => XS.aloadN X1.here hx rfl (hb hby own_d42_32) rfl rfl k) ?_
  refine own_st (fun _ k => XS.iloadN X1.here hx rfl (hb hby own_d42_33) rfl k) ?_
  refine own_st (fun _ k => XS.iinc X1.here hx rfl (hb hby own_d42_34) rfl (l' := #[.val (.ref a1), .val (.int ((0 : Int32) + (1 : Int32))), .val (.int ch)]) rfl k) ?_
  show own_Go _ _ _ _ T1 (mkF m 37 #[.val (.ref a1), .val (.int ((0 : Int32) + (1 : Int32))), .val (.int ch)] [(.int 0), (.ref a1)])
  rw [show ((0 : Int32) + (1 : Int32)) = (1 : Int32) from by decide]
  refine own_st (fun _ k => XS.iloadN X1.here hx rfl (hb hby own_d42_37) rfl k) ?_
  obtain ⟨T2, X2, e2, st2⟩ := getS2 X1 hx hZ hown (host := "") (Or.inl (own_w221 hw)) Via.refl e1 (Shi.ext OZ) (g := (mkF m 38 #[.val (.ref a1), .val (.int 1), .val (.int ch)] [(.int ch), (.int 0), (.ref a1)])) rfl (hb hby own_d42_38)
  refine own_st st2 ?_
  refine own_st (fun _ k => XS.ishr X2.here hx rfl (hb hby own_d42_41) rfl k) ?_
  refine own_st (fun _ k => XS.i2b X2.here hx rfl (hb hby own_d42_42) rfl k) ?_
  obtain ⟨T3, hp3, X3, e3, W3, Va3, st3⟩ := own_stB X2 hx hZ e2 Va (by decide) 0 (by decide) (Nat.le_of_ble_eq_true rfl) (g := (mkF m 43 #[.val (.ref a1), .val (.int 1), .val (.int ch)] [(.int ((ch >>> ((0 : Int32) &&& 31)).toInt8.toInt32)), (.int 0), (.ref a1)])) rfl rfl (hb hby own_d42_43)
  have K3 := Keep.wr K0 W3 (Or.inl (List.mem_of_getElem? (i := 0) rfl))
  have zz3 := own_extw OZ W3 (Nat.le_trans zn g_a1)
  have Va3 : Arv Z hp3 a1 k1 .byte (2 : Int32) [(.int (nar .byte ((ch >>> ((0 : Int32) &&& 31)).toInt8.toInt32))), (.int 0)] (.int 0) := Va3
  have N3 := Fr.snoc X3 N0 g_a1
  refine own_st st3 ?_
  refine own_st (fun _ k => XS.aloadN X3.here hx rfl (hb hby own_d42_44) rfl rfl k) ?_
  refine own_st (fun _ k => XS.iloadN X3.here hx rfl (hb hby own_d42_45) rfl k) ?_
  show own_Go _ _ _ _ T3 (mkF m 46 #[.val (.ref a1), .val (.int 1), .val (.int ch)] [(.int 1), (.ref a1)])
  refine own_st (fun _ k => XS.iloadN X3.here hx rfl (hb hby own_d42_46) rfl k) ?_
  obtain ⟨T4, X4, e4, st4⟩ := getS2 X3 hx hZ hown (host := "") (Or.inl (own_w222 hw)) Via.refl e3 (Slo.ext zz3) (g := (mkF m 47 #[.val (.ref a1), .val (.int 1), .val (.int ch)] [(.int ch), (.int 1), (.ref a1)])) rfl (hb hby own_d42_47)
  refine own_st st4 ?_
  refine own_st (fun _ k => XS.ishr X4.here hx rfl (hb hby own_d42_50) rfl k) ?_
  refine own_st (fun _ k => XS.i2b X4.here hx rfl (hb hby own_d42_51) rfl k) ?_
  obtain ⟨T5, hp5, X5, e5, W5, Va5, st5⟩ := own_stB X4 hx hZ e4 Va3 (by decide) 1 (by decide) (Nat.le_of_ble_eq_true rfl) (g := (mkF m 52 #[.val (.ref a1), .val (.int 1), .val (.int ch)] [(.int ((ch >>> ((8 : Int32) &&& 31)).toInt8.toInt32)), (.int 1), (.ref a1)])) rfl rfl (hb hby own_d42_52)
  have K5 := Keep.wr K3 W5 (Or.inl (List.mem_of_getElem? (i := 0) rfl))
  have zz5 := own_extw zz3 W5 (Nat.le_trans zn g_a1)
  have Va5 : Arv Z hp5 a1 k1 .byte (2 : Int32) [(.int (nar .byte ((ch >>> ((0 : Int32) &&& 31)).toInt8.toInt32))), (.int (nar .byte ((ch >>> ((8 : Int32) &&& 31)).toInt8.toInt32)))] (.int 0) := Va5
  have N5 := Fr.snoc X5 N3 g_a1
  refine own_st st5 ?_
  exact own_retV X5 hx hret hlk (hb hby own_d42_53) ⟨rfl, N5, by rw [e5]; exact K5, by rw [e5]; exact Va5⟩ (by decide) (by decide)
def own_pc4_0_Q (Z : State) (a1 : Addr) (p1 ch : Int32) (k1 : ClassId) (h0 : Heap) (n0 : Nat) (v : Option Value) (h : Heap) (L : List Loc) : Prop := v = none ∧ Fr n0 L ∧ Keep h0 h [a1] ∧ Arv Z h a1 k1 .byte (4 : Int32) [(.int (own_B0 ch)), (.int (own_B1 ch)), (.int 0), (.int 0)] (.int 0)
set_option maxRecDepth 65536 in
set_option maxHeartbeats 40000000 in
theorem own_pc4_0 (l : Launch) {Z : State} {a0 : Array Value} (hw : own_W Z a0) (ws : List Jvm.Cond) (a1 : Addr) (p1 ch : Int32) (k1 : ClassId) (h0 : Heap) (n0 : Nat) (Z0 : n0 ≤ h0.size) (hp1 : p1 = 0) (zn : Z.heap.size ≤ n0) (OZ : Ext Z.heap h0) (Sad : Sta Z Z.heap "java/lang/StringUTF16" "$assertionsDisabled" "Z" (.int 1)) (Shi : Sta Z Z.heap "java/lang/StringUTF16" "HI_BYTE_SHIFT" "I" (.int 0)) (Slo : Sta Z Z.heap "java/lang/StringUTF16" "LO_BYTE_SHIFT" "I" (.int 8)) (g_a1 : n0 ≤ a1) (Va : Arv Z h0 a1 k1 .byte (4 : Int32) [(.int 0), (.int 0), (.int 0), (.int 0)] (.int 0)) :
    MetFree l (⟨"java/lang/StringUTF16", "putChar", "([BII)V"⟩ : MethodName) (head1 (Jvm.Cond.code (⟨"java/lang/StringUTF16", "putChar", "([BII)V"⟩ : MethodName) jdk_52_method_4_code 3 none :: ws) ({ frames := 0, cells := 0, slots := 0, locals := 0 } : Room)) (fun a U => a = #[(.ref a1), (.int p1), (.int ch)] ∧ Z.Warmed39 U.vm ∧ U.heap = h0) (fun _ _ _ _ _ => True) (fun _ U o U' => ∃ v L, o = .returned v ∧ own_pc4_0_Q Z a1 p1 ch k1 h0 n0 v U'.heap L ∧ FrameEnd U o U' L ({ frames := 0, cells := 0, slots := 0, locals := 0 } : Room).cells ({ frames := 0, cells := 0, slots := 0, locals := 0 } : Room).slots) := by
  refine own_enter (C := ({ frames := 0, cells := 0, slots := 0, locals := 0 } : Room).cells) (S := ({ frames := 0, cells := 0, slots := 0, locals := 0 } : Room).slots) (plainFor_of_name own_pn6) ?_
  intro p e s m below meth c T0 X0 I e0
  obtain ⟨hx, hby, hml, hown, hnm, hret, hlk, hZ⟩ := I
  have N0 := Fr.nil n0
  have O0 := own_extr h0
  refine own_cast (own_ef42 m a1 p1 ch) ?_
  show own_Go _ _ _ _ T0 (mkF m 0 #[.val (.ref a1), .val (.int p1), .val (.int ch)] [])
  rw [hp1]
  show own_Go _ _ _ _ T0 (mkF m 0 #[.val (.ref a1), .val (.int 0), .val (.int ch)] [])
  have K0 := Keep.refl h0 [a1]
  obtain ⟨T1, X1, e1, st1⟩ := getS2 X0 hx hZ hown (host := "") (Or.inl (own_w220 hw)) Via.refl e0 (Sad.ext OZ) (g := (mkF m 0 #[.val (.ref a1), .val (.int 0), .val (.int ch)] [])) rfl (hb hby own_d42_0)
  refine own_st st1 ?_
  refine own_st (fun _ k => XS.ifYes X1.here hx rfl (pc0 := 3) (pc' := 28) rfl (hb hby own_d42_3) rfl ((if0 _ _).trans (feq (by decide : ¬ ((1 : Int32) = (0 : Int32)))).2) (by decide) (by decide) k) ?_
  refine own_st (fun _ k => XS.iloadN X1.here hx rfl (hb hby own_d42_28) rfl k) ?_
  refine own_st (fun _ k => XS.iconst X1.here hx rfl (hb hby own_d42_29) k) ?_
  refine own_st (fun _ k => XS.ishl X1.here hx rfl (hb hby own_d42_30) rfl k) ?_
  show own_Go _ _ _ _ T1 (mkF m 31 #[.val (.ref a1), .val (.int 0), .val (.int ch)] [(.int ((0 : Int32) <<< ((1 : Int32) &&& 31)))])
  rw [show ((0 : Int32) <<< ((1 : Int32) &&& 31)) = (0 : Int32) from by decide]
  refine own_st (fun _ k => XS.istoreN X1.here hx rfl (hb hby own_d42_31) rfl (l' := #[.val (.ref a1), .val (.int 0), .val (.int ch)]) rfl k) ?_
  refine own_st (fun _ k => XS.aloadN X1.here hx rfl (hb hby own_d42_32) rfl rfl k) ?_
  refine own_st (fun _ k => XS.iloadN X1.here hx rfl (hb hby own_d42_33) rfl k) ?_
  refine own_st (fun _ k => XS.iinc X1.here hx rfl (hb hby own_d42_34) rfl (l' := #[.val (.ref a1), .val (.int ((0 : Int32) + (1 : Int32))), .val (.int ch)]) rfl k) ?_
  show own_Go _ _ _ _ T1 (mkF m 37 #[.val (.ref a1), .val (.int ((0 : Int32) + (1 : Int32))), .val (.int ch)] [(.int 0), (.ref a1)])
  rw [show ((0 : Int32) + (1 : Int32)) = (1 : Int32) from by decide]
  refine own_st (fun _ k => XS.iloadN X1.here hx rfl (hb hby own_d42_37) rfl k) ?_
  obtain ⟨T2, X2, e2, st2⟩ := getS2 X1 hx hZ hown (host := "") (Or.inl (own_w221 hw)) Via.refl e1 (Shi.ext OZ) (g := (mkF m 38 #[.val (.ref a1), .val (.int 1), .val (.int ch)] [(.int ch), (.int 0), (.ref a1)])) rfl (hb hby own_d42_38)
  refine own_st st2 ?_
  refine own_st (fun _ k => XS.ishr X2.here hx rfl (hb hby own_d42_41) rfl k) ?_
  refine own_st (fun _ k => XS.i2b X2.here hx rfl (hb hby own_d42_42) rfl k) ?_
  obtain ⟨T3, hp3, X3, e3, W3, Va3, st3⟩ := own_stB X2 hx hZ e2 Va (by decide) 0 (by decide) (Nat.le_of_ble_eq_true rfl) (g := (mkF m 43 #[.val (.ref a1), .val (.int 1), .val (.int ch)] [(.int ((ch >>> ((0 : Int32) &&& 31)).toInt8.toInt32)), (.int 0), (.ref a1)])) rfl rfl (hb hby own_d42_43)
  have K3 := Keep.wr K0 W3 (Or.inl (List.mem_of_getElem? (i := 0) rfl))
  have zz3 := own_extw OZ W3 (Nat.le_trans zn g_a1)
  have Va3 : Arv Z hp3 a1 k1 .byte (4 : Int32) [(.int (nar .byte ((ch >>> ((0 : Int32) &&& 31)).toInt8.toInt32))), (.int 0), (.int 0), (.int 0)] (.int 0) := Va3
  have N3 := Fr.snoc X3 N0 g_a1
  refine own_st st3 ?_
  refine own_st (fun _ k => XS.aloadN X3.here hx rfl (hb hby own_d42_44) rfl rfl k) ?_
  refine own_st (fun _ k => XS.iloadN X3.here hx rfl (hb hby own_d42_45) rfl k) ?_
  show own_Go _ _ _ _ T3 (mkF m 46 #[.val (.ref a1), .val (.int 1), .val (.int ch)] [(.int 1), (.ref a1)])
  refine own_st (fun _ k => XS.iloadN X3.here hx rfl (hb hby own_d42_46) rfl k) ?_
  obtain ⟨T4, X4, e4, st4⟩ := getS2 X3 hx hZ hown (host := "") (Or.inl (own_w222 hw)) Via.refl e3 (Slo.ext zz3) (g := (mkF m 47 #[.val (.ref a1), .val (.int 1), .val (.int ch)] [(.int ch), (.int 1), (.ref a1)])) rfl (hb hby own_d42_47)
  refine own_st st4 ?_
  refine own_st (fun _ k => XS.ishr X4.here hx rfl (hb hby own_d42_50) rfl k) ?_
  refine own_st (fun _ k => XS.i2b X4.here hx rfl (hb hby own_d42_51) rfl k) ?_
  obtain ⟨T5, hp5, X5, e5, W5, Va5, st5⟩ := own_stB X4 hx hZ e4 Va3 (by decide) 1 (by decide) (Nat.le_of_ble_eq_true rfl) (g := (mkF m 52 #[.val (.ref a1), .val (.int 1), .val (.int ch)] [(.int ((ch >>> ((8 : Int32) &&& 31)).toInt8.toInt32)), (.int 1), (.ref a1)])) rfl rfl (hb hby own_d42_52)
  have K5 := Keep.wr K3 W5 (Or.inl (List.mem_of_getElem? (i := 0) rfl))
  have zz5 := own_extw zz3 W5 (Nat.le_trans zn g_a1)
  have Va5 : Arv Z hp5 a1 k1 .byte (4 : Int32) [(.int (nar .byte ((ch >>> ((0 : Int32) &&& 31)).toInt8.toInt32))), (.int (nar .byte ((ch >>> ((8 : Int32) &&& 31)).toInt8.toInt32))), (.int 0), (.int 0)] (.int 0) := Va5
  have N5 := Fr.snoc X5 N3 g_a1
  refine own_st st5 ?_
  exact own_retV X5 hx hret hlk (hb hby own_d42_53) ⟨rfl, N5, by rw [e5]; exact K5, by rw [e5]; exact Va5⟩ (by decide) (by decide)
def own_pc4_1_Q (Z : State) (a1 : Addr) (p1 ch : Int32) (k1 : ClassId) (x0 x1 : Int32) (h0 : Heap) (n0 : Nat) (v : Option Value) (h : Heap) (L : List Loc) : Prop := v = none ∧ Fr n0 L ∧ Keep h0 h [a1] ∧ Arv Z h a1 k1 .byte (4 : Int32) [(.int x0), (.int x1), (.int (own_B0 ch)), (.int (own_B1 ch))] (.int 0)
set_option maxRecDepth 65536 in
set_option maxHeartbeats 40000000 in
theorem own_pc4_1 (l : Launch) {Z : State} {a0 : Array Value} (hw : own_W Z a0) (ws : List Jvm.Cond) (a1 : Addr) (p1 ch : Int32) (k1 : ClassId) (x0 x1 : Int32) (h0 : Heap) (n0 : Nat) (Z0 : n0 ≤ h0.size) (hp1 : p1 = 1) (zn : Z.heap.size ≤ n0) (OZ : Ext Z.heap h0) (Sad : Sta Z Z.heap "java/lang/StringUTF16" "$assertionsDisabled" "Z" (.int 1)) (Shi : Sta Z Z.heap "java/lang/StringUTF16" "HI_BYTE_SHIFT" "I" (.int 0)) (Slo : Sta Z Z.heap "java/lang/StringUTF16" "LO_BYTE_SHIFT" "I" (.int 8)) (g_a1 : n0 ≤ a1) (Va : Arv Z h0 a1 k1 .byte (4 : Int32) [(.int x0), (.int x1), (.int 0), (.int 0)] (.int 0)) :
    MetFree l (⟨"java/lang/StringUTF16", "putChar", "([BII)V"⟩ : MethodName) (head1 (Jvm.Cond.code (⟨"java/lang/StringUTF16", "putChar", "([BII)V"⟩ : MethodName) jdk_52_method_4_code 3 none :: ws) ({ frames := 0, cells := 0, slots := 0, locals := 0 } : Room)) (fun a U => a = #[(.ref a1), (.int p1), (.int ch)] ∧ Z.Warmed39 U.vm ∧ U.heap = h0) (fun _ _ _ _ _ => True) (fun _ U o U' => ∃ v L, o = .returned v ∧ own_pc4_1_Q Z a1 p1 ch k1 x0 x1 h0 n0 v U'.heap L ∧ FrameEnd U o U' L ({ frames := 0, cells := 0, slots := 0, locals := 0 } : Room).cells ({ frames := 0, cells := 0, slots := 0, locals := 0 } : Room).slots) := by
  refine own_enter (C := ({ frames := 0, cells := 0, slots := 0, locals := 0 } : Room).cells) (S := ({ frames := 0, cells := 0, slots := 0, locals := 0 } : Room).slots) (plainFor_of_name own_pn6) ?_
  intro p e s m below meth c T0 X0 I e0
  obtain ⟨hx, hby, hml, hown, hnm, hret, hlk, hZ⟩ := I
  have N0 := Fr.nil n0
  have O0 := own_extr h0
  refine own_cast (own_ef42 m a1 p1 ch) ?_
  show own_Go _ _ _ _ T0 (mkF m 0 #[.val (.ref a1), .val (.int p1), .val (.int ch)] [])
  rw [hp1]
  show own_Go _ _ _ _ T0 (mkF m 0 #[.val (.ref a1), .val (.int 1), .val (.int ch)] [])
  have K0 := Keep.refl h0 [a1]
  obtain ⟨T1, X1, e1, st1⟩ := getS2 X0 hx hZ hown (host := "") (Or.inl (own_w220 hw)) Via.refl e0 (Sad.ext OZ) (g := (mkF m 0 #[.val (.ref a1), .val (.int 1), .val (.int ch)] [])) rfl (hb hby own_d42_0)
  refine own_st st1 ?_
  refine own_st (fun _ k => XS.ifYes X1.here hx rfl (pc0 := 3) (pc' := 28) rfl (hb hby own_d42_3) rfl ((if0 _ _).trans (feq (by decide : ¬ ((1 : Int32) = (0 : Int32)))).2) (by decide) (by decide) k) ?_
  refine own_st (fun _ k => XS.iloadN X1.here hx rfl (hb hby own_d42_28) rfl k) ?_
  refine own_st (fun _ k => XS.iconst X1.here hx rfl (hb hby own_d42_29) k) ?_
  refine own_st (fun _ k => XS.ishl X1.here hx rfl (hb hby own_d42_30) rfl k) ?_
  show own_Go _ _ _ _ T1 (mkF m 31 #[.val (.ref a1), .val (.int 1), .val (.int ch)] [(.int ((1 : Int32) <<< ((1 : Int32) &&& 31)))])
  rw [show ((1 : Int32) <<< ((1 : Int32) &&& 31)) = (2 : Int32) from by decide]
  refine own_st (fun _ k => XS.istoreN X1.here hx rfl (hb hby own_d42_31) rfl (l' := #[.val (.ref a1), .val (.int 2), .val (.int ch)]) rfl k) ?_
  refine own_st (fun _ k => XS.aloadN X1.here hx rfl (hb hby own_d42_32) rfl rfl k) ?_
  refine own_st (fun _ k => XS.iloadN X1.here hx rfl (hb hby own_d42_33) rfl k) ?_
  refine own_st (fun _ k => XS.iinc X1.here hx rfl (hb hby own_d42_34) rfl (l' := #[.val (.ref a1), .val (.int ((2 : Int32) + (1 : Int32))), .val (.int ch)]) rfl k) ?_
  show own_Go _ _ _ _ T1 (mkF m 37 #[.val (.ref a1), .val (.int ((2 : Int32) + (1 : Int32))), .val (.int ch)] [(.int 2), (.ref a1)])
  rw [show ((2 : Int32) + (1 : Int32)) = (3 : Int32) from by decide]
  refine own_st (fun _ k => XS.iloadN X1.here hx rfl (hb hby own_d42_37) rfl k) ?_
  obtain ⟨T2, X2, e2, st2⟩ := getS2 X1 hx hZ hown (host := "") (Or.inl (own_w221 hw)) Via.refl e1 (Shi.ext OZ) (g := (mkF m 38 #[.val (.ref a1), .val (.int 3), .val (.int ch)] [(.int ch), (.int 2), (.ref a1)])) rfl (hb hby own_d42_38)
  refine own_st st2 ?_
  refine own_st (fun _ k => XS.ishr X2.here hx rfl (hb hby own_d42_41) rfl k) ?_
  refine own_st (fun _ k => XS.i2b X2.here hx rfl (hb hby own_d42_42) rfl k) ?_
  obtain ⟨T3, hp3, X3, e3, W3, Va3, st3⟩ := own_stB X2 hx hZ e2 Va (by decide) 2 (by decide) (Nat.le_of_ble_eq_true rfl) (g := (mkF m 43 #[.val (.ref a1), .val (.int 3), .val (.int ch)] [(.int ((ch >>> ((0 : Int32) &&& 31)).toInt8.toInt32)), (.int 2), (.ref a1)])) rfl rfl (hb hby own_d42_43)
  have K3 := Keep.wr K0 W3 (Or.inl (List.mem_of_getElem? (i := 0) rfl))
  have zz3 := own_extw OZ W3 (Nat.le_trans zn g_a1)
  have Va3 : Arv Z hp3 a1 k1 .byte (4 : Int32) [(.int x0), (.int x1), (.int (nar .byte ((ch >>> ((0 : Int32) &&& 31)).toInt8.toInt32))), (.int 0)] (.int 0) := Va3
  have N3 := Fr.snoc X3 N0 g_a1
  refine own_st st3 ?_
  refine own_st (fun _ k => XS.aloadN X3.here hx rfl (hb hby own_d42_44) rfl rfl k) ?_
  refine own_st (fun _ k => XS.iloadN X3.here hx rfl (hb hby own_d42_45) rfl k) ?_
  show own_Go _ _ _ _ T3 (mkF m 46 #[.val (.ref a1), .val (.int 3), .val (.int ch)] [(.int 3), (.ref a1)])
  refine own_st (fun _ k => XS.iloadN X3.here hx rfl (hb hby own_d42_46) rfl k) ?_
  obtain ⟨T4, X4, e4, st4⟩ := getS2 X3 hx hZ hown (host := "") (Or.inl (own_w222 hw)) Via.refl e3 (Slo.ext zz3) (g := (mkF m 47 #[.val (.ref a1), .val (.int 3), .val (.int ch)] [(.int ch), (.int 3), (.ref a1)])) rfl (hb hby own_d42_47)
  refine own_st st4 ?_
  refine own_st (fun _ k => XS.ishr X4.here hx rfl (hb hby own_d42_50) rfl k) ?_
  refine own_st (fun _ k => XS.i2b X4.here hx rfl (hb hby own_d42_51) rfl k) ?_
  obtain ⟨T5, hp5, X5, e5, W5, Va5, st5⟩ := own_stB X4 hx hZ e4 Va3 (by decide) 3 (by decide) (Nat.le_of_ble_eq_true rfl) (g := (mkF m 52 #[.val (.ref a1), .val (.int 3), .val (.int ch)] [(.int ((ch >>> ((8 : Int32) &&& 31)).toInt8.toInt32)), (.int 3), (.ref a1)])) rfl rfl (hb hby own_d42_52)
  have K5 := Keep.wr K3 W5 (Or.inl (List.mem_of_getElem? (i := 0) rfl))
  have zz5 := own_extw zz3 W5 (Nat.le_trans zn g_a1)
  have Va5 : Arv Z hp5 a1 k1 .byte (4 : Int32) [(.int x0), (.int x1), (.int (nar .byte ((ch >>> ((0 : Int32) &&& 31)).toInt8.toInt32))), (.int (nar .byte ((ch >>> ((8 : Int32) &&& 31)).toInt8.toInt32)))] (.int 0) := Va5
  have N5 := Fr.snoc X5 N3 g_a1
  refine own_st st5 ?_
  exact own_retV X5 hx hret hlk (hb hby own_d42_53) ⟨rfl, N5, by rw [e5]; exact K5, by rw [e5]; exact Va5⟩ (by decide) (by decide)
def own_pc32_0_Q (Z : State) (a1 : Addr) (p1 ch : Int32) (k1 : ClassId) (h0 : Heap) (n0 : Nat) (v : Option Value) (h : Heap) (L : List Loc) : Prop := v = none ∧ Fr n0 L ∧ Keep h0 h [a1] ∧ Arv Z h a1 k1 .byte (32 : Int32) [(.int (own_B0 ch)), (.int (own_B1 ch)), (.int 0), (.int 0), (.int 0), (.int 0), (.int 0), (.int 0), (.int 0), (.int 0), (.int 0), (.int 0), (.int 0), (.int 0), (.int 0), (.int 0), (.int 0), (.int 0), (.int 0), (.int 0), (.int 0), (.int 0), (.int 0), (.int 0), (.int 0), (.int 0), (.int 0), (.int 0), (.int 0), (.int 0), (.int 0), (.int 0)] (.int 0)
set_option maxRecDepth 65536 in
set_option maxHeartbeats 40000000 in
theorem own_pc32_0 (l : Launch) {Z : State} {a0 : Array Value} (hw : own_W Z a0) (ws : List Jvm.Cond) (a1 : Addr) (p1 ch : Int32) (k1 : ClassId) (h0 : Heap) (n0 : Nat) (Z0 : n0 ≤ h0.size) (hp1 : p1 = 0) (zn : Z.heap.size ≤ n0) (OZ : Ext Z.heap h0) (Sad : Sta Z Z.heap "java/lang/StringUTF16" "$assertionsDisabled" "Z" (.int 1)) (Shi : Sta Z Z.heap "java/lang/StringUTF16" "HI_BYTE_SHIFT" "I" (.int 0)) (Slo : Sta Z Z.heap "java/lang/StringUTF16" "LO_BYTE_SHIFT" "I" (.int 8)) (g_a1 : n0 ≤ a1) (Va : Arv Z h0 a1 k1 .byte (32 : Int32) [(.int 0), (.int 0), (.int 0), (.int 0), (.int 0), (.int 0), (.int 0), (.int 0), (.int 0), (.int 0), (.int 0), (.int 0), (.int 0), (.int 0), (.int 0), (.int 0), (.int 0), (.int 0), (.int 0), (.int 0), (.int 0), (.int 0), (.int 0), (.int 0), (.int 0), (.int 0), (.int 0), (.int 0), (.int 0), (.int 0), (.int 0), (.int 0)] (.int 0)) :
    MetFree l (⟨"java/lang/StringUTF16", "putChar", "([BII)V"⟩ : MethodName) (head1 (Jvm.Cond.code (⟨"java/lang/StringUTF16", "putChar", "([BII)V"⟩ : MethodName) jdk_52_method_4_code 3 none :: ws) ({ frames := 0, cells := 0, slots := 0, locals := 0 } : Room)) (fun a U => a = #[(.ref a1), (.int p1), (.int ch)] ∧ Z.Warmed39 U.vm ∧ U.heap = h0) (fun _ _ _ _ _ => True) (fun _ U o U' => ∃ v L, o = .returned v ∧ own_pc32_0_Q Z a1 p1 ch k1 h0 n0 v U'.heap L ∧ FrameEnd U o U' L ({ frames := 0, cells := 0, slots := 0, locals := 0 } : Room).cells ({ frames := 0, cells := 0, slots := 0, locals := 0 } : Room).slots) := by
  refine own_enter (C := ({ frames := 0, cells := 0, slots := 0, locals := 0 } : Room).cells) (S := ({ frames := 0, cells := 0, slots := 0, locals := 0 } : Room).slots) (plainFor_of_name own_pn6) ?_
  intro p e s m below meth c T0 X0 I e0
  obtain ⟨hx, hby, hml, hown, hnm, hret, hlk, hZ⟩ := I
  have N0 := Fr.nil n0
  have O0 := own_extr h0
  refine own_cast (own_ef42 m a1 p1 ch) ?_
  show own_Go _ _ _ _ T0 (mkF m 0 #[.val (.ref a1), .val (.int p1), .val (.int ch)] [])
  rw [hp1]
  show own_Go _ _ _ _ T0 (mkF m 0 #[.val (.ref a1), .val (.int 0), .val (.int ch)] [])
  have K0 := Keep.refl h0 [a1]
  obtain ⟨T1, X1, e1, st1⟩ := getS2 X0 hx hZ hown (host := "") (Or.inl (own_w220 hw)) Via.refl e0 (Sad.ext OZ) (g := (mkF m 0 #[.val (.ref a1), .val (.int 0), .val (.int ch)] [])) rfl (hb hby own_d42_0)
  refine own_st st1 ?_
  refine own_st (fun _ k => XS.ifYes X1.here hx rfl (pc0 := 3) (pc' := 28) rfl (hb hby own_d42_3) rfl ((if0 _ _).trans (feq (by decide : ¬ ((1 : Int32) = (0 : Int32)))).2) (by decide) (by decide) k) ?_
  refine own_st (fun _ k => XS.iloadN X1.here hx rfl (hb hby own_d42_28) rfl k) ?_
  refine own_st (fun _ k => XS.iconst X1.here hx rfl (hb hby own_d42_29) k) ?_
  refine own_st (fun _ k => XS.ishl X1.here hx rfl (hb hby own_d42_30) rfl k) ?_
  show own_Go _ _ _ _ T1 (mkF m 31 #[.val (.ref a1), .val (.int 0), .val (.int ch)] [(.int ((0 : Int32) <<< ((1 : Int32) &&& 31)))])
  rw [show ((0 : Int32) <<< ((1 : Int32) &&& 31)) = (0 : Int32) from by decide]
  refine own_st (fun _ k => XS.istoreN X1.here hx rfl (hb hby own_d42_31) rfl (l' := #[.val (.ref a1), .val (.int 0), .val (.int ch)]) rfl k) ?_
  refine own_st (fun _ k => XS.aloadN X1.here hx rfl (hb hby own_d42_32) rfl rfl k) ?_
  refine own_st (fun _ k => XS.iloadN X1.here hx rfl (hb hby own_d42_33) rfl k) ?_
  refine own_st (fun _ k => XS.iinc X1.here hx rfl (hb hby own_d42_34) rfl (l' := #[.val (.ref a1), .val (.int ((0 : Int32) + (1 : Int32))), .val (.int ch)]) rfl k) ?_
  show own_Go _ _ _ _ T1 (mkF m 37 #[.val (.ref a1), .val (.int ((0 : Int32) + (1 : Int32))), .val (.int ch)] [(.int 0), (.ref a1)])
  rw [show ((0 : Int32) + (1 : Int32)) = (1 : Int32) from by decide]
  refine own_st (fun _ k => XS.iloadN X1.here hx rfl (hb hby own_d42_37) rfl k) ?_
  obtain ⟨T2, X2, e2, st2⟩ := getS2 X1 hx hZ hown (host := "") (Or.inl (own_w221 hw)) Via.refl e1 (Shi.ext OZ) (g := (mkF m 38 #[.val (.ref a1), .val (.int 1), .val (.int ch)] [(.int ch), (.int 0), (.ref a1)])) rfl (hb hby own_d42_38)
  refine own_st st2 ?_
  refine own_st (fun _ k => XS.ishr X2.here hx rfl (hb hby own_d42_41) rfl k) ?_
  refine own_st (fun _ k => XS.i2b X2.here hx rfl (hb hby own_d42_42) rfl k) ?_
  obtain ⟨T3, hp3, X3, e3, W3, Va3, st3⟩ := own_stB X2 hx hZ e2 Va (by decide) 0 (by decide) (Nat.le_of_ble_eq_true rfl) (g := (mkF m 43 #[.val (.ref a1), .val (.int 1), .val (.int ch)] [(.int ((ch >>> ((0 : Int32) &&& 31)).toInt8.toInt32)), (.int 0), (.ref a1)])) rfl rfl (hb hby own_d42_43)
  have K3 := Keep.wr K0 W3 (Or.inl (List.mem_of_getElem? (i := 0) rfl))
  have zz3 := own_extw OZ W3 (Nat.le_trans zn g_a1)
  have Va3 : Arv Z hp3 a1 k1 .byte (32 : Int32) [(.int (nar .byte ((ch >>> ((0 : Int32) &&& 31)).toInt8.toInt32))), (.int 0), (.int 0), (.int 0), (.int 0), (.int 0), (.int 0), (.int 0), (.int 0), (.int 0), (.int 0), (.int 0), (.int 0), (.int 0), (.int 0), (.int 0), (.int 0), (.int 0), (.int 0), (.int 0), (.int 0), (.int 0), (.int 0), (.int 0), (.int 0), (.int 0), (.int 0), (.int 0), (.int 0), (.int 0), (.int 0), (.int 0)] (.int 0) := Va3
  have N3 := Fr.snoc X3 N0 g_a1
  refine own_st st3 ?_
  refine own_st (fun _ k => XS.aloadN X3.here hx rfl (hb hby own_d42_44) rfl rfl k) ?_
  refine own_st (fun _ k => XS.iloadN X3.here hx rfl (hb hby own_d42_45) rfl k) ?_
  show own_Go _ _ _ _ T3 (mkF m 46 #[.val (.ref a1), .val (.int 1), .val (.int ch)] [(.int 1), (.ref a1)])
  refine own_st (fun _ k => XS.iloadN X3.here hx rfl (hb hby own_d42_46) rfl k) ?_
  obtain ⟨T4, X4, e4, st4⟩ := getS2 X3 hx hZ hown (host := "") (Or.inl (own_w222 hw)) Via.refl e3 (Slo.ext zz3) (g := (mkF m 47 #[.val (.ref a1), .val (.int 1), .val (.int ch)] [(.int ch), (.int 1), (.ref a1)])) rfl (hb hby own_d42_47)
  refine own_st st4 ?_
  refine own_st (fun _ k => XS.ishr X4.here hx rfl (hb hby own_d42_50) rfl k) ?_
  refine own_st (fun _ k => XS.i2b X4.here hx rfl (hb hby own_d42_51) rfl k) ?_
  obtain ⟨T5, hp5, X5, e5, W5, Va5, st5⟩ := own_stB X4 hx hZ e4 Va3 (by decide) 1 (by decide) (Nat.le_of_ble_eq_true rfl) (g := (mkF m 52 #[.val (.ref a1), .val (.int 1), .val (.int ch)] [(.int ((ch >>> ((8 : Int32) &&& 31)).toInt8.toInt32)), (.int 1), (.ref a1)])) rfl rfl (hb hby own_d42_52)
  have K5 := Keep.wr K3 W5 (Or.inl (List.mem_of_getElem? (i := 0) rfl))
  have zz5 := own_extw zz3 W5 (Nat.le_trans zn g_a1)
  have Va5 : Arv Z hp5 a1 k1 .byte (32 : Int32) [(.int (nar .byte ((ch >>> ((0 : Int32) &&& 31)).toInt8.toInt32))), (.int (nar .byte ((ch >>> ((8 : Int32) &&& 31)).toInt8.toInt32))), (.int 0), (.int 0), (.int 0), (.int 0), (.int 0), (.int 0), (.int 0), (.int 0), (.int 0), (.int 0), (.int 0), (.int 0), (.int 0), (.int 0), (.int 0), (.int 0), (.int 0), (.int 0), (.int 0), (.int 0), (.int 0), (.int 0), (.int 0), (.int 0), (.int 0), (.int 0), (.int 0), (.int 0), (.int 0), (.int 0)] (.int 0) := Va5
  have N5 := Fr.snoc X5 N3 g_a1
  refine own_st st5 ?_
  exact own_retV X5 hx hret hlk (hb hby own_d42_53) ⟨rfl, N5, by rw [e5]; exact K5, by rw [e5]; exact Va5⟩ (by decide) (by decide)
def own_tob_Q (Z : State) (ch : Int32) (h0 : Heap) (n0 : Nat) (v : Option Value) (h : Heap) (L : List Loc) : Prop := ∃ b k, v = some (.ref b) ∧ Fr n0 L ∧ Ext h0 h ∧ n0 ≤ b ∧ h0.size ≤ b ∧ Arv Z h b k .byte (1 : Int32) [(.int (own_Bl ch))] (.int 0)
set_option maxRecDepth 65536 in
set_option maxHeartbeats 40000000 in
theorem own_tob (l : Launch) {Z : State} {a0 : Array Value} (hw : own_W Z a0) (ws : List Jvm.Cond) (ch : Int32) (h0 : Heap) (n0 : Nat) (Z0 : n0 ≤ h0.size)  :
    MetFree l (⟨"java/lang/StringLatin1", "toBytes", "(C)[B"⟩ : MethodName) (head1 (Jvm.Cond.code (⟨"java/lang/StringLatin1", "toBytes", "(C)[B"⟩ : MethodName) jdk_43_method_46_code 1 (some (.array .byte)) :: ws) ({ frames := 0, cells := 1, slots := 1, locals := 0 } : Room)) (fun a U => a = #[(.int ch)] ∧ Z.Warmed39 U.vm ∧ U.heap = h0) (fun _ _ _ _ _ => True) (fun _ U o U' => ∃ v L, o = .returned v ∧ own_tob_Q Z ch h0 n0 v U'.heap L ∧ FrameEnd U o U' L ({ frames := 0, cells := 1, slots := 1, locals := 0 } : Room).cells ({ frames := 0, cells := 1, slots := 1, locals := 0 } : Room).slots) := by
  refine own_enter (C := ({ frames := 0, cells := 1, slots := 1, locals := 0 } : Room).cells) (S := ({ frames := 0, cells := 1, slots := 1, locals := 0 } : Room).slots) (plainFor_of_name own_pn7) ?_
  intro p e s m below meth c T0 X0 I e0
  obtain ⟨hx, hby, hml, hown, hnm, hret, hlk, hZ⟩ := I
  have N0 := Fr.nil n0
  have O0 := own_extr h0
  refine own_cast (own_ef31 m ch) ?_
  show own_Go _ _ _ _ T0 (mkF m 0 #[.val (.int ch)] [])
  refine own_st (fun _ k => XS.iconst X0.here hx rfl (hb hby own_d31_0) k) ?_
  obtain ⟨T1, hp1, kk1, X1, e1, Et1, A1, st1⟩ := newP X0 hx hZ (aty := .byte) (own_w24 hw) e0 (g := (mkF m 1 #[.val (.int ch)] [(.int 1)])) rfl (hb hby own_d31_1) rfl (by decide) (cap := 1) (by decide) (by decide) (by decide) (by decide)
  obtain ⟨b1, g1⟩ : ∃ z, z = h0.size := ⟨_, rfl⟩
  rw [← g1] at A1 st1
  have s_b1 : h0.size ≤ b1 := Nat.le_trans O0.1 (Nat.le_of_eq g1.symm)
  have g_b1 : n0 ≤ b1 := Nat.le_trans Z0 s_b1
  have O1 := own_extt O0 Et1
  have Va1 : Arv Z hp1 b1 kk1 .byte (1 : Int32) [(.int 0)] (.int 0) := (Arv.new A1 (by decide)).pad (pad_rep [] (.int 0) 1)
  refine own_st st1 ?_
  refine own_st (fun _ k => XS.dup X1.here hx rfl (hb hby own_d31_3) rfl rfl k) ?_
  refine own_st (fun _ k => XS.iconst X1.here hx rfl (hb hby own_d31_4) k) ?_
  refine own_st (fun _ k => XS.iloadN X1.here hx rfl (hb hby own_d31_5) rfl k) ?_
  refine own_st (fun _ k => XS.i2b X1.here hx rfl (hb hby own_d31_6) rfl k) ?_
  obtain ⟨T2, hp2, X2, e2, W2, Va2, st2⟩ := own_stB X1 hx hZ e1 Va1 (by decide) 0 (by decide) (Nat.le_of_ble_eq_true rfl) (g := (mkF m 7 #[.val (.int ch)] [(.int (ch.toInt8.toInt32)), (.int 0), (.ref b1), (.ref b1)])) rfl rfl (hb hby own_d31_7)
  have O2 := own_extw O1 W2 s_b1
  have Va2 : Arv Z hp2 b1 kk1 .byte (1 : Int32) [(.int (nar .byte (ch.toInt8.toInt32)))] (.int 0) := Va2
  have N2 := Fr.snoc X2 N0 g_b1
  refine own_st st2 ?_
  exact own_retA X2 hx hret rfl hlk rfl (hb hby own_d31_8) ⟨b1, _, rfl, N2, by rw [e2]; exact O2, g_b1, s_b1, by rw [e2]; exact Va2⟩ (by decide) (by decide)
def own_tou_Q (Z : State) (ch : Int32) (h0 : Heap) (n0 : Nat) (v : Option Value) (h : Heap) (L : List Loc) : Prop := ∃ b k, v = some (.ref b) ∧ Fr n0 L ∧ Ext h0 h ∧ n0 ≤ b ∧ h0.size ≤ b ∧ Arv Z h b k .byte (2 : Int32) [(.int (own_B0 ch)), (.int (own_B1 ch))] (.int 0)
set_option maxRecDepth 65536 in
set_option maxHeartbeats 40000000 in
theorem own_tou (l : Launch) {Z : State} {a0 : Array Value} (hw : own_W Z a0) (ws : List Jvm.Cond) (ch : Int32) (h0 : Heap) (n0 : Nat) (Z0 : n0 ≤ h0.size) (zn : Z.heap.size ≤ n0) (OZ : Ext Z.heap h0) (Sad : Sta Z Z.heap "java/lang/StringUTF16" "$assertionsDisabled" "Z" (.int 1)) (Shi : Sta Z Z.heap "java/lang/StringUTF16" "HI_BYTE_SHIFT" "I" (.int 0)) (Slo : Sta Z Z.heap "java/lang/StringUTF16" "LO_BYTE_SHIFT" "I" (.int 8)) :
    MetFree l (⟨"java/lang/StringUTF16", "toBytes", "(C)[B"⟩ : MethodName) (head1 (Jvm.Cond.code (⟨"java/lang/StringUTF16", "toBytes", "(C)[B"⟩ : MethodName) jdk_52_method_24_code 2 (some (.array .byte)) :: ws) ({ frames := 1, cells := 1, slots := 2, locals := 14 } : Room)) (fun a U => a = #[(.int ch)] ∧ Z.Warmed39 U.vm ∧ U.heap = h0) (fun _ _ _ _ _ => True) (fun _ U o U' => ∃ v L, o = .returned v ∧ own_tou_Q Z ch h0 n0 v U'.heap L ∧ FrameEnd U o U' L ({ frames := 1, cells := 1, slots := 2, locals := 14 } : Room).cells ({ frames := 1, cells := 1, slots := 2, locals := 14 } : Room).slots) := by
  refine own_enter (C := ({ frames := 1, cells := 1, slots := 2, locals := 14 } : Room).cells) (S := ({ frames := 1, cells := 1, slots := 2, locals := 14 } : Room).slots) (plainFor_of_name own_pn6) ?_
  intro p e s m below meth c T0 X0 I e0
  obtain ⟨hx, hby, hml, hown, hnm, hret, hlk, hZ⟩ := I
  have N0 := Fr.nil n0
  have O0 := own_extr h0
  refine own_cast (own_ef56 m ch) ?_
  show own_Go _ _ _ _ T0 (mkF m 0 #[.val (.int ch), .unset] [])
  refine own_st (fun _ k => XS.iconst X0.here hx rfl (hb hby own_d56_0) k) ?_
  obtain ⟨T1, hp1, kk1, X1, e1, Et1, A1, st1⟩ := newP X0 hx hZ (aty := .byte) (own_w24 hw) e0 (g := (mkF m 1 #[.val (.int ch), .unset] [(.int 2)])) rfl (hb hby own_d56_1) rfl (by decide) (cap := 2) (by decide) (by decide) (by decide) (by decide)
  obtain ⟨b1, g1⟩ : ∃ z, z = h0.size := ⟨_, rfl⟩
  rw [← g1] at A1 st1
  have s_b1 : h0.size ≤ b1 := Nat.le_trans O0.1 (Nat.le_of_eq g1.symm)
  have g_b1 : n0 ≤ b1 := Nat.le_trans Z0 s_b1
  have O1 := own_extt O0 Et1
  have Va1 : Arv Z hp1 b1 kk1 .byte (2 : Int32) [(.int 0), (.int 0)] (.int 0) := (Arv.new A1 (by decide)).pad (pad_rep [] (.int 0) 2)
  refine own_st st1 ?_
  refine own_st (fun _ k => XS.astoreN X1.here hx rfl (hb hby own_d56_3) rfl rfl (l' := #[.val (.int ch), .val (.ref b1)]) rfl k) ?_
  refine own_st (fun _ k => XS.aloadN X1.here hx rfl (hb hby own_d56_4) rfl rfl k) ?_
  refine own_st (fun _ k => XS.iconst X1.here hx rfl (hb hby own_d56_5) k) ?_
  refine own_st (fun _ k => XS.iloadN X1.here hx rfl (hb hby own_d56_6) rfl k) ?_
  obtain ⟨v2, T2, L2, hQ2, X2, st2⟩ := own_callS X1 hx hZ (y := (⟨"java/lang/StringUTF16", "putChar", "([BII)V"⟩ : MethodName)) hown (own_w217 hw) (own_w218 hw) (own_w211 hw) (own_w219 hw) (by decide) (own_pc2_0 l hw [] b1 (0 : Int32) ch kk1  hp1 n0 (Nat.le_trans Z0 O1.1) rfl zn (own_extt OZ O1) Sad Shi Slo g_b1 Va1) e1 (g := (mkF m 7 #[.val (.int ch), .val (.ref b1)] [(.int ch), (.int 0), (.ref b1)])) rfl (by rw [hml]; rfl) (argsL := [(.ref b1), (.int 0), (.int ch)]) (rest := []) (lenOf own_pd8 rfl) rfl rfl (W := 0) (Nat.le_of_eq rfl) (hb hby own_d56_7) (by decide) (by decide) (by decide) (by decide)
  obtain ⟨rfl, N2, K2, Vp2⟩ := hQ2
  have O2 := own_extkl O1 K2 (allS s_b1 all0)
  have N2' := Fr.app N0 N2
  refine own_st st2 ?_
  refine own_st (fun _ k => XS.aloadN X2.here hx rfl (hb hby own_d56_10) rfl rfl k) ?_
  show own_Go _ _ _ _ T2 (mkF m 11 #[.val (.int ch), .val (.ref b1)] [(.ref b1)])
  exact own_retA X2 hx hret rfl hlk rfl (hb hby own_d56_11) ⟨b1, _, rfl, N2', O2, g_b1, s_b1, Vp2⟩ (by decide) (by decide)
def own_to4_Q (Z : State) (cp : Int32) (h0 : Heap) (n0 : Nat) (v : Option Value) (h : Heap) (L : List Loc) : Prop := ∃ b k, v = some (.ref b) ∧ Fr n0 L ∧ Ext h0 h ∧ n0 ≤ b ∧ h0.size ≤ b ∧ Arv Z h b k .byte (4 : Int32) [(.int (own_B0 (own_HS cp))), (.int (own_B1 (own_HS cp))), (.int (own_B0 (own_LS cp))), (.int (own_B1 (own_LS cp)))] (.int 0)
set_option maxRecDepth 65536 in
set_option maxHeartbeats 40000000 in
theorem own_to4 (l : Launch) {Z : State} {a0 : Array Value} (hw : own_W Z a0) (ws : List Jvm.Cond) (cp : Int32) (h0 : Heap) (n0 : Nat) (Z0 : n0 ≤ h0.size) (zn : Z.heap.size ≤ n0) (OZ : Ext Z.heap h0) (Sad : Sta Z Z.heap "java/lang/StringUTF16" "$assertionsDisabled" "Z" (.int 1)) (Shi : Sta Z Z.heap "java/lang/StringUTF16" "HI_BYTE_SHIFT" "I" (.int 0)) (Slo : Sta Z Z.heap "java/lang/StringUTF16" "LO_BYTE_SHIFT" "I" (.int 8)) :
    MetFree l (⟨"java/lang/StringUTF16", "toBytesSupplementary", "(I)[B"⟩ : MethodName) (head1 (Jvm.Cond.code (⟨"java/lang/StringUTF16", "toBytesSupplementary", "(I)[B"⟩ : MethodName) jdk_52_method_25_code 2 (some (.array .byte)) :: ws) ({ frames := 1, cells := 1, slots := 4, locals := 14 } : Room)) (fun a U => a = #[(.int cp)] ∧ Z.Warmed39 U.vm ∧ U.heap = h0) (fun _ _ _ _ _ => True) (fun _ U o U' => ∃ v L, o = .returned v ∧ own_to4_Q Z cp h0 n0 v U'.heap L ∧ FrameEnd U o U' L ({ frames := 1, cells := 1, slots := 4, locals := 14 } : Room).cells ({ frames := 1, cells := 1, slots := 4, locals := 14 } : Room).slots) := by
  refine own_enter (C := ({ frames := 1, cells := 1, slots := 4, locals := 14 } : Room).cells) (S := ({ frames := 1, cells := 1, slots := 4, locals := 14 } : Room).slots) (plainFor_of_name own_pn6) ?_
  intro p e s m below meth c T0 X0 I e0
  obtain ⟨hx, hby, hml, hown, hnm, hret, hlk, hZ⟩ := I
  have N0 := Fr.nil n0
  have O0 := own_extr h0
  refine own_cast (own_ef40 m cp) ?_
  show own_Go _ _ _ _ T0 (mkF m 0 #[.val (.int cp), .unset] [])
  refine own_st (fun _ k => XS.iconst X0.here hx rfl (hb hby own_d40_0) k) ?_
  obtain ⟨T1, hp1, kk1, X1, e1, Et1, A1, st1⟩ := newP X0 hx hZ (aty := .byte) (own_w24 hw) e0 (g := (mkF m 1 #[.val (.int cp), .unset] [(.int 4)])) rfl (hb hby own_d40_1) rfl (by decide) (cap := 4) (by decide) (by decide) (by decide) (by decide)
  obtain ⟨b1, g1⟩ : ∃ z, z = h0.size := ⟨_, rfl⟩
  rw [← g1] at A1 st1
  have s_b1 : h0.size ≤ b1 := Nat.le_trans O0.1 (Nat.le_of_eq g1.symm)
  have g_b1 : n0 ≤ b1 := Nat.le_trans Z0 s_b1
  have O1 := own_extt O0 Et1
  have Va1 : Arv Z hp1 b1 kk1 .byte (4 : Int32) [(.int 0), (.int 0), (.int 0), (.int 0)] (.int 0) := (Arv.new A1 (by decide)).pad (pad_rep [] (.int 0) 4)
  refine own_st st1 ?_
  refine own_st (fun _ k => XS.astoreN X1.here hx rfl (hb hby own_d40_3) rfl rfl (l' := #[.val (.int cp), .val (.ref b1)]) rfl k) ?_
  refine own_st (fun _ k => XS.aloadN X1.here hx rfl (hb hby own_d40_4) rfl rfl k) ?_
  refine own_st (fun _ k => XS.iconst X1.here hx rfl (hb hby own_d40_5) k) ?_
  refine own_st (fun _ k => XS.iloadN X1.here hx rfl (hb hby own_d40_6) rfl k) ?_
  obtain ⟨v2, T2, L2, hQ2, X2, st2⟩ := own_callS X1 hx hZ (y := (⟨"java/lang/Character", "highSurrogate", "(I)C"⟩ : MethodName)) hown (own_w213 hw) (own_w214 hw) (own_w160 hw) (own_w215 hw) (by decide) (own_hs l hw [] cp hp1 n0 (Nat.le_trans Z0 O1.1) ) e1 (g := (mkF m 7 #[.val (.int cp), .val (.ref b1)] [(.int cp), (.int 0), (.ref b1)])) rfl (by rw [hml]; rfl) (argsL := [(.int cp)]) (rest := [(.int 0), (.ref b1)]) (lenOf own_pd9 rfl) rfl rfl (W := 2) (Nat.le_of_eq rfl) (hb hby own_d40_7) (by decide) (by decide) (by decide) (by decide)
  obtain ⟨rfl, N2, e2⟩ := hQ2
  have N2' := Fr.app N0 N2
  refine own_st st2 ?_
  obtain ⟨v3, T3, L3, hQ3, X3, st3⟩ := own_callS X2 hx hZ (y := (⟨"java/lang/StringUTF16", "putChar", "([BII)V"⟩ : MethodName)) hown (own_w217 hw) (own_w218 hw) (own_w211 hw) (own_w219 hw) (by decide) (own_pc4_0 l hw [] b1 (0 : Int32) (own_HS cp) kk1  hp1 n0 (Nat.le_trans Z0 O1.1) rfl zn (own_extt OZ O1) Sad Shi Slo g_b1 Va1) e2 (g := (mkF m 10 #[.val (.int cp), .val (.ref b1)] [(.int (own_HS cp)), (.int 0), (.ref b1)])) rfl (by rw [hml]; rfl) (argsL := [(.ref b1), (.int 0), (.int (own_HS cp))]) (rest := []) (lenOf own_pd8 rfl) rfl rfl (W := 0) (Nat.le_of_eq rfl) (hb hby own_d40_10) (by decide) (by decide) (by decide) (by decide)
  obtain ⟨rfl, N3, K3, Vp3⟩ := hQ3
  have O3 := own_extkl O1 K3 (allS s_b1 all0)
  have N3' := Fr.app N2' N3
  refine own_st st3 ?_
  show own_Go _ _ _ _ T3 (mkF m 13 #[.val (.int cp), .val (.ref b1)] [])
  refine own_st (fun _ k => XS.aloadN X3.here hx rfl (hb hby own_d40_13) rfl rfl k) ?_
  refine own_st (fun _ k => XS.iconst X3.here hx rfl (hb hby own_d40_14) k) ?_
  refine own_st (fun _ k => XS.iloadN X3.here hx rfl (hb hby own_d40_15) rfl k) ?_
  obtain ⟨v4, T4, L4, hQ4, X4, st4⟩ := own_callS X3 hx hZ (y := (⟨"java/lang/Character", "lowSurrogate", "(I)C"⟩ : MethodName)) hown (own_w223 hw) (own_w224 hw) (own_w160 hw) (own_w225 hw) (by decide) (own_ls l hw [] cp T3.heap n0 (Nat.le_trans Z0 O3.1) ) rfl (g := (mkF m 16 #[.val (.int cp), .val (.ref b1)] [(.int cp), (.int 1), (.ref b1)])) rfl (by rw [hml]; rfl) (argsL := [(.int cp)]) (rest := [(.int 1), (.ref b1)]) (lenOf own_pd9 rfl) rfl rfl (W := 2) (Nat.le_of_eq rfl) (hb hby own_d40_16) (by decide) (by decide) (by decide) (by decide)
  obtain ⟨rfl, N4, e4⟩ := hQ4
  have N4' := Fr.app N3' N4
  refine own_st st4 ?_
  obtain ⟨v5, T5, L5, hQ5, X5, st5⟩ := own_callS X4 hx hZ (y := (⟨"java/lang/StringUTF16", "putChar", "([BII)V"⟩ : MethodName)) hown (own_w217 hw) (own_w218 hw) (own_w211 hw) (own_w219 hw) (by decide) (own_pc4_1 l hw [] b1 (1 : Int32) (own_LS cp) kk1 (own_B0 (own_HS cp)) (own_B1 (own_HS cp)) T3.heap n0 (Nat.le_trans Z0 O3.1) rfl zn (own_extt OZ O3) Sad Shi Slo g_b1 Vp3) e4 (g := (mkF m 19 #[.val (.int cp), .val (.ref b1)] [(.int (own_LS cp)), (.int 1), (.ref b1)])) rfl (by rw [hml]; rfl) (argsL := [(.ref b1), (.int 1), (.int (own_LS cp))]) (rest := []) (lenOf own_pd8 rfl) rfl rfl (W := 0) (Nat.le_of_eq rfl) (hb hby own_d40_19) (by decide) (by decide) (by decide) (by decide)
  obtain ⟨rfl, N5, K5, Vp5⟩ := hQ5
  have O5 := own_extkl O3 K5 (allS s_b1 all0)
  have N5' := Fr.app N4' N5
  refine own_st st5 ?_
  refine own_st (fun _ k => XS.aloadN X5.here hx rfl (hb hby own_d40_22) rfl rfl k) ?_
  exact own_retA X5 hx hret rfl hlk rfl (hb hby own_d40_23) ⟨b1, _, rfl, N5', O5, g_b1, s_b1, Vp5⟩ (by decide) (by decide)
def own_si0_Q (Z : State) (a1 a2 : Addr) (p2 : Int32) (h0 : Heap) (n0 : Nat) (v : Option Value) (h : Heap) (L : List Loc) : Prop := v = none ∧ Fr n0 L ∧ Keep h0 h [a1] ∧ Fld Z h a1 "java/lang/String" "value" "[B" (.ref a2) ∧ Fld Z h a1 "java/lang/String" "coder" "B" (.int 0)
set_option maxRecDepth 65536 in
set_option maxHeartbeats 40000000 in
theorem own_si0 (l : Launch) {Z : State} {a0 : Array Value} (hw : own_W Z a0) (ws : List Jvm.Cond) (a1 a2 : Addr) (p2 : Int32) (h0 : Heap) (n0 : Nat) (Z0 : n0 ≤ h0.size) (hp2 : p2 = 0) (g_a1 : n0 ≤ a1) (Ea : Exa Z h0 a1 "java/lang/String") (Fv : Fld Z h0 a1 "java/lang/String" "value" "[B" .null) (Fc : Fld Z h0 a1 "java/lang/String" "coder" "B" (.int 0)) :
    MetFree l (⟨"java/lang/String", "<init>", "([BB)V"⟩ : MethodName) (head1 (Jvm.Cond.code (⟨"java/lang/String", "<init>", "([BB)V"⟩ : MethodName) jdk_42_method_151_code 3 none :: ws) ({ frames := 1, cells := 0, slots := 0, locals := 12 } : Room)) (fun a U => a = #[(.ref a1), (.ref a2), (.int p2)] ∧ Z.Warmed39 U.vm ∧ U.heap = h0) (fun _ _ _ _ _ => True) (fun _ U o U' => ∃ v L, o = .returned v ∧ own_si0_Q Z a1 a2 p2 h0 n0 v U'.heap L ∧ FrameEnd U o U' L ({ frames := 1, cells := 0, slots := 0, locals := 12 } : Room).cells ({ frames := 1, cells := 0, slots := 0, locals := 12 } : Room).slots) := by
  refine own_enter (C := ({ frames := 1, cells := 0, slots := 0, locals := 12 } : Room).cells) (S := ({ frames := 1, cells := 0, slots := 0, locals := 12 } : Room).slots) (plainFor_of_name own_pn2) ?_
  intro p e s m below meth c T0 X0 I e0
  obtain ⟨hx, hby, hml, hown, hnm, hret, hlk, hZ⟩ := I
  have N0 := Fr.nil n0
  have O0 := own_extr h0
  refine own_cast (own_ef32 m a1 a2 p2) ?_
  show own_Go _ _ _ _ T0 (mkF m 0 #[.val (.ref a1), .val (.ref a2), .val (.int p2)] [])
  rw [hp2]
  show own_Go _ _ _ _ T0 (mkF m 0 #[.val (.ref a1), .val (.ref a2), .val (.int 0)] [])
  have K0 := Keep.refl h0 [a1]
  refine own_st (fun _ k => XS.aloadN X0.here hx rfl (hb hby own_d32_0) rfl rfl k) ?_
  obtain ⟨T1, X1, e1, st1⟩ := initO X0 hx hZ hown (own_w111 hw) (own_w12 hw) (own_w13 hw) e0 (g := (mkF m 1 #[.val (.ref a1), .val (.ref a2), .val (.int 0)] [(.ref a1)])) rfl (by rw [hml]; rfl) rfl (hb hby own_d32_1) (by decide) (W := 0) (Nat.le_of_eq rfl) (by decide)
  refine own_st st1 ?_
  refine own_st (fun _ k => XS.aloadN X1.here hx rfl (hb hby own_d32_4) rfl rfl k) ?_
  refine own_st (fun _ k => XS.aloadN X1.here hx rfl (hb hby own_d32_5) rfl rfl k) ?_
  obtain ⟨T2, hp2, X2, e2, W2, st2⟩ := putF X1 hx hZ hown (host := "") (Or.inl (own_w63 hw)) Via.refl e1 Fv Ea (Or.inr ⟨(own_w25 hw), rfl, hnm⟩) (own_w23 hw) (ty := (.array .byte)) (by decide) rfl rfl (g := (mkF m 6 #[.val (.ref a1), .val (.ref a2), .val (.int 0)] [(.ref a2), (.ref a1)])) rfl rfl (hb hby own_d32_6)
  have K2 := Keep.wr K0 W2 (Or.inl (List.mem_of_getElem? (i := 0) rfl))
  have Ex_a1_2 := Ea.wr W2
  have F_coder_a1_2 := Fc.other W2 (Or.inr (slot_ne (Or.inr (own_w26 hw)) (Or.inr (own_w25 hw)) (by decide) (t := .byte) (t' := (.array .byte)) (by decide) (by decide)))
  have F_value_a1_2 := Fv.same W2
  have N2 := Fr.snoc X2 N0 g_a1
  refine own_st st2 ?_
  refine own_st (fun _ k => XS.aloadN X2.here hx rfl (hb hby own_d32_9) rfl rfl k) ?_
  refine own_st (fun _ k => XS.iloadN X2.here hx rfl (hb hby own_d32_10) rfl k) ?_
  obtain ⟨T3, hp3, X3, e3, W3, st3⟩ := putFN X2 hx hZ hown (own_w70 hw) Via.refl e2 F_coder_a1_2 Ex_a1_2 (Or.inr ⟨(own_w26 hw), rfl, hnm⟩) (own_w23 hw) (ty := .byte) (v' := (.int 0)) (by decide) rfl (by decide) (g := (mkF m 11 #[.val (.ref a1), .val (.ref a2), .val (.int 0)] [(.int 0), (.ref a1)])) rfl rfl (hb hby own_d32_11)
  have K3 := Keep.wr K2 W3 (Or.inl (List.mem_of_getElem? (i := 0) rfl))
  have Ex_a1_3 := Ex_a1_2.wr W3
  have F_value_a1_3 := F_value_a1_2.other W3 (Or.inr (slot_ne (Or.inr (own_w25 hw)) (Or.inr (own_w26 hw)) (by decide) (t := (.array .byte)) (t' := .byte) (by decide) (by decide)))
  have F_coder_a1_3 := F_coder_a1_2.same W3
  have N3 := Fr.snoc X3 N2 g_a1
  refine own_st st3 ?_
  show own_Go _ _ _ _ T3 (mkF m 14 #[.val (.ref a1), .val (.ref a2), .val (.int 0)] [])
  exact own_retV X3 hx hret hlk (hb hby own_d32_14) ⟨rfl, N3, by rw [e3]; exact K3, by rw [e3]; exact F_value_a1_3, by rw [e3]; exact F_coder_a1_3⟩ (by decide) (by decide)
def own_si1_Q (Z : State) (a1 a2 : Addr) (p2 : Int32) (h0 : Heap) (n0 : Nat) (v : Option Value) (h : Heap) (L : List Loc) : Prop := v = none ∧ Fr n0 L ∧ Keep h0 h [a1] ∧ Fld Z h a1 "java/lang/String" "value" "[B" (.ref a2) ∧ Fld Z h a1 "java/lang/String" "coder" "B" (.int 1)
set_option maxRecDepth 65536 in
set_option maxHeartbeats 40000000 in
theorem own_si1 (l : Launch) {Z : State} {a0 : Array Value} (hw : own_W Z a0) (ws : List Jvm.Cond) (a1 a2 : Addr) (p2 : Int32) (h0 : Heap) (n0 : Nat) (Z0 : n0 ≤ h0.size) (hp2 : p2 = 1) (g_a1 : n0 ≤ a1) (Ea : Exa Z h0 a1 "java/lang/String") (Fv : Fld Z h0 a1 "java/lang/String" "value" "[B" .null) (Fc : Fld Z h0 a1 "java/lang/String" "coder" "B" (.int 0)) :
    MetFree l (⟨"java/lang/String", "<init>", "([BB)V"⟩ : MethodName) (head1 (Jvm.Cond.code (⟨"java/lang/String", "<init>", "([BB)V"⟩ : MethodName) jdk_42_method_151_code 3 none :: ws) ({ frames := 1, cells := 0, slots := 0, locals := 12 } : Room)) (fun a U => a = #[(.ref a1), (.ref a2), (.int p2)] ∧ Z.Warmed39 U.vm ∧ U.heap = h0) (fun _ _ _ _ _ => True) (fun _ U o U' => ∃ v L, o = .returned v ∧ own_si1_Q Z a1 a2 p2 h0 n0 v U'.heap L ∧ FrameEnd U o U' L ({ frames := 1, cells := 0, slots := 0, locals := 12 } : Room).cells ({ frames := 1, cells := 0, slots := 0, locals := 12 } : Room).slots) := by
  refine own_enter (C := ({ frames := 1, cells := 0, slots := 0, locals := 12 } : Room).cells) (S := ({ frames := 1, cells := 0, slots := 0, locals := 12 } : Room).slots) (plainFor_of_name own_pn2) ?_
  intro p e s m below meth c T0 X0 I e0
  obtain ⟨hx, hby, hml, hown, hnm, hret, hlk, hZ⟩ := I
  have N0 := Fr.nil n0
  have O0 := own_extr h0
  refine own_cast (own_ef32 m a1 a2 p2) ?_
  show own_Go _ _ _ _ T0 (mkF m 0 #[.val (.ref a1), .val (.ref a2), .val (.int p2)] [])
  rw [hp2]
  show own_Go _ _ _ _ T0 (mkF m 0 #[.val (.ref a1), .val (.ref a2), .val (.int 1)] [])
  have K0 := Keep.refl h0 [a1]
  refine own_st (fun _ k => XS.aloadN X0.here hx rfl (hb hby own_d32_0) rfl rfl k) ?_
  obtain ⟨T1, X1, e1, st1⟩ := initO X0 hx hZ hown (own_w111 hw) (own_w12 hw) (own_w13 hw) e0 (g := (mkF m 1 #[.val (.ref a1), .val (.ref a2), .val (.int 1)] [(.ref a1)])) rfl (by rw [hml]; rfl) rfl (hb hby own_d32_1) (by decide) (W := 0) (Nat.le_of_eq rfl) (by decide)
  refine own_st st1 ?_
  refine own_st (fun _ k => XS.aloadN X1.here hx rfl (hb hby own_d32_4) rfl rfl k) ?_
  refine own_st (fun _ k => XS.aloadN X1.here hx rfl (hb hby own_d32_5) rfl rfl k) ?_
  obtain ⟨T2, hp2, X2, e2, W2, st2⟩ := putF X1 hx hZ hown (host := "") (Or.inl (own_w63 hw)) Via.refl e1 Fv Ea (Or.inr ⟨(own_w25 hw), rfl, hnm⟩) (own_w23 hw) (ty := (.array .byte)) (by decide) rfl rfl (g := (mkF m 6 #[.val (.ref a1), .val (.ref a2), .val (.int 1)] [(.ref a2), (.ref a1)])) rfl rfl (hb hby own_d32_6)
  have K2 := Keep.wr K0 W2 (Or.inl (List.mem_of_getElem? (i := 0) rfl))
  have Ex_a1_2 := Ea.wr W2
  have F_coder_a1_2 := Fc.other W2 (Or.inr (slot_ne (Or.inr (own_w26 hw)) (Or.inr (own_w25 hw)) (by decide) (t := .byte) (t' := (.array .byte)) (by decide) (by decide)))
  have F_value_a1_2 := Fv.same W2
  have N2 := Fr.snoc X2 N0 g_a1
  refine own_st st2 ?_
  refine own_st (fun _ k => XS.aloadN X2.here hx rfl (hb hby own_d32_9) rfl rfl k) ?_
  refine own_st (fun _ k => XS.iloadN X2.here hx rfl (hb hby own_d32_10) rfl k) ?_
  obtain ⟨T3, hp3, X3, e3, W3, st3⟩ := putFN X2 hx hZ hown (own_w70 hw) Via.refl e2 F_coder_a1_2 Ex_a1_2 (Or.inr ⟨(own_w26 hw), rfl, hnm⟩) (own_w23 hw) (ty := .byte) (v' := (.int 1)) (by decide) rfl (by decide) (g := (mkF m 11 #[.val (.ref a1), .val (.ref a2), .val (.int 1)] [(.int 1), (.ref a1)])) rfl rfl (hb hby own_d32_11)
  have K3 := Keep.wr K2 W3 (Or.inl (List.mem_of_getElem? (i := 0) rfl))
  have Ex_a1_3 := Ex_a1_2.wr W3
  have F_value_a1_3 := F_value_a1_2.other W3 (Or.inr (slot_ne (Or.inr (own_w25 hw)) (Or.inr (own_w26 hw)) (by decide) (t := (.array .byte)) (t' := .byte) (by decide) (by decide)))
  have F_coder_a1_3 := F_coder_a1_2.same W3
  have N3 := Fr.snoc X3 N2 g_a1
  refine own_st st3 ?_
  show own_Go _ _ _ _ T3 (mkF m 14 #[.val (.ref a1), .val (.ref a2), .val (.int 1)] [])
  exact own_retV X3 hx hret hlk (hb hby own_d32_14) ⟨rfl, N3, by rw [e3]; exact K3, by rw [e3]; exact F_value_a1_3, by rw [e3]; exact F_coder_a1_3⟩ (by decide) (by decide)
def own_vcB_Q (Z : State) (cp : Int32) (cs : Int32) (h0 : Heap) (n0 : Nat) (v : Option Value) (h : Heap) (L : List Loc) : Prop := ∃ b bv k, v = some (.ref b) ∧ Fr n0 L ∧ Ext h0 h ∧ Exa Z h b "java/lang/String" ∧ Fld Z h b "java/lang/String" "value" "[B" (.ref bv) ∧ Fld Z h b "java/lang/String" "coder" "B" (.int 0) ∧ Arv Z h bv k .byte (1 : Int32) [(.int (own_Bl (cp.toUInt32.toUInt16.toUInt32.toInt32)))] (.int 0)
set_option maxRecDepth 65536 in
set_option maxHeartbeats 40000000 in
theorem own_vcB (l : Launch) {Z : State} {a0 : Array Value} (hw : own_W Z a0) (ws : List Jvm.Cond) (cp : Int32) (cs : Int32) (h0 : Heap) (n0 : Nat) (Z0 : n0 ≤ h0.size) (zn : Z.heap.size ≤ n0) (OZ : Ext Z.heap h0) (Scs : Sta Z Z.heap "java/lang/String" "COMPACT_STRINGS" "Z" (.int cs)) (hcs : ¬ cs = 0) (hc0 : ¬ cp < 0) (hc1 : ¬ (255 : Int32) < cp) :
    MetFree l (⟨"java/lang/String", "valueOfCodePoint", "(I)Ljava/lang/String;"⟩ : MethodName) (head1 (Jvm.Cond.code (⟨"java/lang/String", "valueOfCodePoint", "(I)Ljava/lang/String;"⟩ : MethodName) jdk_42_method_159_code 1 (some (.object "java/lang/String")) :: ws) ({ frames := 2, cells := 2, slots := 5, locals := 27 } : Room)) (fun a U => a = #[(.int cp)] ∧ Z.Warmed39 U.vm ∧ U.heap = h0) (fun _ _ _ _ _ => True) (fun _ U o U' => ∃ v L, o = .returned v ∧ own_vcB_Q Z cp cs h0 n0 v U'.heap L ∧ FrameEnd U o U' L ({ frames := 2, cells := 2, slots := 5, locals := 27 } : Room).cells ({ frames := 2, cells := 2, slots := 5, locals := 27 } : Room).slots) := by
  refine own_enter (C := ({ frames := 2, cells := 2, slots := 5, locals := 27 } : Room).cells) (S := ({ frames := 2, cells := 2, slots := 5, locals := 27 } : Room).slots) (plainFor_of_name own_pn2) ?_
  intro p e s m below meth c T0 X0 I e0
  obtain ⟨hx, hby, hml, hown, hnm, hret, hlk, hZ⟩ := I
  have N0 := Fr.nil n0
  have O0 := own_extr h0
  refine own_cast (own_ef29 m cp) ?_
  show own_Go _ _ _ _ T0 (mkF m 0 #[.val (.int cp)] [])
  obtain ⟨T1, X1, e1, st1⟩ := getS2 X0 hx hZ hown (host := "") (Or.inl (own_w69 hw)) Via.refl e0 (Scs.ext (own_extt OZ O0)) (g := (mkF m 0 #[.val (.int cp)] [])) rfl (hb hby own_d29_0)
  refine own_st st1 ?_
  refine own_st (fun _ k => XS.ifNo X1.here hx rfl (hb hby own_d29_3) rfl ((if0 _ _).trans (feq (hcs : ¬ (cs = (0 : Int32)))).1) k) ?_
  refine own_st (fun _ k => XS.iloadN X1.here hx rfl (hb hby own_d29_6) rfl k) ?_
  obtain ⟨v2, T2, L2, hQ2, X2, st2⟩ := own_callS X1 hx hZ (y := (⟨"java/lang/StringLatin1", "canEncode", "(I)Z"⟩ : MethodName)) hown (own_w165 hw) (own_w166 hw) (own_w154 hw) (own_w167 hw) (by decide) (own_ce1 l hw [] cp h0 n0 (Nat.le_trans Z0 O0.1) hc0 hc1) e1 (g := (mkF m 7 #[.val (.int cp)] [(.int cp)])) rfl (by rw [hml]; rfl) (argsL := [(.int cp)]) (rest := []) (lenOf own_pd10 rfl) rfl rfl (W := 0) (Nat.le_of_eq rfl) (hb hby own_d29_7) (by decide) (by decide) (by decide) (by decide)
  obtain ⟨rfl, N2, e2⟩ := hQ2
  have N2' := Fr.app N0 N2
  refine own_st st2 ?_
  refine own_st (fun _ k => XS.ifNo X2.here hx rfl (hb hby own_d29_10) rfl ((if0 _ _).trans (feq (by decide : ¬ ((1 : Int32) = (0 : Int32)))).1) k) ?_
  obtain ⟨T3, hp3, X3, e3, Et3, A3, D3, -, st3⟩ := newO X2 hx hZ hown (own_w151 hw) (own_w23 hw) (own_w22 hw) e2 (g := (mkF m 13 #[.val (.int cp)] [])) rfl (hb hby own_d29_13) (by decide) (by decide)
  obtain ⟨b3, g3⟩ : ∃ z, z = h0.size := ⟨_, rfl⟩
  rw [← g3] at A3 D3 st3
  have s_b3 : h0.size ≤ b3 := Nat.le_trans O0.1 (Nat.le_of_eq g3.symm)
  have g_b3 : n0 ≤ b3 := Nat.le_trans Z0 s_b3
  have O3 := own_extt O0 Et3
  have F_value_b3 : Fld Z hp3 b3 "java/lang/String" "value" "[B" .null := D3 (Or.inr (own_w25 hw)) (ty := (.array .byte)) (by decide)
  have F_coder_b3 : Fld Z hp3 b3 "java/lang/String" "coder" "B" (.int 0) := D3 (Or.inr (own_w26 hw)) (ty := .byte) (by decide)
  refine own_st st3 ?_
  refine own_st (fun _ k => XS.dup X3.here hx rfl (hb hby own_d29_16) rfl rfl k) ?_
  refine own_st (fun _ k => XS.iloadN X3.here hx rfl (hb hby own_d29_17) rfl k) ?_
  show own_Go _ _ _ _ T3 (mkF m 18 #[.val (.int cp)] [(.int cp), (.ref b3), (.ref b3)])
  refine own_st (fun _ k => XS.i2c X3.here hx rfl (hb hby own_d29_18) rfl k) ?_
  obtain ⟨v4, T4, L4, hQ4, X4, st4⟩ := own_callS X3 hx hZ (y := (⟨"java/lang/StringLatin1", "toBytes", "(C)[B"⟩ : MethodName)) hown (own_w168 hw) (own_w169 hw) (own_w154 hw) (own_w170 hw) (by decide) (own_tob l hw [] (cp.toUInt32.toUInt16.toUInt32.toInt32) hp3 n0 (Nat.le_trans Z0 O3.1) ) e3 (g := (mkF m 19 #[.val (.int cp)] [(.int (cp.toUInt32.toUInt16.toUInt32.toInt32)), (.ref b3), (.ref b3)])) rfl (by rw [hml]; rfl) (argsL := [(.int (cp.toUInt32.toUInt16.toUInt32.toInt32))]) (rest := [(.ref b3), (.ref b3)]) (lenOf own_pd11 rfl) rfl rfl (W := 2) (Nat.le_of_eq rfl) (hb hby own_d29_19) (by decide) (by decide) (by decide) (by decide)
  obtain ⟨nb, kn, rfl, N4, Et4, g_nb, sn_nb, Vn⟩ := hQ4
  have ne_b_nb : b3 ≠ nb := Nat.ne_of_lt (Nat.lt_of_lt_of_le A3.lt sn_nb)
  have O4 := own_extt O3 Et4
  have Ex_b3_4 := A3.ext Et4
  have F_value_b3_4 := F_value_b3.ext Et4
  have F_coder_b3_4 := F_coder_b3.ext Et4
  have N4' := Fr.app N2' N4
  refine own_st st4 ?_
  refine own_st (fun _ k => XS.iconst X4.here hx rfl (hb hby own_d29_22) k) ?_
  obtain ⟨v5, T5, L5, hQ5, X5, st5⟩ := own_callI X4 hx hZ (y := (⟨"java/lang/String", "<init>", "([BB)V"⟩ : MethodName)) rfl hown (own_w171 hw) (own_w172 hw) (own_w22 hw) (own_w173 hw) (by decide) (own_si0 l hw [] b3 nb (0 : Int32) T4.heap n0 (Nat.le_trans Z0 O4.1) rfl g_b3 Ex_b3_4 F_value_b3_4 F_coder_b3_4) rfl (g := (mkF m 23 #[.val (.int cp)] [(.int 0), (.ref nb), (.ref b3), (.ref b3)])) rfl (by rw [hml]; rfl) (argsL := [(.ref nb), (.int 0)]) (rest := [(.ref b3)]) (lenOf own_pd12 rfl) rfl rfl (W := 1) (Nat.le_of_eq rfl) (hb hby own_d29_23) (by decide) (by decide) (by decide) (by decide)
  obtain ⟨rfl, N5, K5, Gv, Gc⟩ := hQ5
  have O5 := own_extk O4 K5 s_b3
  have V_nb_5 := Vn.keep K5 (ninS (Ne.symm ne_b_nb) nin0)
  have Ex_b3_5 := Ex_b3_4.keep K5
  have N5' := Fr.app N4' N5
  refine own_st st5 ?_
  exact own_retA X5 hx hret rfl hlk rfl (hb hby own_d29_26) ⟨b3, nb, kn, rfl, N5', O5, Ex_b3_5, Gv, Gc, V_nb_5⟩ (by decide) (by decide)
def own_ctB_Q (Z : State) (cp : Int32) (cs : Int32) (h0 : Heap) (n0 : Nat) (v : Option Value) (h : Heap) (L : List Loc) : Prop := ∃ b bv k, v = some (.ref b) ∧ Fr n0 L ∧ Ext h0 h ∧ Exa Z h b "java/lang/String" ∧ Fld Z h b "java/lang/String" "value" "[B" (.ref bv) ∧ Fld Z h b "java/lang/String" "coder" "B" (.int 0) ∧ Arv Z h bv k .byte (1 : Int32) [(.int (own_Bl (cp.toUInt32.toUInt16.toUInt32.toInt32)))] (.int 0)
set_option maxRecDepth 65536 in
set_option maxHeartbeats 40000000 in
theorem own_ctB (l : Launch) {Z : State} {a0 : Array Value} (hw : own_W Z a0) (ws : List Jvm.Cond) (cp : Int32) (cs : Int32) (h0 : Heap) (n0 : Nat) (Z0 : n0 ≤ h0.size) (zn : Z.heap.size ≤ n0) (OZ : Ext Z.heap h0) (Scs : Sta Z Z.heap "java/lang/String" "COMPACT_STRINGS" "Z" (.int cs)) (hcs : ¬ cs = 0) (hc0 : ¬ cp < 0) (hc1 : ¬ (255 : Int32) < cp) :
    MetFree l (⟨"java/lang/Character", "toString", "(I)Ljava/lang/String;"⟩ : MethodName) (head1 (Jvm.Cond.code (⟨"java/lang/Character", "toString", "(I)Ljava/lang/String;"⟩ : MethodName) jdk_89_method_10_code 1 (some (.object "java/lang/String")) :: ws) ({ frames := 3, cells := 2, slots := 5, locals := 39 } : Room)) (fun a U => a = #[(.int cp)] ∧ Z.Warmed39 U.vm ∧ U.heap = h0) (fun _ _ _ _ _ => True) (fun _ U o U' => ∃ v L, o = .returned v ∧ own_ctB_Q Z cp cs h0 n0 v U'.heap L ∧ FrameEnd U o U' L ({ frames := 3, cells := 2, slots := 5, locals := 39 } : Room).cells ({ frames := 3, cells := 2, slots := 5, locals := 39 } : Room).slots) := by
  refine own_enter (C := ({ frames := 3, cells := 2, slots := 5, locals := 39 } : Room).cells) (S := ({ frames := 3, cells := 2, slots := 5, locals := 39 } : Room).slots) (plainFor_of_name own_pn8) ?_
  intro p e s m below meth c T0 X0 I e0
  obtain ⟨hx, hby, hml, hown, hnm, hret, hlk, hZ⟩ := I
  have N0 := Fr.nil n0
  have O0 := own_extr h0
  refine own_cast (own_ef28 m cp) ?_
  show own_Go _ _ _ _ T0 (mkF m 0 #[.val (.int cp)] [])
  refine own_st (fun _ k => XS.iloadN X0.here hx rfl (hb hby own_d28_0) rfl k) ?_
  obtain ⟨v1, T1, L1, hQ1, X1, st1⟩ := own_callS X0 hx hZ (y := (⟨"java/lang/String", "valueOfCodePoint", "(I)Ljava/lang/String;"⟩ : MethodName)) hown (own_w162 hw) (own_w163 hw) (own_w22 hw) (own_w164 hw) (by decide) (own_vcB l hw [] cp cs h0 n0 (Nat.le_trans Z0 O0.1) zn (own_extt OZ O0) Scs hcs  hc0 hc1) e0 (g := (mkF m 1 #[.val (.int cp)] [(.int cp)])) rfl (by rw [hml]; rfl) (argsL := [(.int cp)]) (rest := []) (lenOf own_pd13 rfl) rfl rfl (W := 0) (Nat.le_of_eq rfl) (hb hby own_d28_1) (by decide) (by decide) (by decide) (by decide)
  obtain ⟨b, bv, kb, rfl, N1, Et1, Er, Fr_, Fs_, Vr⟩ := hQ1
  have N1' := Fr.app N0 N1
  refine own_st st1 ?_
  exact own_retA X1 hx hret rfl hlk rfl (hb hby own_d28_4) ⟨b, bv, kb, rfl, N1', Et1, Er, Fr_, Fs_, Vr⟩ (by decide) (by decide)
def own_vcC_Q (Z : State) (cp : Int32) (cs : Int32) (h0 : Heap) (n0 : Nat) (v : Option Value) (h : Heap) (L : List Loc) : Prop := ∃ b bv k, v = some (.ref b) ∧ Fr n0 L ∧ Ext h0 h ∧ Exa Z h b "java/lang/String" ∧ Fld Z h b "java/lang/String" "value" "[B" (.ref bv) ∧ Fld Z h b "java/lang/String" "coder" "B" (.int 1) ∧ Arv Z h bv k .byte (2 : Int32) [(.int (own_B0 (cp.toUInt32.toUInt16.toUInt32.toInt32))), (.int (own_B1 (cp.toUInt32.toUInt16.toUInt32.toInt32)))] (.int 0)
set_option maxRecDepth 65536 in
set_option maxHeartbeats 40000000 in
theorem own_vcC (l : Launch) {Z : State} {a0 : Array Value} (hw : own_W Z a0) (ws : List Jvm.Cond) (cp : Int32) (cs : Int32) (h0 : Heap) (n0 : Nat) (Z0 : n0 ≤ h0.size) (zn : Z.heap.size ≤ n0) (OZ : Ext Z.heap h0) (Scs : Sta Z Z.heap "java/lang/String" "COMPACT_STRINGS" "Z" (.int cs)) (hcs : ¬ cs = 0) (Sad : Sta Z Z.heap "java/lang/StringUTF16" "$assertionsDisabled" "Z" (.int 1)) (Shi : Sta Z Z.heap "java/lang/StringUTF16" "HI_BYTE_SHIFT" "I" (.int 0)) (Slo : Sta Z Z.heap "java/lang/StringUTF16" "LO_BYTE_SHIFT" "I" (.int 8)) (hc0 : ¬ cp < 0) (hc1 : (255 : Int32) < cp) (hbm : ((cp.toUInt32 >>> ((16 : Int32) &&& 31).toUInt32).toInt32) = 0) :
    MetFree l (⟨"java/lang/String", "valueOfCodePoint", "(I)Ljava/lang/String;"⟩ : MethodName) (head1 (Jvm.Cond.code (⟨"java/lang/String", "valueOfCodePoint", "(I)Ljava/lang/String;"⟩ : MethodName) jdk_42_method_159_code 1 (some (.object "java/lang/String")) :: ws) ({ frames := 2, cells := 2, slots := 6, locals := 29 } : Room)) (fun a U => a = #[(.int cp)] ∧ Z.Warmed39 U.vm ∧ U.heap = h0) (fun _ _ _ _ _ => True) (fun _ U o U' => ∃ v L, o = .returned v ∧ own_vcC_Q Z cp cs h0 n0 v U'.heap L ∧ FrameEnd U o U' L ({ frames := 2, cells := 2, slots := 6, locals := 29 } : Room).cells ({ frames := 2, cells := 2, slots := 6, locals := 29 } : Room).slots) := by
  refine own_enter (C := ({ frames := 2, cells := 2, slots := 6, locals := 29 } : Room).cells) (S := ({ frames := 2, cells := 2, slots := 6, locals := 29 } : Room).slots) (plainFor_of_name own_pn2) ?_
  intro p e s m below meth c T0 X0 I e0
  obtain ⟨hx, hby, hml, hown, hnm, hret, hlk, hZ⟩ := I
  have N0 := Fr.nil n0
  have O0 := own_extr h0
  refine own_cast (own_ef29 m cp) ?_
  show own_Go _ _ _ _ T0 (mkF m 0 #[.val (.int cp)] [])
  obtain ⟨T1, X1, e1, st1⟩ := getS2 X0 hx hZ hown (host := "") (Or.inl (own_w69 hw)) Via.refl e0 (Scs.ext (own_extt OZ O0)) (g := (mkF m 0 #[.val (.int cp)] [])) rfl (hb hby own_d29_0)
  refine own_st st1 ?_
  refine own_st (fun _ k => XS.ifNo X1.here hx rfl (hb hby own_d29_3) rfl ((if0 _ _).trans (feq (hcs : ¬ (cs = (0 : Int32)))).1) k) ?_
  refine own_st (fun _ k => XS.iloadN X1.here hx rfl (hb hby own_d29_6) rfl k) ?_
  obtain ⟨v2, T2, L2, hQ2, X2, st2⟩ := own_callS X1 hx hZ (y := (⟨"java/lang/StringLatin1", "canEncode", "(I)Z"⟩ : MethodName)) hown (own_w165 hw) (own_w166 hw) (own_w154 hw) (own_w167 hw) (by decide) (own_ce0 l hw [] cp h0 n0 (Nat.le_trans Z0 O0.1) hc0 hc1) e1 (g := (mkF m 7 #[.val (.int cp)] [(.int cp)])) rfl (by rw [hml]; rfl) (argsL := [(.int cp)]) (rest := []) (lenOf own_pd10 rfl) rfl rfl (W := 0) (Nat.le_of_eq rfl) (hb hby own_d29_7) (by decide) (by decide) (by decide) (by decide)
  obtain ⟨rfl, N2, e2⟩ := hQ2
  have N2' := Fr.app N0 N2
  refine own_st st2 ?_
  refine own_st (fun _ k => XS.ifYes X2.here hx rfl (pc0 := 10) (pc' := 27) rfl (hb hby own_d29_10) rfl ((if0 _ _).trans (teq (by decide : (0 : Int32) = (0 : Int32))).1) (by decide) (by decide) k) ?_
  refine own_st (fun _ k => XS.iloadN X2.here hx rfl (hb hby own_d29_27) rfl k) ?_
  obtain ⟨v3, T3, L3, hQ3, X3, st3⟩ := own_callS X2 hx hZ (y := (⟨"java/lang/Character", "isBmpCodePoint", "(I)Z"⟩ : MethodName)) hown (own_w201 hw) (own_w202 hw) (own_w160 hw) (own_w203 hw) (by decide) (own_bm1 l hw [] cp h0 n0 (Nat.le_trans Z0 O0.1) hbm) e2 (g := (mkF m 28 #[.val (.int cp)] [(.int cp)])) rfl (by rw [hml]; rfl) (argsL := [(.int cp)]) (rest := []) (lenOf own_pd10 rfl) rfl rfl (W := 0) (Nat.le_of_eq rfl) (hb hby own_d29_28) (by decide) (by decide) (by decide) (by decide)
  obtain ⟨rfl, N3, e3⟩ := hQ3
  have N3' := Fr.app N2' N3
  refine own_st st3 ?_
  refine own_st (fun _ k => XS.ifNo X3.here hx rfl (hb hby own_d29_31) rfl ((if0 _ _).trans (feq (by decide : ¬ ((1 : Int32) = (0 : Int32)))).1) k) ?_
  show own_Go _ _ _ _ T3 (mkF m 34 #[.val (.int cp)] [])
  obtain ⟨T4, hp4, X4, e4, Et4, A4, D4, -, st4⟩ := newO X3 hx hZ hown (own_w151 hw) (own_w23 hw) (own_w22 hw) e3 (g := (mkF m 34 #[.val (.int cp)] [])) rfl (hb hby own_d29_34) (by decide) (by decide)
  obtain ⟨b4, g4⟩ : ∃ z, z = h0.size := ⟨_, rfl⟩
  rw [← g4] at A4 D4 st4
  have s_b4 : h0.size ≤ b4 := Nat.le_trans O0.1 (Nat.le_of_eq g4.symm)
  have g_b4 : n0 ≤ b4 := Nat.le_trans Z0 s_b4
  have O4 := own_extt O0 Et4
  have F_value_b4 : Fld Z hp4 b4 "java/lang/String" "value" "[B" .null := D4 (Or.inr (own_w25 hw)) (ty := (.array .byte)) (by decide)
  have F_coder_b4 : Fld Z hp4 b4 "java/lang/String" "coder" "B" (.int 0) := D4 (Or.inr (own_w26 hw)) (ty := .byte) (by decide)
  refine own_st st4 ?_
  refine own_st (fun _ k => XS.dup X4.here hx rfl (hb hby own_d29_37) rfl rfl k) ?_
  refine own_st (fun _ k => XS.iloadN X4.here hx rfl (hb hby own_d29_38) rfl k) ?_
  refine own_st (fun _ k => XS.i2c X4.here hx rfl (hb hby own_d29_39) rfl k) ?_
  obtain ⟨v5, T5, L5, hQ5, X5, st5⟩ := own_callS X4 hx hZ (y := (⟨"java/lang/StringUTF16", "toBytes", "(C)[B"⟩ : MethodName)) hown (own_w278 hw) (own_w279 hw) (own_w211 hw) (own_w280 hw) (by decide) (own_tou l hw [] (cp.toUInt32.toUInt16.toUInt32.toInt32) hp4 n0 (Nat.le_trans Z0 O4.1) zn (own_extt OZ O4) Sad Shi Slo) e4 (g := (mkF m 40 #[.val (.int cp)] [(.int (cp.toUInt32.toUInt16.toUInt32.toInt32)), (.ref b4), (.ref b4)])) rfl (by rw [hml]; rfl) (argsL := [(.int (cp.toUInt32.toUInt16.toUInt32.toInt32))]) (rest := [(.ref b4), (.ref b4)]) (lenOf own_pd11 rfl) rfl rfl (W := 2) (Nat.le_of_eq rfl) (hb hby own_d29_40) (by decide) (by decide) (by decide) (by decide)
  obtain ⟨nb, kn, rfl, N5, Et5, g_nb, sn_nb, Vn⟩ := hQ5
  have ne_b_nb : b4 ≠ nb := Nat.ne_of_lt (Nat.lt_of_lt_of_le A4.lt sn_nb)
  have O5 := own_extt O4 Et5
  have Ex_b4_5 := A4.ext Et5
  have F_value_b4_5 := F_value_b4.ext Et5
  have F_coder_b4_5 := F_coder_b4.ext Et5
  have N5' := Fr.app N3' N5
  refine own_st st5 ?_
  refine own_st (fun _ k => XS.iconst X5.here hx rfl (hb hby own_d29_43) k) ?_
  obtain ⟨v6, T6, L6, hQ6, X6, st6⟩ := own_callI X5 hx hZ (y := (⟨"java/lang/String", "<init>", "([BB)V"⟩ : MethodName)) rfl hown (own_w171 hw) (own_w172 hw) (own_w22 hw) (own_w173 hw) (by decide) (own_si1 l hw [] b4 nb (1 : Int32) T5.heap n0 (Nat.le_trans Z0 O5.1) rfl g_b4 Ex_b4_5 F_value_b4_5 F_coder_b4_5) rfl (g := (mkF m 44 #[.val (.int cp)] [(.int 1), (.ref nb), (.ref b4), (.ref b4)])) rfl (by rw [hml]; rfl) (argsL := [(.ref nb), (.int 1)]) (rest := [(.ref b4)]) (lenOf own_pd12 rfl) rfl rfl (W := 1) (Nat.le_of_eq rfl) (hb hby own_d29_44) (by decide) (by decide) (by decide) (by decide)
  obtain ⟨rfl, N6, K6, Gv, Gc⟩ := hQ6
  have O6 := own_extk O5 K6 s_b4
  have V_nb_6 := Vn.keep K6 (ninS (Ne.symm ne_b_nb) nin0)
  have Ex_b4_6 := Ex_b4_5.keep K6
  have N6' := Fr.app N5' N6
  refine own_st st6 ?_
  exact own_retA X6 hx hret rfl hlk rfl (hb hby own_d29_47) ⟨b4, nb, kn, rfl, N6', O6, Ex_b4_6, Gv, Gc, V_nb_6⟩ (by decide) (by decide)
def own_ctC_Q (Z : State) (cp : Int32) (cs : Int32) (h0 : Heap) (n0 : Nat) (v : Option Value) (h : Heap) (L : List Loc) : Prop := ∃ b bv k, v = some (.ref b) ∧ Fr n0 L ∧ Ext h0 h ∧ Exa Z h b "java/lang/String" ∧ Fld Z h b "java/lang/String" "value" "[B" (.ref bv) ∧ Fld Z h b "java/lang/String" "coder" "B" (.int 1) ∧ Arv Z h bv k .byte (2 : Int32) [(.int (own_B0 (cp.toUInt32.toUInt16.toUInt32.toInt32))), (.int (own_B1 (cp.toUInt32.toUInt16.toUInt32.toInt32)))] (.int 0)
set_option maxRecDepth 65536 in
set_option maxHeartbeats 40000000 in
theorem own_ctC (l : Launch) {Z : State} {a0 : Array Value} (hw : own_W Z a0) (ws : List Jvm.Cond) (cp : Int32) (cs : Int32) (h0 : Heap) (n0 : Nat) (Z0 : n0 ≤ h0.size) (zn : Z.heap.size ≤ n0) (OZ : Ext Z.heap h0) (Scs : Sta Z Z.heap "java/lang/String" "COMPACT_STRINGS" "Z" (.int cs)) (hcs : ¬ cs = 0) (Sad : Sta Z Z.heap "java/lang/StringUTF16" "$assertionsDisabled" "Z" (.int 1)) (Shi : Sta Z Z.heap "java/lang/StringUTF16" "HI_BYTE_SHIFT" "I" (.int 0)) (Slo : Sta Z Z.heap "java/lang/StringUTF16" "LO_BYTE_SHIFT" "I" (.int 8)) (hc0 : ¬ cp < 0) (hc1 : (255 : Int32) < cp) (hbm : ((cp.toUInt32 >>> ((16 : Int32) &&& 31).toUInt32).toInt32) = 0) :
    MetFree l (⟨"java/lang/Character", "toString", "(I)Ljava/lang/String;"⟩ : MethodName) (head1 (Jvm.Cond.code (⟨"java/lang/Character", "toString", "(I)Ljava/lang/String;"⟩ : MethodName) jdk_89_method_10_code 1 (some (.object "java/lang/String")) :: ws) ({ frames := 3, cells := 2, slots := 6, locals := 41 } : Room)) (fun a U => a = #[(.int cp)] ∧ Z.Warmed39 U.vm ∧ U.heap = h0) (fun _ _ _ _ _ => True) (fun _ U o U' => ∃ v L, o = .returned v ∧ own_ctC_Q Z cp cs h0 n0 v U'.heap L ∧ FrameEnd U o U' L ({ frames := 3, cells := 2, slots := 6, locals := 41 } : Room).cells ({ frames := 3, cells := 2, slots := 6, locals := 41 } : Room).slots) := by
  refine own_enter (C := ({ frames := 3, cells := 2, slots := 6, locals := 41 } : Room).cells) (S := ({ frames := 3, cells := 2, slots := 6, locals := 41 } : Room).slots) (plainFor_of_name own_pn8) ?_
  intro p e s m below meth c T0 X0 I e0
  obtain ⟨hx, hby, hml, hown, hnm, hret, hlk, hZ⟩ := I
  have N0 := Fr.nil n0
  have O0 := own_extr h0
  refine own_cast (own_ef28 m cp) ?_
  show own_Go _ _ _ _ T0 (mkF m 0 #[.val (.int cp)] [])
  refine own_st (fun _ k => XS.iloadN X0.here hx rfl (hb hby own_d28_0) rfl k) ?_
  obtain ⟨v1, T1, L1, hQ1, X1, st1⟩ := own_callS X0 hx hZ (y := (⟨"java/lang/String", "valueOfCodePoint", "(I)Ljava/lang/String;"⟩ : MethodName)) hown (own_w162 hw) (own_w163 hw) (own_w22 hw) (own_w164 hw) (by decide) (own_vcC l hw [] cp cs h0 n0 (Nat.le_trans Z0 O0.1) zn (own_extt OZ O0) Scs hcs Sad Shi Slo hc0 hc1 hbm) e0 (g := (mkF m 1 #[.val (.int cp)] [(.int cp)])) rfl (by rw [hml]; rfl) (argsL := [(.int cp)]) (rest := []) (lenOf own_pd13 rfl) rfl rfl (W := 0) (Nat.le_of_eq rfl) (hb hby own_d28_1) (by decide) (by decide) (by decide) (by decide)
  obtain ⟨b, bv, kb, rfl, N1, Et1, Er, Fr_, Fs_, Vr⟩ := hQ1
  have N1' := Fr.app N0 N1
  refine own_st st1 ?_
  exact own_retA X1 hx hret rfl hlk rfl (hb hby own_d28_4) ⟨b, bv, kb, rfl, N1', Et1, Er, Fr_, Fs_, Vr⟩ (by decide) (by decide)
def own_vcD_Q (Z : State) (cp : Int32) (cs : Int32) (h0 : Heap) (n0 : Nat) (v : Option Value) (h : Heap) (L : List Loc) : Prop := ∃ b bv k, v = some (.ref b) ∧ Fr n0 L ∧ Ext h0 h ∧ Exa Z h b "java/lang/String" ∧ Fld Z h b "java/lang/String" "value" "[B" (.ref bv) ∧ Fld Z h b "java/lang/String" "coder" "B" (.int 1) ∧ Arv Z h bv k .byte (4 : Int32) [(.int (own_B0 (own_HS cp))), (.int (own_B1 (own_HS cp))), (.int (own_B0 (own_LS cp))), (.int (own_B1 (own_LS cp)))] (.int 0)
set_option maxRecDepth 65536 in
set_option maxHeartbeats 40000000 in
theorem own_vcD (l : Launch) {Z : State} {a0 : Array Value} (hw : own_W Z a0) (ws : List Jvm.Cond) (cp : Int32) (cs : Int32) (h0 : Heap) (n0 : Nat) (Z0 : n0 ≤ h0.size) (zn : Z.heap.size ≤ n0) (OZ : Ext Z.heap h0) (Scs : Sta Z Z.heap "java/lang/String" "COMPACT_STRINGS" "Z" (.int cs)) (hcs : ¬ cs = 0) (Sad : Sta Z Z.heap "java/lang/StringUTF16" "$assertionsDisabled" "Z" (.int 1)) (Shi : Sta Z Z.heap "java/lang/StringUTF16" "HI_BYTE_SHIFT" "I" (.int 0)) (Slo : Sta Z Z.heap "java/lang/StringUTF16" "LO_BYTE_SHIFT" "I" (.int 8)) (hc0 : ¬ cp < 0) (hc1 : (255 : Int32) < cp) (hbm : ¬ ((cp.toUInt32 >>> ((16 : Int32) &&& 31).toUInt32).toInt32) = 0) (hs0 : ¬ cp < (65536 : Int32)) (hs1 : cp < (1114112 : Int32)) :
    MetFree l (⟨"java/lang/String", "valueOfCodePoint", "(I)Ljava/lang/String;"⟩ : MethodName) (head1 (Jvm.Cond.code (⟨"java/lang/String", "valueOfCodePoint", "(I)Ljava/lang/String;"⟩ : MethodName) jdk_42_method_159_code 1 (some (.object "java/lang/String")) :: ws) ({ frames := 2, cells := 2, slots := 8, locals := 29 } : Room)) (fun a U => a = #[(.int cp)] ∧ Z.Warmed39 U.vm ∧ U.heap = h0) (fun _ _ _ _ _ => True) (fun _ U o U' => ∃ v L, o = .returned v ∧ own_vcD_Q Z cp cs h0 n0 v U'.heap L ∧ FrameEnd U o U' L ({ frames := 2, cells := 2, slots := 8, locals := 29 } : Room).cells ({ frames := 2, cells := 2, slots := 8, locals := 29 } : Room).slots) := by
  refine own_enter (C := ({ frames := 2, cells := 2, slots := 8, locals := 29 } : Room).cells) (S := ({ frames := 2, cells := 2, slots := 8, locals := 29 } : Room).slots) (plainFor_of_name own_pn2) ?_
  intro p e s m below meth c T0 X0 I e0
  obtain ⟨hx, hby, hml, hown, hnm, hret, hlk, hZ⟩ := I
  have N0 := Fr.nil n0
  have O0 := own_extr h0
  refine own_cast (own_ef29 m cp) ?_
  show own_Go _ _ _ _ T0 (mkF m 0 #[.val (.int cp)] [])
  obtain ⟨T1, X1, e1, st1⟩ := getS2 X0 hx hZ hown (host := "") (Or.inl (own_w69 hw)) Via.refl e0 (Scs.ext (own_extt OZ O0)) (g := (mkF m 0 #[.val (.int cp)] [])) rfl (hb hby own_d29_0)
  refine own_st st1 ?_
  refine own_st (fun _ k => XS.ifNo X1.here hx rfl (hb hby own_d29_3) rfl ((if0 _ _).trans (feq (hcs : ¬ (cs = (0 : Int32)))).1) k) ?_
  refine own_st (fun _ k => XS.iloadN X1.here hx rfl (hb hby own_d29_6) rfl k) ?_
  obtain ⟨v2, T2, L2, hQ2, X2, st2⟩ := own_callS X1 hx hZ (y := (⟨"java/lang/StringLatin1", "canEncode", "(I)Z"⟩ : MethodName)) hown (own_w165 hw) (own_w166 hw) (own_w154 hw) (own_w167 hw) (by decide) (own_ce0 l hw [] cp h0 n0 (Nat.le_trans Z0 O0.1) hc0 hc1) e1 (g := (mkF m 7 #[.val (.int cp)] [(.int cp)])) rfl (by rw [hml]; rfl) (argsL := [(.int cp)]) (rest := []) (lenOf own_pd10 rfl) rfl rfl (W := 0) (Nat.le_of_eq rfl) (hb hby own_d29_7) (by decide) (by decide) (by decide) (by decide)
  obtain ⟨rfl, N2, e2⟩ := hQ2
  have N2' := Fr.app N0 N2
  refine own_st st2 ?_
  refine own_st (fun _ k => XS.ifYes X2.here hx rfl (pc0 := 10) (pc' := 27) rfl (hb hby own_d29_10) rfl ((if0 _ _).trans (teq (by decide : (0 : Int32) = (0 : Int32))).1) (by decide) (by decide) k) ?_
  refine own_st (fun _ k => XS.iloadN X2.here hx rfl (hb hby own_d29_27) rfl k) ?_
  obtain ⟨v3, T3, L3, hQ3, X3, st3⟩ := own_callS X2 hx hZ (y := (⟨"java/lang/Character", "isBmpCodePoint", "(I)Z"⟩ : MethodName)) hown (own_w201 hw) (own_w202 hw) (own_w160 hw) (own_w203 hw) (by decide) (own_bm0 l hw [] cp h0 n0 (Nat.le_trans Z0 O0.1) hbm) e2 (g := (mkF m 28 #[.val (.int cp)] [(.int cp)])) rfl (by rw [hml]; rfl) (argsL := [(.int cp)]) (rest := []) (lenOf own_pd10 rfl) rfl rfl (W := 0) (Nat.le_of_eq rfl) (hb hby own_d29_28) (by decide) (by decide) (by decide) (by decide)
  obtain ⟨rfl, N3, e3⟩ := hQ3
  have N3' := Fr.app N2' N3
  refine own_st st3 ?_
  refine own_st (fun _ k => XS.ifYes X3.here hx rfl (pc0 := 31) (pc' := 48) rfl (hb hby own_d29_31) rfl ((if0 _ _).trans (teq (by decide : (0 : Int32) = (0 : Int32))).1) (by decide) (by decide) k) ?_
  show own_Go _ _ _ _ T3 (mkF m 48 #[.val (.int cp)] [])
  refine own_st (fun _ k => XS.iloadN X3.here hx rfl (hb hby own_d29_48) rfl k) ?_
  obtain ⟨v4, T4, L4, hQ4, X4, st4⟩ := own_callS X3 hx hZ (y := (⟨"java/lang/Character", "isSupplementaryCodePoint", "(I)Z"⟩ : MethodName)) hown (own_w204 hw) (own_w205 hw) (own_w160 hw) (own_w206 hw) (by decide) (own_su l hw [] cp h0 n0 (Nat.le_trans Z0 O0.1) hs0 hs1) e3 (g := (mkF m 49 #[.val (.int cp)] [(.int cp)])) rfl (by rw [hml]; rfl) (argsL := [(.int cp)]) (rest := []) (lenOf own_pd10 rfl) rfl rfl (W := 0) (Nat.le_of_eq rfl) (hb hby own_d29_49) (by decide) (by decide) (by decide) (by decide)
  obtain ⟨rfl, N4, e4⟩ := hQ4
  have N4' := Fr.app N3' N4
  refine own_st st4 ?_
  refine own_st (fun _ k => XS.ifNo X4.here hx rfl (hb hby own_d29_52) rfl ((if0 _ _).trans (feq (by decide : ¬ ((1 : Int32) = (0 : Int32)))).1) k) ?_
  obtain ⟨T5, hp5, X5, e5, Et5, A5, D5, -, st5⟩ := newO X4 hx hZ hown (own_w151 hw) (own_w23 hw) (own_w22 hw) e4 (g := (mkF m 55 #[.val (.int cp)] [])) rfl (hb hby own_d29_55) (by decide) (by decide)
  obtain ⟨b5, g5⟩ : ∃ z, z = h0.size := ⟨_, rfl⟩
  rw [← g5] at A5 D5 st5
  have s_b5 : h0.size ≤ b5 := Nat.le_trans O0.1 (Nat.le_of_eq g5.symm)
  have g_b5 : n0 ≤ b5 := Nat.le_trans Z0 s_b5
  have O5 := own_extt O0 Et5
  have F_value_b5 : Fld Z hp5 b5 "java/lang/String" "value" "[B" .null := D5 (Or.inr (own_w25 hw)) (ty := (.array .byte)) (by decide)
  have F_coder_b5 : Fld Z hp5 b5 "java/lang/String" "coder" "B" (.int 0) := D5 (Or.inr (own_w26 hw)) (ty := .byte) (by decide)
  refine own_st st5 ?_
  refine own_st (fun _ k => XS.dup X5.here hx rfl (hb hby own_d29_58) rfl rfl k) ?_
  refine own_st (fun _ k => XS.iloadN X5.here hx rfl (hb hby own_d29_59) rfl k) ?_
  obtain ⟨v6, T6, L6, hQ6, X6, st6⟩ := own_callS X5 hx hZ (y := (⟨"java/lang/StringUTF16", "toBytesSupplementary", "(I)[B"⟩ : MethodName)) hown (own_w209 hw) (own_w210 hw) (own_w211 hw) (own_w212 hw) (by decide) (own_to4 l hw [] cp hp5 n0 (Nat.le_trans Z0 O5.1) zn (own_extt OZ O5) Sad Shi Slo) e5 (g := (mkF m 60 #[.val (.int cp)] [(.int cp), (.ref b5), (.ref b5)])) rfl (by rw [hml]; rfl) (argsL := [(.int cp)]) (rest := [(.ref b5), (.ref b5)]) (lenOf own_pd14 rfl) rfl rfl (W := 2) (Nat.le_of_eq rfl) (hb hby own_d29_60) (by decide) (by decide) (by decide) (by decide)
  obtain ⟨nb, kn, rfl, N6, Et6, g_nb, sn_nb, Vn⟩ := hQ6
  have ne_b_nb : b5 ≠ nb := Nat.ne_of_lt (Nat.lt_of_lt_of_le A5.lt sn_nb)
  have O6 := own_extt O5 Et6
  have Ex_b5_6 := A5.ext Et6
  have F_value_b5_6 := F_value_b5.ext Et6
  have F_coder_b5_6 := F_coder_b5.ext Et6
  have N6' := Fr.app N4' N6
  refine own_st st6 ?_
  refine own_st (fun _ k => XS.iconst X6.here hx rfl (hb hby own_d29_63) k) ?_
  show own_Go _ _ _ _ T6 (mkF m 64 #[.val (.int cp)] [(.int 1), (.ref nb), (.ref b5), (.ref b5)])
  obtain ⟨v7, T7, L7, hQ7, X7, st7⟩ := own_callI X6 hx hZ (y := (⟨"java/lang/String", "<init>", "([BB)V"⟩ : MethodName)) rfl hown (own_w171 hw) (own_w172 hw) (own_w22 hw) (own_w173 hw) (by decide) (own_si1 l hw [] b5 nb (1 : Int32) T6.heap n0 (Nat.le_trans Z0 O6.1) rfl g_b5 Ex_b5_6 F_value_b5_6 F_coder_b5_6) rfl (g := (mkF m 64 #[.val (.int cp)] [(.int 1), (.ref nb), (.ref b5), (.ref b5)])) rfl (by rw [hml]; rfl) (argsL := [(.ref nb), (.int 1)]) (rest := [(.ref b5)]) (lenOf own_pd12 rfl) rfl rfl (W := 1) (Nat.le_of_eq rfl) (hb hby own_d29_64) (by decide) (by decide) (by decide) (by decide)
  obtain ⟨rfl, N7, K7, Gv, Gc⟩ := hQ7
  have O7 := own_extk O6 K7 s_b5
  have V_nb_7 := Vn.keep K7 (ninS (Ne.symm ne_b_nb) nin0)
  have Ex_b5_7 := Ex_b5_6.keep K7
  have N7' := Fr.app N6' N7
  refine own_st st7 ?_
  exact own_retA X7 hx hret rfl hlk rfl (hb hby own_d29_67) ⟨b5, nb, kn, rfl, N7', O7, Ex_b5_7, Gv, Gc, V_nb_7⟩ (by decide) (by decide)
def own_ctD_Q (Z : State) (cp : Int32) (cs : Int32) (h0 : Heap) (n0 : Nat) (v : Option Value) (h : Heap) (L : List Loc) : Prop := ∃ b bv k, v = some (.ref b) ∧ Fr n0 L ∧ Ext h0 h ∧ Exa Z h b "java/lang/String" ∧ Fld Z h b "java/lang/String" "value" "[B" (.ref bv) ∧ Fld Z h b "java/lang/String" "coder" "B" (.int 1) ∧ Arv Z h bv k .byte (4 : Int32) [(.int (own_B0 (own_HS cp))), (.int (own_B1 (own_HS cp))), (.int (own_B0 (own_LS cp))), (.int (own_B1 (own_LS cp)))] (.int 0)
set_option maxRecDepth 65536 in
set_option maxHeartbeats 40000000 in
theorem own_ctD (l : Launch) {Z : State} {a0 : Array Value} (hw : own_W Z a0) (ws : List Jvm.Cond) (cp : Int32) (cs : Int32) (h0 : Heap) (n0 : Nat) (Z0 : n0 ≤ h0.size) (zn : Z.heap.size ≤ n0) (OZ : Ext Z.heap h0) (Scs : Sta Z Z.heap "java/lang/String" "COMPACT_STRINGS" "Z" (.int cs)) (hcs : ¬ cs = 0) (Sad : Sta Z Z.heap "java/lang/StringUTF16" "$assertionsDisabled" "Z" (.int 1)) (Shi : Sta Z Z.heap "java/lang/StringUTF16" "HI_BYTE_SHIFT" "I" (.int 0)) (Slo : Sta Z Z.heap "java/lang/StringUTF16" "LO_BYTE_SHIFT" "I" (.int 8)) (hc0 : ¬ cp < 0) (hc1 : (255 : Int32) < cp) (hbm : ¬ ((cp.toUInt32 >>> ((16 : Int32) &&& 31).toUInt32).toInt32) = 0) (hs0 : ¬ cp < (65536 : Int32)) (hs1 : cp < (1114112 : Int32)) :
    MetFree l (⟨"java/lang/Character", "toString", "(I)Ljava/lang/String;"⟩ : MethodName) (head1 (Jvm.Cond.code (⟨"java/lang/Character", "toString", "(I)Ljava/lang/String;"⟩ : MethodName) jdk_89_method_10_code 1 (some (.object "java/lang/String")) :: ws) ({ frames := 3, cells := 2, slots := 8, locals := 41 } : Room)) (fun a U => a = #[(.int cp)] ∧ Z.Warmed39 U.vm ∧ U.heap = h0) (fun _ _ _ _ _ => True) (fun _ U o U' => ∃ v L, o = .returned v ∧ own_ctD_Q Z cp cs h0 n0 v U'.heap L ∧ FrameEnd U o U' L ({ frames := 3, cells := 2, slots := 8, locals := 41 } : Room).cells ({ frames := 3, cells := 2, slots := 8, locals := 41 } : Room).slots) := by
  refine own_enter (C := ({ frames := 3, cells := 2, slots := 8, locals := 41 } : Room).cells) (S := ({ frames := 3, cells := 2, slots := 8, locals := 41 } : Room).slots) (plainFor_of_name own_pn8) ?_
  intro p e s m below meth c T0 X0 I e0
  obtain ⟨hx, hby, hml, hown, hnm, hret, hlk, hZ⟩ := I
  have N0 := Fr.nil n0
  have O0 := own_extr h0
  refine own_cast (own_ef28 m cp) ?_
  show own_Go _ _ _ _ T0 (mkF m 0 #[.val (.int cp)] [])
  refine own_st (fun _ k => XS.iloadN X0.here hx rfl (hb hby own_d28_0) rfl k) ?_
  obtain ⟨v1, T1, L1, hQ1, X1, st1⟩ := own_callS X0 hx hZ (y := (⟨"java/lang/String", "valueOfCodePoint", "(I)Ljava/lang/String;"⟩ : MethodName)) hown (own_w162 hw) (own_w163 hw) (own_w22 hw) (own_w164 hw) (by decide) (own_vcD l hw [] cp cs h0 n0 (Nat.le_trans Z0 O0.1) zn (own_extt OZ O0) Scs hcs Sad Shi Slo hc0 hc1 hbm hs0 hs1) e0 (g := (mkF m 1 #[.val (.int cp)] [(.int cp)])) rfl (by rw [hml]; rfl) (argsL := [(.int cp)]) (rest := []) (lenOf own_pd13 rfl) rfl rfl (W := 0) (Nat.le_of_eq rfl) (hb hby own_d28_1) (by decide) (by decide) (by decide) (by decide)
  obtain ⟨b, bv, kb, rfl, N1, Et1, Er, Fr_, Fs_, Vr⟩ := hQ1
  have N1' := Fr.app N0 N1
  refine own_st st1 ?_
  exact own_retA X1 hx hret rfl hlk rfl (hb hby own_d28_4) ⟨b, bv, kb, rfl, N1', Et1, Er, Fr_, Fs_, Vr⟩ (by decide) (by decide)
def own_ai_Q (Z : State) (a1 : Addr) (p1 cs : Int32) (h0 : Heap) (n0 : Nat) (v : Option Value) (h : Heap) (L : List Loc) : Prop := v = none ∧ Fr n0 L ∧ Keep h0 h [a1] ∧ ∃ b k, n0 ≤ b ∧ h0.size ≤ b ∧ Fld Z h a1 "java/lang/AbstractStringBuilder" "value" "[B" (.ref b) ∧ Fld Z h a1 "java/lang/AbstractStringBuilder" "coder" "B" (.int 0) ∧ Fld Z h a1 "java/lang/AbstractStringBuilder" "count" "I" (.int 0) ∧ Fld Z h a1 "java/lang/AbstractStringBuilder" "maybeLatin1" "Z" (.int 0) ∧ Arv Z h b k .byte (16 : Int32) [(.int 0), (.int 0), (.int 0), (.int 0), (.int 0), (.int 0), (.int 0), (.int 0), (.int 0), (.int 0), (.int 0), (.int 0), (.int 0), (.int 0), (.int 0), (.int 0)] (.int 0)
set_option maxRecDepth 65536 in
set_option maxHeartbeats 40000000 in
theorem own_ai (l : Launch) {Z : State} {a0 : Array Value} (hw : own_W Z a0) (ws : List Jvm.Cond) (a1 : Addr) (p1 cs : Int32) (h0 : Heap) (n0 : Nat) (Z0 : n0 ≤ h0.size) (hp1 : p1 = 16) (zn : Z.heap.size ≤ n0) (OZ : Ext Z.heap h0) (Scs : Sta Z Z.heap "java/lang/String" "COMPACT_STRINGS" "Z" (.int cs)) (hcs : ¬ cs = 0) (g_a1 : n0 ≤ a1) (Ea : Exa Z h0 a1 "java/lang/StringBuilder") (Fv : Fld Z h0 a1 "java/lang/AbstractStringBuilder" "value" "[B" .null) (Fc : Fld Z h0 a1 "java/lang/AbstractStringBuilder" "coder" "B" (.int 0)) (Fn : Fld Z h0 a1 "java/lang/AbstractStringBuilder" "count" "I" (.int 0)) (Fm : Fld Z h0 a1 "java/lang/AbstractStringBuilder" "maybeLatin1" "Z" (.int 0)) :
    MetFree l (⟨"java/lang/AbstractStringBuilder", "<init>", "(I)V"⟩ : MethodName) (head1 (Jvm.Cond.code (⟨"java/lang/AbstractStringBuilder", "<init>", "(I)V"⟩ : MethodName) jdk_68_method_2_code 2 none :: ws) ({ frames := 1, cells := 1, slots := 16, locals := 12 } : Room)) (fun a U => a = #[(.ref a1), (.int p1)] ∧ Z.Warmed39 U.vm ∧ U.heap = h0) (fun _ _ _ _ _ => True) (fun _ U o U' => ∃ v L, o = .returned v ∧ own_ai_Q Z a1 p1 cs h0 n0 v U'.heap L ∧ FrameEnd U o U' L ({ frames := 1, cells := 1, slots := 16, locals := 12 } : Room).cells ({ frames := 1, cells := 1, slots := 16, locals := 12 } : Room).slots) := by
  refine own_enter (C := ({ frames := 1, cells := 1, slots := 16, locals := 12 } : Room).cells) (S := ({ frames := 1, cells := 1, slots := 16, locals := 12 } : Room).slots) (plainFor_of_name own_pn3) ?_
  intro p e s m below meth c T0 X0 I e0
  obtain ⟨hx, hby, hml, hown, hnm, hret, hlk, hZ⟩ := I
  have N0 := Fr.nil n0
  have O0 := own_extr h0
  refine own_cast (own_ef6 m a1 p1) ?_
  show own_Go _ _ _ _ T0 (mkF m 0 #[.val (.ref a1), .val (.int p1)] [])
  rw [hp1]
  show own_Go _ _ _ _ T0 (mkF m 0 #[.val (.ref a1), .val (.int 16)] [])
  have K0 := Keep.refl h0 [a1]
  refine own_st (fun _ k => XS.aloadN X0.here hx rfl (hb hby own_d6_0) rfl rfl k) ?_
  obtain ⟨T1, X1, e1, st1⟩ := initO X0 hx hZ hown (own_w41 hw) (own_w12 hw) (own_w13 hw) e0 (g := (mkF m 1 #[.val (.ref a1), .val (.int 16)] [(.ref a1)])) rfl (by rw [hml]; rfl) rfl (hb hby own_d6_1) (by decide) (W := 0) (Nat.le_of_eq rfl) (by decide)
  refine own_st st1 ?_
  obtain ⟨T2, X2, e2, st2⟩ := getS2 X1 hx hZ hown (host := "") (Or.inl (own_w42 hw)) Via.refl e1 (Scs.ext OZ) (g := (mkF m 4 #[.val (.ref a1), .val (.int 16)] [])) rfl (hb hby own_d6_4)
  refine own_st st2 ?_
  refine own_st (fun _ k => XS.ifNo X2.here hx rfl (hb hby own_d6_7) rfl ((if0 _ _).trans (feq (hcs : ¬ (cs = (0 : Int32)))).1) k) ?_
  refine own_st (fun _ k => XS.aloadN X2.here hx rfl (hb hby own_d6_10) rfl rfl k) ?_
  refine own_st (fun _ k => XS.iloadN X2.here hx rfl (hb hby own_d6_11) rfl k) ?_
  obtain ⟨T3, hp3, kk3, X3, e3, Et3, A3, st3⟩ := newP X2 hx hZ (aty := .byte) (own_w24 hw) e2 (g := (mkF m 12 #[.val (.ref a1), .val (.int 16)] [(.int 16), (.ref a1)])) rfl (hb hby own_d6_12) rfl (by decide) (cap := 16) (by decide) (by decide) (by decide) (by decide)
  obtain ⟨b3, g3⟩ : ∃ z, z = h0.size := ⟨_, rfl⟩
  rw [← g3] at A3 st3
  have s_b3 : h0.size ≤ b3 := Nat.le_trans K0.1 (Nat.le_of_eq g3.symm)
  have g_b3 : n0 ≤ b3 := Nat.le_trans Z0 s_b3
  have K3x := Keep.ext K0 Et3
  have zz3 := own_extt OZ Et3
  have Ex_a1_3 := Ea.ext Et3
  have F_value_a1_3 := Fv.ext Et3
  have F_coder_a1_3 := Fc.ext Et3
  have F_count_a1_3 := Fn.ext Et3
  have F_maybeLatin1_a1_3 := Fm.ext Et3
  have Va3 : Arv Z hp3 b3 kk3 .byte (16 : Int32) [(.int 0), (.int 0), (.int 0), (.int 0), (.int 0), (.int 0), (.int 0), (.int 0), (.int 0), (.int 0), (.int 0), (.int 0), (.int 0), (.int 0), (.int 0), (.int 0)] (.int 0) := (Arv.new A3 (by decide)).pad (pad_rep [] (.int 0) 16)
  refine own_st st3 ?_
  have ne_a1_b : a1 ≠ b3 := Nat.ne_of_lt (Nat.lt_of_lt_of_le Ea.lt s_b3)
  obtain ⟨T4, hp4, X4, e4, W4, st4⟩ := putF X3 hx hZ hown (host := "") (Or.inl (own_w43 hw)) Via.refl e3 F_value_a1_3 Ex_a1_3 (Or.inl (own_w44 hw)) (own_w30 hw) (ty := (.array .byte)) (by decide) rfl rfl (g := (mkF m 14 #[.val (.ref a1), .val (.int 16)] [(.ref b3), (.ref a1)])) rfl rfl (hb hby own_d6_14)
  have K4 := Keep.wr K3x W4 (Or.inl (List.mem_of_getElem? (i := 0) rfl))
  have zz4 := own_extw zz3 W4 (Nat.le_trans zn g_a1)
  have V_b3_4 := Va3.other W4 (Ne.symm ne_a1_b)
  have Ex_a1_4 := Ex_a1_3.wr W4
  have F_coder_a1_4 := F_coder_a1_3.other W4 (Or.inr (slot_ne (Or.inl (own_w46 hw)) (Or.inl (own_w44 hw)) (by decide) (t := .byte) (t' := (.array .byte)) (by decide) (by decide)))
  have F_count_a1_4 := F_count_a1_3.other W4 (Or.inr (slot_ne (Or.inl (own_w72 hw)) (Or.inl (own_w44 hw)) (by decide) (t := .int) (t' := (.array .byte)) (by decide) (by decide)))
  have F_maybeLatin1_a1_4 := F_maybeLatin1_a1_3.other W4 (Or.inr (slot_ne (Or.inl (own_w259 hw)) (Or.inl (own_w44 hw)) (by decide) (t := .boolean) (t' := (.array .byte)) (by decide) (by decide)))
  have F_value_a1_4 := F_value_a1_3.same W4
  have N4 := Fr.snoc X4 N0 g_a1
  refine own_st st4 ?_
  show own_Go _ _ _ _ T4 (mkF m 17 #[.val (.ref a1), .val (.int 16)] [])
  refine own_st (fun _ k => XS.aloadN X4.here hx rfl (hb hby own_d6_17) rfl rfl k) ?_
  refine own_st (fun _ k => XS.iconst X4.here hx rfl (hb hby own_d6_18) k) ?_
  obtain ⟨T5, hp5, X5, e5, W5, st5⟩ := putFN X4 hx hZ hown (own_w45 hw) Via.refl e4 F_coder_a1_4 Ex_a1_4 (Or.inl (own_w46 hw)) (own_w30 hw) (ty := .byte) (v' := (.int 0)) (by decide) rfl (by decide) (g := (mkF m 19 #[.val (.ref a1), .val (.int 16)] [(.int 0), (.ref a1)])) rfl rfl (hb hby own_d6_19)
  have K5 := Keep.wr K4 W5 (Or.inl (List.mem_of_getElem? (i := 0) rfl))
  have zz5 := own_extw zz4 W5 (Nat.le_trans zn g_a1)
  have V_b3_5 := V_b3_4.other W5 (Ne.symm ne_a1_b)
  have Ex_a1_5 := Ex_a1_4.wr W5
  have F_value_a1_5 := F_value_a1_4.other W5 (Or.inr (slot_ne (Or.inl (own_w44 hw)) (Or.inl (own_w46 hw)) (by decide) (t := (.array .byte)) (t' := .byte) (by decide) (by decide)))
  have F_count_a1_5 := F_count_a1_4.other W5 (Or.inr (slot_ne (Or.inl (own_w72 hw)) (Or.inl (own_w46 hw)) (by decide) (t := .int) (t' := .byte) (by decide) (by decide)))
  have F_maybeLatin1_a1_5 := F_maybeLatin1_a1_4.other W5 (Or.inr (slot_ne (Or.inl (own_w259 hw)) (Or.inl (own_w46 hw)) (by decide) (t := .boolean) (t' := .byte) (by decide) (by decide)))
  have F_coder_a1_5 := F_coder_a1_4.same W5
  have N5 := Fr.snoc X5 N4 g_a1
  refine own_st st5 ?_
  refine own_st (fun _ k => XS.goto X5.here hx rfl (pc0 := 22) (pc' := 38) rfl (hb hby own_d6_22) (by decide) (by decide) k) ?_
  exact own_retV X5 hx hret hlk (hb hby own_d6_38) ⟨rfl, N5, by rw [e5]; exact K5, b3, _, g_b3, s_b3, by rw [e5]; exact F_value_a1_5, by rw [e5]; exact F_coder_a1_5, by rw [e5]; exact F_count_a1_5, by rw [e5]; exact F_maybeLatin1_a1_5, by rw [e5]; exact V_b3_5⟩ (by decide) (by decide)
def own_bi_Q (Z : State) (a1 : Addr) (cs : Int32) (h0 : Heap) (n0 : Nat) (v : Option Value) (h : Heap) (L : List Loc) : Prop := v = none ∧ Fr n0 L ∧ Keep h0 h [a1] ∧ ∃ b k, n0 ≤ b ∧ h0.size ≤ b ∧ Fld Z h a1 "java/lang/AbstractStringBuilder" "value" "[B" (.ref b) ∧ Fld Z h a1 "java/lang/AbstractStringBuilder" "coder" "B" (.int 0) ∧ Fld Z h a1 "java/lang/AbstractStringBuilder" "count" "I" (.int 0) ∧ Fld Z h a1 "java/lang/AbstractStringBuilder" "maybeLatin1" "Z" (.int 0) ∧ Arv Z h b k .byte (16 : Int32) [(.int 0), (.int 0), (.int 0), (.int 0), (.int 0), (.int 0), (.int 0), (.int 0), (.int 0), (.int 0), (.int 0), (.int 0), (.int 0), (.int 0), (.int 0), (.int 0)] (.int 0)
set_option maxRecDepth 65536 in
set_option maxHeartbeats 40000000 in
theorem own_bi (l : Launch) {Z : State} {a0 : Array Value} (hw : own_W Z a0) (ws : List Jvm.Cond) (a1 : Addr) (cs : Int32) (h0 : Heap) (n0 : Nat) (Z0 : n0 ≤ h0.size) (zn : Z.heap.size ≤ n0) (OZ : Ext Z.heap h0) (Scs : Sta Z Z.heap "java/lang/String" "COMPACT_STRINGS" "Z" (.int cs)) (hcs : ¬ cs = 0) (g_a1 : n0 ≤ a1) (Ea : Exa Z h0 a1 "java/lang/StringBuilder") (Fv : Fld Z h0 a1 "java/lang/AbstractStringBuilder" "value" "[B" .null) (Fc : Fld Z h0 a1 "java/lang/AbstractStringBuilder" "coder" "B" (.int 0)) (Fn : Fld Z h0 a1 "java/lang/AbstractStringBuilder" "count" "I" (.int 0)) (Fm : Fld Z h0 a1 "java/lang/AbstractStringBuilder" "maybeLatin1" "Z" (.int 0)) :
    MetFree l (⟨"java/lang/StringBuilder", "<init>", "()V"⟩ : MethodName) (head1 (Jvm.Cond.code (⟨"java/lang/StringBuilder", "<init>", "()V"⟩ : MethodName) jdk_67_method_1_code 1 none :: ws) ({ frames := 2, cells := 1, slots := 16, locals := 25 } : Room)) (fun a U => a = #[(.ref a1)] ∧ Z.Warmed39 U.vm ∧ U.heap = h0) (fun _ _ _ _ _ => True) (fun _ U o U' => ∃ v L, o = .returned v ∧ own_bi_Q Z a1 cs h0 n0 v U'.heap L ∧ FrameEnd U o U' L ({ frames := 2, cells := 1, slots := 16, locals := 25 } : Room).cells ({ frames := 2, cells := 1, slots := 16, locals := 25 } : Room).slots) := by
  refine own_enter (C := ({ frames := 2, cells := 1, slots := 16, locals := 25 } : Room).cells) (S := ({ frames := 2, cells := 1, slots := 16, locals := 25 } : Room).slots) (plainFor_of_name own_pn9) ?_
  intro p e s m below meth c T0 X0 I e0
  obtain ⟨hx, hby, hml, hown, hnm, hret, hlk, hZ⟩ := I
  have N0 := Fr.nil n0
  have O0 := own_extr h0
  refine own_cast (own_ef5 m a1) ?_
  show own_Go _ _ _ _ T0 (mkF m 0 #[.val (.ref a1)] [])
  refine own_st (fun _ k => XS.aloadN X0.here hx rfl (hb hby own_d5_0) rfl rfl k) ?_
  refine own_st (fun _ k => XS.bipush X0.here hx rfl (hb hby own_d5_1) k) ?_
  obtain ⟨v1, T1, L1, hQ1, X1, st1⟩ := own_callI X0 hx hZ (y := (⟨"java/lang/AbstractStringBuilder", "<init>", "(I)V"⟩ : MethodName)) rfl hown (own_w35 hw) (own_w36 hw) (own_w39 hw) (own_w40 hw) (by decide) (own_ai l hw [] a1 (16 : Int32) cs h0 n0 (Nat.le_trans Z0 O0.1) rfl zn (own_extt OZ O0) Scs hcs g_a1 Ea Fv Fc Fn Fm) e0 (g := (mkF m 3 #[.val (.ref a1)] [(.int 16), (.ref a1)])) rfl (by rw [hml]; rfl) (argsL := [(.int 16)]) (rest := []) (lenOf own_pd15 rfl) rfl rfl (W := 0) (Nat.le_of_eq rfl) (hb hby own_d5_3) (by decide) (by decide) (by decide) (by decide)
  obtain ⟨rfl, N1, K1, b, kb, gb, sb, G1, G2, G3, G4, Vb⟩ := hQ1
  have N1' := Fr.app N0 N1
  refine own_st st1 ?_
  exact own_retV X1 hx hret hlk (hb hby own_d5_6) ⟨rfl, N1', K1, b, kb, gb, sb, G1, G2, G3, G4, Vb⟩ (by decide) (by decide)
def own_gv_Q (Z : State) (bA bV : Addr) (h0 : Heap) (n0 : Nat) (v : Option Value) (h : Heap) (L : List Loc) : Prop := v = some (.ref bV) ∧ Fr n0 L ∧ h = h0
set_option maxRecDepth 65536 in
set_option maxHeartbeats 40000000 in
theorem own_gv (l : Launch) {Z : State} {a0 : Array Value} (hw : own_W Z a0) (ws : List Jvm.Cond) (bA bV : Addr) (h0 : Heap) (n0 : Nat) (Z0 : n0 ≤ h0.size) (Fbv : Fld Z h0 bA "java/lang/AbstractStringBuilder" "value" "[B" (.ref bV)) :
    MetFree l (⟨"java/lang/AbstractStringBuilder", "getValue", "()[B"⟩ : MethodName) (head1 (Jvm.Cond.code (⟨"java/lang/AbstractStringBuilder", "getValue", "()[B"⟩ : MethodName) jdk_68_method_64_code 1 (some (.array .byte)) :: ws) ({ frames := 0, cells := 0, slots := 0, locals := 0 } : Room)) (fun a U => a = #[(.ref bA)] ∧ Z.Warmed39 U.vm ∧ U.heap = h0) (fun _ _ _ _ _ => True) (fun _ U o U' => ∃ v L, o = .returned v ∧ own_gv_Q Z bA bV h0 n0 v U'.heap L ∧ FrameEnd U o U' L ({ frames := 0, cells := 0, slots := 0, locals := 0 } : Room).cells ({ frames := 0, cells := 0, slots := 0, locals := 0 } : Room).slots) := by
  refine own_enter (C := ({ frames := 0, cells := 0, slots := 0, locals := 0 } : Room).cells) (S := ({ frames := 0, cells := 0, slots := 0, locals := 0 } : Room).slots) (plainFor_of_name own_pn3) ?_
  intro p e s m below meth c T0 X0 I e0
  obtain ⟨hx, hby, hml, hown, hnm, hret, hlk, hZ⟩ := I
  have N0 := Fr.nil n0
  have O0 := own_extr h0
  refine own_cast (own_ef18 m bA) ?_
  show own_Go _ _ _ _ T0 (mkF m 0 #[.val (.ref bA)] [])
  refine own_st (fun _ k => XS.aloadN X0.here hx rfl (hb hby own_d18_0) rfl rfl k) ?_
  obtain ⟨T1, X1, e1, st1⟩ := getF X0 hx hZ hown (host := "") (Or.inl (own_w43 hw)) Via.refl e0 (Fbv.ext O0) (g := (mkF m 1 #[.val (.ref bA)] [(.ref bA)])) rfl rfl (hb hby own_d18_1)
  refine own_st st1 ?_
  exact own_retA X1 hx hret rfl hlk rfl (hb hby own_d18_4) ⟨rfl, N0, e1⟩ (by decide) (by decide)
def own_al_Q (Z : State) (bA : Addr) (bC : Int32) (h0 : Heap) (n0 : Nat) (v : Option Value) (h : Heap) (L : List Loc) : Prop := v = some (.int bC) ∧ Fr n0 L ∧ h = h0
set_option maxRecDepth 65536 in
set_option maxHeartbeats 40000000 in
theorem own_al (l : Launch) {Z : State} {a0 : Array Value} (hw : own_W Z a0) (ws : List Jvm.Cond) (bA : Addr) (bC : Int32) (h0 : Heap) (n0 : Nat) (Z0 : n0 ≤ h0.size) (Fbn : Fld Z h0 bA "java/lang/AbstractStringBuilder" "count" "I" (.int bC)) :
    MetFree l (⟨"java/lang/AbstractStringBuilder", "length", "()I"⟩ : MethodName) (head1 (Jvm.Cond.code (⟨"java/lang/AbstractStringBuilder", "length", "()I"⟩ : MethodName) jdk_68_method_6_code 1 (some .int) :: ws) ({ frames := 0, cells := 0, slots := 0, locals := 0 } : Room)) (fun a U => a = #[(.ref bA)] ∧ Z.Warmed39 U.vm ∧ U.heap = h0) (fun _ _ _ _ _ => True) (fun _ U o U' => ∃ v L, o = .returned v ∧ own_al_Q Z bA bC h0 n0 v U'.heap L ∧ FrameEnd U o U' L ({ frames := 0, cells := 0, slots := 0, locals := 0 } : Room).cells ({ frames := 0, cells := 0, slots := 0, locals := 0 } : Room).slots) := by
  refine own_enter (C := ({ frames := 0, cells := 0, slots := 0, locals := 0 } : Room).cells) (S := ({ frames := 0, cells := 0, slots := 0, locals := 0 } : Room).slots) (plainFor_of_name own_pn3) ?_
  intro p e s m below meth c T0 X0 I e0
  obtain ⟨hx, hby, hml, hown, hnm, hret, hlk, hZ⟩ := I
  have N0 := Fr.nil n0
  have O0 := own_extr h0
  refine own_cast (own_ef20 m bA) ?_
  show own_Go _ _ _ _ T0 (mkF m 0 #[.val (.ref bA)] [])
  refine own_st (fun _ k => XS.aloadN X0.here hx rfl (hb hby own_d20_0) rfl rfl k) ?_
  obtain ⟨T1, X1, e1, st1⟩ := getF X0 hx hZ hown (host := "") (Or.inl (own_w71 hw)) Via.refl e0 (Fbn.ext O0) (g := (mkF m 1 #[.val (.ref bA)] [(.ref bA)])) rfl rfl (hb hby own_d20_1)
  refine own_st st1 ?_
  exact own_retI X1 hx hret hlk (hb hby own_d20_4) ⟨rfl, N0, e1⟩ (by decide) (by decide)
def own_sl_Q (Z : State) (bA : Addr) (bC : Int32) (h0 : Heap) (n0 : Nat) (v : Option Value) (h : Heap) (L : List Loc) : Prop := v = some (.int bC) ∧ Fr n0 L ∧ h = h0
set_option maxRecDepth 65536 in
set_option maxHeartbeats 40000000 in
theorem own_sl (l : Launch) {Z : State} {a0 : Array Value} (hw : own_W Z a0) (ws : List Jvm.Cond) (bA : Addr) (bC : Int32) (h0 : Heap) (n0 : Nat) (Z0 : n0 ≤ h0.size) (Eb : Exa Z h0 bA "java/lang/StringBuilder") (Fbn : Fld Z h0 bA "java/lang/AbstractStringBuilder" "count" "I" (.int bC)) :
    MetFree l (⟨"java/lang/StringBuilder", "length", "()I"⟩ : MethodName) (head1 (Jvm.Cond.code (⟨"java/lang/StringBuilder", "length", "()I"⟩ : MethodName) jdk_67_method_93_code 1 (some .int) :: ws) ({ frames := 1, cells := 0, slots := 0, locals := 12 } : Room)) (fun a U => a = #[(.ref bA)] ∧ Z.Warmed39 U.vm ∧ U.heap = h0) (fun _ _ _ _ _ => True) (fun _ U o U' => ∃ v L, o = .returned v ∧ own_sl_Q Z bA bC h0 n0 v U'.heap L ∧ FrameEnd U o U' L ({ frames := 1, cells := 0, slots := 0, locals := 12 } : Room).cells ({ frames := 1, cells := 0, slots := 0, locals := 12 } : Room).slots) := by
  refine own_enter (C := ({ frames := 1, cells := 0, slots := 0, locals := 12 } : Room).cells) (S := ({ frames := 1, cells := 0, slots := 0, locals := 12 } : Room).slots) (plainFor_of_name own_pn9) ?_
  intro p e s m below meth c T0 X0 I e0
  obtain ⟨hx, hby, hml, hown, hnm, hret, hlk, hZ⟩ := I
  have N0 := Fr.nil n0
  have O0 := own_extr h0
  refine own_cast (own_ef19 m bA) ?_
  show own_Go _ _ _ _ T0 (mkF m 0 #[.val (.ref bA)] [])
  refine own_st (fun _ k => XS.aloadN X0.here hx rfl (hb hby own_d19_0) rfl rfl k) ?_
  obtain ⟨v1, T1, L1, hQ1, X1, st1⟩ := own_callT X0 hx hZ (y := (⟨"java/lang/AbstractStringBuilder", "length", "()I"⟩ : MethodName)) (by decide) hown (own_w123 hw) (own_same (y := (⟨"java/lang/AbstractStringBuilder", "length", "()I"⟩ : MethodName)) (own_w119 hw) (own_w115 hw) (own_w113 hw) rfl (by decide)) (own_w119 hw) (own_w55 hw) (own_w39 hw) (own_w124 hw) (own_al l hw [] bA bC h0 n0 (Nat.le_trans Z0 O0.1) (Fbn.ext O0)) e0 (Ins.self (Eb.ext O0)) (g := (mkF m 1 #[.val (.ref bA)] [(.ref bA)])) rfl (by rw [hml]; rfl) (argsL := []) (rest := []) (lenOf own_pd16 rfl) rfl rfl (W := 0) (Nat.le_of_eq rfl) (hb hby own_d19_1) (by decide) (by decide) (by decide) (by decide)
  obtain ⟨rfl, N1, e1⟩ := hQ1
  have N1' := Fr.app N0 N1
  refine own_st st1 ?_
  exact own_retI X1 hx hret hlk (hb hby own_d19_4) ⟨rfl, N1', e1⟩ (by decide) (by decide)
def own_ec_Q (Z : State) (bA bV : Addr) (bK : ClassId) (bU : List Value) (mc bC : Int32) (h0 : Heap) (n0 : Nat) (v : Option Value) (h : Heap) (L : List Loc) : Prop := v = none ∧ Fr n0 L ∧ h = h0
set_option maxRecDepth 65536 in
set_option maxHeartbeats 40000000 in
theorem own_ec (l : Launch) {Z : State} {a0 : Array Value} (hw : own_W Z a0) (ws : List Jvm.Cond) (bA bV : Addr) (bK : ClassId) (bU : List Value) (mc bC : Int32) (h0 : Heap) (n0 : Nat) (Z0 : n0 ≤ h0.size) (hcap : ¬ (0 : Int32) < (mc - (16 : Int32))) (Eb : Exa Z h0 bA "java/lang/StringBuilder") (Fbv : Fld Z h0 bA "java/lang/AbstractStringBuilder" "value" "[B" (.ref bV)) (Fbc : Fld Z h0 bA "java/lang/AbstractStringBuilder" "coder" "B" (.int 0)) (Fbn : Fld Z h0 bA "java/lang/AbstractStringBuilder" "count" "I" (.int bC)) (Fbm : Fld Z h0 bA "java/lang/AbstractStringBuilder" "maybeLatin1" "Z" (.int 0)) (Vb : Arv Z h0 bV bK .byte (16 : Int32) bU (.int 0)) :
    MetFree l (⟨"java/lang/AbstractStringBuilder", "ensureCapacityInternal", "(I)V"⟩ : MethodName) (head1 (Jvm.Cond.code (⟨"java/lang/AbstractStringBuilder", "ensureCapacityInternal", "(I)V"⟩ : MethodName) jdk_68_method_9_code 3 none :: ws) ({ frames := 0, cells := 0, slots := 0, locals := 0 } : Room)) (fun a U => a = #[(.ref bA), (.int mc)] ∧ Z.Warmed39 U.vm ∧ U.heap = h0) (fun _ _ _ _ _ => True) (fun _ U o U' => ∃ v L, o = .returned v ∧ own_ec_Q Z bA bV bK bU mc bC h0 n0 v U'.heap L ∧ FrameEnd U o U' L ({ frames := 0, cells := 0, slots := 0, locals := 0 } : Room).cells ({ frames := 0, cells := 0, slots := 0, locals := 0 } : Room).slots) := by
  refine own_enter (C := ({ frames := 0, cells := 0, slots := 0, locals := 0 } : Room).cells) (S := ({ frames := 0, cells := 0, slots := 0, locals := 0 } : Room).slots) (plainFor_of_name own_pn3) ?_
  intro p e s m below meth c T0 X0 I e0
  obtain ⟨hx, hby, hml, hown, hnm, hret, hlk, hZ⟩ := I
  have N0 := Fr.nil n0
  have O0 := own_extr h0
  refine own_cast (own_ef11 m bA mc) ?_
  show own_Go _ _ _ _ T0 (mkF m 0 #[.val (.ref bA), .val (.int mc), .unset] [])
  refine own_st (fun _ k => XS.aloadN X0.here hx rfl (hb hby own_d11_0) rfl rfl k) ?_
  obtain ⟨T1, X1, e1, st1⟩ := getF X0 hx hZ hown (host := "") (Or.inl (own_w43 hw)) Via.refl e0 (Fbv.ext O0) (g := (mkF m 1 #[.val (.ref bA), .val (.int mc), .unset] [(.ref bA)])) rfl rfl (hb hby own_d11_1)
  refine own_st st1 ?_
  refine own_st (own_len X1 hx hZ e1 (Vb.ext O0) (g := (mkF m 4 #[.val (.ref bA), .val (.int mc), .unset] [(.ref bV)])) rfl rfl (hb hby own_d11_4)) ?_
  refine own_st (fun _ k => XS.aloadN X1.here hx rfl (hb hby own_d11_5) rfl rfl k) ?_
  obtain ⟨T2, X2, e2, st2⟩ := getF X1 hx hZ hown (host := "") (Or.inl (own_w45 hw)) Via.refl e1 (Fbc.ext O0) (g := (mkF m 6 #[.val (.ref bA), .val (.int mc), .unset] [(.ref bA), (.int 16)])) rfl rfl (hb hby own_d11_6)
  refine own_st st2 ?_
  refine own_st (fun _ k => XS.ishr X2.here hx rfl (hb hby own_d11_9) rfl k) ?_
  show own_Go _ _ _ _ T2 (mkF m 10 #[.val (.ref bA), .val (.int mc), .unset] [(.int ((16 : Int32) >>> ((0 : Int32) &&& 31)))])
  rw [show ((16 : Int32) >>> ((0 : Int32) &&& 31)) = (16 : Int32) from by decide]
  refine own_st (fun _ k => XS.istoreN X2.here hx rfl (hb hby own_d11_10) rfl (l' := #[.val (.ref bA), .val (.int mc), .val (.int 16)]) rfl k) ?_
  refine own_st (fun _ k => XS.iloadN X2.here hx rfl (hb hby own_d11_11) rfl k) ?_
  refine own_st (fun _ k => XS.iloadN X2.here hx rfl (hb hby own_d11_12) rfl k) ?_
  refine own_st (fun _ k => XS.isub X2.here hx rfl (hb hby own_d11_13) rfl k) ?_
  refine own_st (fun _ k => XS.ifYes X2.here hx rfl (pc0 := 14) (pc' := 38) rfl (hb hby own_d11_14) rfl ((if0 _ _).trans (flt (hcap : ¬ ((0 : Int32) < (mc - (16 : Int32))))).2.2.2) (by decide) (by decide) k) ?_
  exact own_retV X2 hx hret hlk (hb hby own_d11_38) ⟨rfl, N0, e2⟩ (by decide) (by decide)
def own_in0_Q (Z : State) (bA sA : Addr) (cs : Int32) (h0 : Heap) (n0 : Nat) (v : Option Value) (h : Heap) (L : List Loc) : Prop := v = none ∧ Fr n0 L ∧ h = h0
set_option maxRecDepth 65536 in
set_option maxHeartbeats 40000000 in
theorem own_in0 (l : Launch) {Z : State} {a0 : Array Value} (hw : own_W Z a0) (ws : List Jvm.Cond) (bA sA : Addr) (cs : Int32) (h0 : Heap) (n0 : Nat) (Z0 : n0 ≤ h0.size) (zn : Z.heap.size ≤ n0) (OZ : Ext Z.heap h0) (Scs : Sta Z Z.heap "java/lang/String" "COMPACT_STRINGS" "Z" (.int cs)) (hcs : ¬ cs = 0) (Fbc : Fld Z h0 bA "java/lang/AbstractStringBuilder" "coder" "B" (.int 0)) (Es : Exa Z h0 sA "java/lang/String") (Fsc : Fld Z h0 sA "java/lang/String" "coder" "B" (.int 0)) :
    MetFree l (⟨"java/lang/AbstractStringBuilder", "inflateIfNeededFor", "(Ljava/lang/String;)V"⟩ : MethodName) (head1 (Jvm.Cond.code (⟨"java/lang/AbstractStringBuilder", "inflateIfNeededFor", "(Ljava/lang/String;)V"⟩ : MethodName) jdk_68_method_71_code 2 none :: ws) ({ frames := 1, cells := 0, slots := 0, locals := 13 } : Room)) (fun a U => a = #[(.ref bA), (.ref sA)] ∧ Z.Warmed39 U.vm ∧ U.heap = h0) (fun _ _ _ _ _ => True) (fun _ U o U' => ∃ v L, o = .returned v ∧ own_in0_Q Z bA sA cs h0 n0 v U'.heap L ∧ FrameEnd U o U' L ({ frames := 1, cells := 0, slots := 0, locals := 13 } : Room).cells ({ frames := 1, cells := 0, slots := 0, locals := 13 } : Room).slots) := by
  refine own_enter (C := ({ frames := 1, cells := 0, slots := 0, locals := 13 } : Room).cells) (S := ({ frames := 1, cells := 0, slots := 0, locals := 13 } : Room).slots) (plainFor_of_name own_pn3) ?_
  intro p e s m below meth c T0 X0 I e0
  obtain ⟨hx, hby, hml, hown, hnm, hret, hlk, hZ⟩ := I
  have N0 := Fr.nil n0
  have O0 := own_extr h0
  refine own_cast (own_ef13 m bA sA) ?_
  show own_Go _ _ _ _ T0 (mkF m 0 #[.val (.ref bA), .val (.ref sA)] [])
  obtain ⟨T1, X1, e1, st1⟩ := getS2 X0 hx hZ hown (host := "") (Or.inl (own_w42 hw)) Via.refl e0 (Scs.ext (own_extt OZ O0)) (g := (mkF m 0 #[.val (.ref bA), .val (.ref sA)] [])) rfl (hb hby own_d13_0)
  refine own_st st1 ?_
  refine own_st (fun _ k => XS.ifNo X1.here hx rfl (hb hby own_d13_3) rfl ((if0 _ _).trans (feq (hcs : ¬ (cs = (0 : Int32)))).1) k) ?_
  refine own_st (fun _ k => XS.aloadN X1.here hx rfl (hb hby own_d13_6) rfl rfl k) ?_
  obtain ⟨T2, X2, e2, st2⟩ := getF X1 hx hZ hown (host := "") (Or.inl (own_w45 hw)) Via.refl e1 (Fbc.ext O0) (g := (mkF m 7 #[.val (.ref bA), .val (.ref sA)] [(.ref bA)])) rfl rfl (hb hby own_d13_7)
  refine own_st st2 ?_
  refine own_st (fun _ k => XS.aloadN X2.here hx rfl (hb hby own_d13_10) rfl rfl k) ?_
  obtain ⟨v3, T3, L3, hQ3, X3, st3⟩ := own_callV X2 hx hZ (y := (⟨"java/lang/String", "coder", "()B"⟩ : MethodName)) hown (own_w88 hw) (own_w65 hw) (own_w67 hw) (own_w66 hw) (own_w22 hw) (own_w68 hw) (by decide) (own_co l hw [] sA cs (0 : Int32) h0 n0 (Nat.le_trans Z0 O0.1) zn (own_extt OZ O0) Scs hcs (by decide) (Fsc.ext O0)) e2 (Es.ext O0) (g := (mkF m 11 #[.val (.ref bA), .val (.ref sA)] [(.ref sA), (.int 0)])) rfl (by rw [hml]; rfl) (argsL := []) (rest := [(.int 0)]) (lenOf own_pd1 rfl) rfl rfl (W := 1) (Nat.le_of_eq rfl) (hb hby own_d13_11) (by decide) (by decide) (by decide) (by decide)
  obtain ⟨rfl, N3, e3⟩ := hQ3
  have N3' := Fr.app N0 N3
  refine own_st st3 ?_
  refine own_st (fun _ k => XS.icmpYes X3.here hx rfl (pc0 := 14) (pc' := 21) rfl (hb hby own_d13_14) rfl (teq (by decide : (0 : Int32) = (0 : Int32))).1 (by decide) (by decide) k) ?_
  exact own_retV X3 hx hret hlk (hb hby own_d13_21) ⟨rfl, N3', e3⟩ (by decide) (by decide)
def own_gb_Q (Z : State) (sA sV : Addr) (sK : ClassId) (sU : List Value) (dV : Addr) (dK : ClassId) (dU res : List Value) (p2 co of cs sZ dZ : Int32) (h0 : Heap) (n0 : Nat) (v : Option Value) (h : Heap) (L : List Loc) : Prop := v = none ∧ Fr n0 L ∧ Keep h0 h [dV] ∧ Arv Z h dV dK .byte dZ res (.int 0)
set_option maxRecDepth 65536 in
set_option maxHeartbeats 40000000 in
theorem own_gb (l : Launch) {Z : State} {a0 : Array Value} (hw : own_W Z a0) (ws : List Jvm.Cond) (sA sV : Addr) (sK : ClassId) (sU : List Value) (dV : Addr) (dK : ClassId) (dU res : List Value) (p2 co of cs sZ dZ : Int32) (h0 : Heap) (n0 : Nat) (Z0 : n0 ≤ h0.size) (zn : Z.heap.size ≤ n0) (OZ : Ext Z.heap h0) (Scs : Sta Z Z.heap "java/lang/String" "COMPACT_STRINGS" "Z" (.int cs)) (hcs : ¬ cs = 0) (hnc : nar .byte co = co) (hof : (p2 <<< (co &&& 31)) = of) (Es : Exa Z h0 sA "java/lang/String") (Fsv : Fld Z h0 sA "java/lang/String" "value" "[B" (.ref sV)) (Fsc : Fld Z h0 sA "java/lang/String" "coder" "B" (.int co)) (Vs : Arv Z h0 sV sK .byte sZ sU (.int 0)) (g_dV : n0 ≤ dV) (Vd : Arv Z h0 dV dK .byte dZ dU (.int 0)) (ho0 : ¬ of < 0) (hz0 : ¬ sZ < 0) (ho5 : of.toNatClampNeg + sZ.toNatClampNeg ≤ (dZ : Int32).toNatClampNeg) (hol : of.toNatClampNeg + sZ.toNatClampNeg ≤ dU.length) (hres : own_put dU of sU sZ = res) :
    MetFree l (⟨"java/lang/String", "getBytes", "([BIB)V"⟩ : MethodName) (head1 (Jvm.Cond.code (⟨"java/lang/String", "getBytes", "([BIB)V"⟩ : MethodName) jdk_42_method_147_code 4 none :: ws) ({ frames := 1, cells := 0, slots := 0, locals := 18 } : Room)) (fun a U => a = #[(.ref sA), (.ref dV), (.int p2), (.int co)] ∧ Z.Warmed39 U.vm ∧ U.heap = h0) (fun _ _ _ _ _ => True) (fun _ U o U' => ∃ v L, o = .returned v ∧ own_gb_Q Z sA sV sK sU dV dK dU res p2 co of cs sZ dZ h0 n0 v U'.heap L ∧ FrameEnd U o U' L ({ frames := 1, cells := 0, slots := 0, locals := 18 } : Room).cells ({ frames := 1, cells := 0, slots := 0, locals := 18 } : Room).slots) := by
  refine own_enter (C := ({ frames := 1, cells := 0, slots := 0, locals := 18 } : Room).cells) (S := ({ frames := 1, cells := 0, slots := 0, locals := 18 } : Room).slots) (plainFor_of_name own_pn2) ?_
  intro p e s m below meth c T0 X0 I e0
  obtain ⟨hx, hby, hml, hown, hnm, hret, hlk, hZ⟩ := I
  have N0 := Fr.nil n0
  have O0 := own_extr h0
  refine own_cast (own_ef14 m sA dV p2 co) ?_
  show own_Go _ _ _ _ T0 (mkF m 0 #[.val (.ref sA), .val (.ref dV), .val (.int p2), .val (.int co)] [])
  refine own_st (fun _ k => XS.aloadN X0.here hx rfl (hb hby own_d14_0) rfl rfl k) ?_
  obtain ⟨v1, T1, L1, hQ1, X1, st1⟩ := own_callV X0 hx hZ (y := (⟨"java/lang/String", "coder", "()B"⟩ : MethodName)) hown (own_w64 hw) (own_w65 hw) (own_w67 hw) (own_w66 hw) (own_w22 hw) (own_w68 hw) (by decide) (own_co l hw [] sA cs co h0 n0 (Nat.le_trans Z0 O0.1) zn (own_extt OZ O0) Scs hcs hnc (Fsc.ext O0)) e0 (Es.ext O0) (g := (mkF m 1 #[.val (.ref sA), .val (.ref dV), .val (.int p2), .val (.int co)] [(.ref sA)])) rfl (by rw [hml]; rfl) (argsL := []) (rest := []) (lenOf own_pd1 rfl) rfl rfl (W := 0) (Nat.le_of_eq rfl) (hb hby own_d14_1) (by decide) (by decide) (by decide) (by decide)
  obtain ⟨rfl, N1, e1⟩ := hQ1
  have N1' := Fr.app N0 N1
  refine own_st st1 ?_
  refine own_st (fun _ k => XS.iloadN X1.here hx rfl (hb hby own_d14_4) rfl k) ?_
  refine own_st (fun _ k => XS.icmpNo X1.here hx rfl (hb hby own_d14_5) rfl (teq (rfl : co = co)).2 k) ?_
  refine own_st (fun _ k => XS.aloadN X1.here hx rfl (hb hby own_d14_8) rfl rfl k) ?_
  obtain ⟨T2, X2, e2, st2⟩ := getF X1 hx hZ hown (host := "") (Or.inl (own_w63 hw)) Via.refl e1 (Fsv.ext O0) (g := (mkF m 9 #[.val (.ref sA), .val (.ref dV), .val (.int p2), .val (.int co)] [(.ref sA)])) rfl rfl (hb hby own_d14_9)
  refine own_st st2 ?_
  refine own_st (fun _ k => XS.iconst X2.here hx rfl (hb hby own_d14_12) k) ?_
  refine own_st (fun _ k => XS.aloadN X2.here hx rfl (hb hby own_d14_13) rfl rfl k) ?_
  show own_Go _ _ _ _ T2 (mkF m 14 #[.val (.ref sA), .val (.ref dV), .val (.int p2), .val (.int co)] [(.ref dV), (.int 0), (.ref sV)])
  refine own_st (fun _ k => XS.iloadN X2.here hx rfl (hb hby own_d14_14) rfl k) ?_
  refine own_st (fun _ k => XS.iloadN X2.here hx rfl (hb hby own_d14_15) rfl k) ?_
  refine own_st (fun _ k => XS.ishl X2.here hx rfl (hb hby own_d14_16) rfl k) ?_
  refine own_st (fun _ k => XS.aloadN X2.here hx rfl (hb hby own_d14_17) rfl rfl k) ?_
  obtain ⟨T3, X3, e3, st3⟩ := getF X2 hx hZ hown (host := "") (Or.inl (own_w63 hw)) Via.refl e2 (Fsv.ext O0) (g := (mkF m 18 #[.val (.ref sA), .val (.ref dV), .val (.int p2), .val (.int co)] [(.ref sA), (.int (p2 <<< (co &&& 31))), (.ref dV), (.int 0), (.ref sV)])) rfl rfl (hb hby own_d14_18)
  refine own_st st3 ?_
  refine own_st (own_len X3 hx hZ e3 (Vs.ext O0) (g := (mkF m 21 #[.val (.ref sA), .val (.ref dV), .val (.int p2), .val (.int co)] [(.ref sV), (.int (p2 <<< (co &&& 31))), (.ref dV), (.int 0), (.ref sV)])) rfl rfl (hb hby own_d14_21)) ?_
  show own_Go _ _ _ _ T3 (mkF m 22 #[.val (.ref sA), .val (.ref dV), .val (.int p2), .val (.int co)] [(.int sZ), (.int (p2 <<< (co &&& 31))), (.ref dV), (.int 0), (.ref sV)])
  rw [hof]
  show own_Go _ _ _ _ T3 (mkF m 22 #[.val (.ref sA), .val (.ref dV), .val (.int p2), .val (.int co)] [(.int sZ), (.int of), (.ref dV), (.int 0), (.ref sV)])
  obtain ⟨T4, hp4, Lc4, X4, e4, N4, K4, Vc4, st4⟩ := cpA X3 hx hZ hown (own_w94 hw) (own_w97 hw) (own_w95 hw) (own_w96 hw) e3 (Vs.ext O0) (Vd.ext O0) (Or.inl ⟨rfl, rfl⟩) (by decide) ho0 hz0 (own_z0 sZ) ho5 rfl hol N1' g_dV (g := (mkF m 22 #[.val (.ref sA), .val (.ref dV), .val (.int p2), .val (.int co)] [(.int sZ), (.int of), (.ref dV), (.int 0), (.ref sV)])) rfl (by rw [hml]; rfl) rfl (hb hby own_d14_22) (by decide) (W := 0) (Nat.le_of_eq rfl) (by decide)
  have Va4 : Arv Z hp4 dV dK .byte dZ res (.int 0) := own_arvc Vc4 hres
  refine own_st st4 ?_
  refine own_st (fun _ k => XS.goto X4.here hx rfl (pc0 := 25) (pc' := 43) rfl (hb hby own_d14_25) (by decide) (by decide) k) ?_
  exact own_retV X4 hx hret hlk (hb hby own_d14_43) ⟨rfl, N4, by rw [e4]; exact K4, by rw [e4]; exact Va4⟩ (by decide) (by decide)
def own_ps0_Q (Z : State) (bA bV : Addr) (bK : ClassId) (bU : List Value) (sA sV : Addr) (sK : ClassId) (sU : List Value) (res : List Value) (bC of cs sZ : Int32) (h0 : Heap) (n0 : Nat) (v : Option Value) (h : Heap) (L : List Loc) : Prop := v = none ∧ Fr n0 L ∧ Keep h0 h [bV] ∧ Arv Z h bV bK .byte (16 : Int32) res (.int 0)
set_option maxRecDepth 65536 in
set_option maxHeartbeats 40000000 in
theorem own_ps0 (l : Launch) {Z : State} {a0 : Array Value} (hw : own_W Z a0) (ws : List Jvm.Cond) (bA bV : Addr) (bK : ClassId) (bU : List Value) (sA sV : Addr) (sK : ClassId) (sU : List Value) (res : List Value) (bC of cs sZ : Int32) (h0 : Heap) (n0 : Nat) (Z0 : n0 ≤ h0.size) (zn : Z.heap.size ≤ n0) (OZ : Ext Z.heap h0) (Scs : Sta Z Z.heap "java/lang/String" "COMPACT_STRINGS" "Z" (.int cs)) (hcs : ¬ cs = 0) (hof : (bC <<< ((0 : Int32) &&& 31)) = of) (g_bA : n0 ≤ bA) (g_bV : n0 ≤ bV) (Eb : Exa Z h0 bA "java/lang/StringBuilder") (Fbv : Fld Z h0 bA "java/lang/AbstractStringBuilder" "value" "[B" (.ref bV)) (Fbc : Fld Z h0 bA "java/lang/AbstractStringBuilder" "coder" "B" (.int 0)) (Fbn : Fld Z h0 bA "java/lang/AbstractStringBuilder" "count" "I" (.int bC)) (Fbm : Fld Z h0 bA "java/lang/AbstractStringBuilder" "maybeLatin1" "Z" (.int 0)) (Vb : Arv Z h0 bV bK .byte (16 : Int32) bU (.int 0)) (Es : Exa Z h0 sA "java/lang/String") (Fsv : Fld Z h0 sA "java/lang/String" "value" "[B" (.ref sV)) (Fsc : Fld Z h0 sA "java/lang/String" "coder" "B" (.int 0)) (Vs : Arv Z h0 sV sK .byte sZ sU (.int 0)) (ho0 : ¬ of < 0) (hz0 : ¬ sZ < 0) (ho5 : of.toNatClampNeg + sZ.toNatClampNeg ≤ (16 : Int32).toNatClampNeg) (hol : of.toNatClampNeg + sZ.toNatClampNeg ≤ bU.length) (hres : own_put bU of sU sZ = res) :
    MetFree l (⟨"java/lang/AbstractStringBuilder", "putStringAt", "(ILjava/lang/String;)V"⟩ : MethodName) (head1 (Jvm.Cond.code (⟨"java/lang/AbstractStringBuilder", "putStringAt", "(ILjava/lang/String;)V"⟩ : MethodName) jdk_68_method_73_code 3 none :: ws) ({ frames := 2, cells := 0, slots := 0, locals := 33 } : Room)) (fun a U => a = #[(.ref bA), (.int bC), (.ref sA)] ∧ Z.Warmed39 U.vm ∧ U.heap = h0) (fun _ _ _ _ _ => True) (fun _ U o U' => ∃ v L, o = .returned v ∧ own_ps0_Q Z bA bV bK bU sA sV sK sU res bC of cs sZ h0 n0 v U'.heap L ∧ FrameEnd U o U' L ({ frames := 2, cells := 0, slots := 0, locals := 33 } : Room).cells ({ frames := 2, cells := 0, slots := 0, locals := 33 } : Room).slots) := by
  refine own_enter (C := ({ frames := 2, cells := 0, slots := 0, locals := 33 } : Room).cells) (S := ({ frames := 2, cells := 0, slots := 0, locals := 33 } : Room).slots) (plainFor_of_name own_pn3) ?_
  intro p e s m below meth c T0 X0 I e0
  obtain ⟨hx, hby, hml, hown, hnm, hret, hlk, hZ⟩ := I
  have N0 := Fr.nil n0
  have O0 := own_extr h0
  refine own_cast (own_ef12 m bA bC sA) ?_
  show own_Go _ _ _ _ T0 (mkF m 0 #[.val (.ref bA), .val (.int bC), .val (.ref sA)] [])
  refine own_st (fun _ k => XS.aloadN X0.here hx rfl (hb hby own_d12_0) rfl rfl k) ?_
  refine own_st (fun _ k => XS.aloadN X0.here hx rfl (hb hby own_d12_1) rfl rfl k) ?_
  obtain ⟨v1, T1, L1, hQ1, X1, st1⟩ := own_callV X0 hx hZ (y := (⟨"java/lang/AbstractStringBuilder", "inflateIfNeededFor", "(Ljava/lang/String;)V"⟩ : MethodName)) hown (own_w83 hw) (own_decl (own_w84 hw) (own_w87 hw)) (own_w86 hw) (own_w84 hw) (own_w39 hw) (own_w87 hw) (by decide) (own_in0 l hw [] bA sA cs h0 n0 (Nat.le_trans Z0 O0.1) zn (own_extt OZ O0) Scs hcs (Fbc.ext O0) (Es.ext O0) (Fsc.ext O0)) e0 (Eb.ext O0) (g := (mkF m 2 #[.val (.ref bA), .val (.int bC), .val (.ref sA)] [(.ref sA), (.ref bA)])) rfl (by rw [hml]; rfl) (argsL := [(.ref sA)]) (rest := []) (lenOf own_pd17 rfl) rfl rfl (W := 0) (Nat.le_of_eq rfl) (hb hby own_d12_2) (by decide) (by decide) (by decide) (by decide)
  obtain ⟨rfl, N1, e1⟩ := hQ1
  have N1' := Fr.app N0 N1
  refine own_st st1 ?_
  refine own_st (fun _ k => XS.aloadN X1.here hx rfl (hb hby own_d12_5) rfl rfl k) ?_
  refine own_st (fun _ k => XS.aloadN X1.here hx rfl (hb hby own_d12_6) rfl rfl k) ?_
  obtain ⟨T2, X2, e2, st2⟩ := getF X1 hx hZ hown (host := "") (Or.inl (own_w43 hw)) Via.refl e1 (Fbv.ext O0) (g := (mkF m 7 #[.val (.ref bA), .val (.int bC), .val (.ref sA)] [(.ref bA), (.ref sA)])) rfl rfl (hb hby own_d12_7)
  refine own_st st2 ?_
  refine own_st (fun _ k => XS.iloadN X2.here hx rfl (hb hby own_d12_10) rfl k) ?_
  refine own_st (fun _ k => XS.aloadN X2.here hx rfl (hb hby own_d12_11) rfl rfl k) ?_
  show own_Go _ _ _ _ T2 (mkF m 12 #[.val (.ref bA), .val (.int bC), .val (.ref sA)] [(.ref bA), (.int bC), (.ref bV), (.ref sA)])
  obtain ⟨T3, X3, e3, st3⟩ := getF X2 hx hZ hown (host := "") (Or.inl (own_w45 hw)) Via.refl e2 (Fbc.ext O0) (g := (mkF m 12 #[.val (.ref bA), .val (.int bC), .val (.ref sA)] [(.ref bA), (.int bC), (.ref bV), (.ref sA)])) rfl rfl (hb hby own_d12_12)
  refine own_st st3 ?_
  obtain ⟨v4, T4, L4, hQ4, X4, st4⟩ := own_callV X3 hx hZ (y := (⟨"java/lang/String", "getBytes", "([BIB)V"⟩ : MethodName)) hown (own_w89 hw) (own_w90 hw) (own_w92 hw) (own_w91 hw) (own_w22 hw) (own_w93 hw) (by decide) (own_gb l hw [] sA sV sK sU bV bK bU res bC (0 : Int32) of cs sZ (16 : Int32) h0 n0 (Nat.le_trans Z0 O0.1) zn (own_extt OZ O0) Scs hcs (by decide) hof (Es.ext O0) (Fsv.ext O0) (Fsc.ext O0) (Vs.ext O0) g_bV (Vb.ext O0) ho0 hz0 ho5 hol hres) e3 (Es.ext O0) (g := (mkF m 15 #[.val (.ref bA), .val (.int bC), .val (.ref sA)] [(.int 0), (.int bC), (.ref bV), (.ref sA)])) rfl (by rw [hml]; rfl) (argsL := [(.ref bV), (.int bC), (.int 0)]) (rest := []) (lenOf own_pd18 rfl) rfl rfl (W := 0) (Nat.le_of_eq rfl) (hb hby own_d12_15) (by decide) (by decide) (by decide) (by decide)
  obtain ⟨rfl, N4, K4, Vr⟩ := hQ4
  have N4' := Fr.app N1' N4
  refine own_st st4 ?_
  exact own_retV X4 hx hret hlk (hb hby own_d12_18) ⟨rfl, N4', K4, Vr⟩ (by decide) (by decide)
def own_ap0_Q (Z : State) (bA bV : Addr) (bK : ClassId) (bU : List Value) (sA sV : Addr) (sK : ClassId) (sU : List Value) (res : List Value) (bC of cs sZ sl : Int32) (h0 : Heap) (n0 : Nat) (v : Option Value) (h : Heap) (L : List Loc) : Prop := v = some (.ref bA) ∧ Fr n0 L ∧ Keep h0 h [bA, bV] ∧ Fld Z h bA "java/lang/AbstractStringBuilder" "value" "[B" (.ref bV) ∧ Fld Z h bA "java/lang/AbstractStringBuilder" "coder" "B" (.int 0) ∧ Fld Z h bA "java/lang/AbstractStringBuilder" "count" "I" (.int (bC + sl)) ∧ Fld Z h bA "java/lang/AbstractStringBuilder" "maybeLatin1" "Z" (.int 0) ∧ Arv Z h bV bK .byte (16 : Int32) res (.int 0)
set_option maxRecDepth 65536 in
set_option maxHeartbeats 40000000 in
theorem own_ap0 (l : Launch) {Z : State} {a0 : Array Value} (hw : own_W Z a0) (ws : List Jvm.Cond) (bA bV : Addr) (bK : ClassId) (bU : List Value) (sA sV : Addr) (sK : ClassId) (sU : List Value) (res : List Value) (bC of cs sZ sl : Int32) (h0 : Heap) (n0 : Nat) (Z0 : n0 ≤ h0.size) (hln : (sZ >>> ((0 : Int32) &&& 31)) = sl) (hcap : ¬ (0 : Int32) < ((bC + sl) - (16 : Int32))) (zn : Z.heap.size ≤ n0) (OZ : Ext Z.heap h0) (Scs : Sta Z Z.heap "java/lang/String" "COMPACT_STRINGS" "Z" (.int cs)) (hcs : ¬ cs = 0) (hof : (bC <<< ((0 : Int32) &&& 31)) = of) (g_bA : n0 ≤ bA) (g_bV : n0 ≤ bV) (Eb : Exa Z h0 bA "java/lang/StringBuilder") (Fbv : Fld Z h0 bA "java/lang/AbstractStringBuilder" "value" "[B" (.ref bV)) (Fbc : Fld Z h0 bA "java/lang/AbstractStringBuilder" "coder" "B" (.int 0)) (Fbn : Fld Z h0 bA "java/lang/AbstractStringBuilder" "count" "I" (.int bC)) (Fbm : Fld Z h0 bA "java/lang/AbstractStringBuilder" "maybeLatin1" "Z" (.int 0)) (Vb : Arv Z h0 bV bK .byte (16 : Int32) bU (.int 0)) (Es : Exa Z h0 sA "java/lang/String") (Fsv : Fld Z h0 sA "java/lang/String" "value" "[B" (.ref sV)) (Fsc : Fld Z h0 sA "java/lang/String" "coder" "B" (.int 0)) (Vs : Arv Z h0 sV sK .byte sZ sU (.int 0)) (ho0 : ¬ of < 0) (hz0 : ¬ sZ < 0) (ho5 : of.toNatClampNeg + sZ.toNatClampNeg ≤ (16 : Int32).toNatClampNeg) (hol : of.toNatClampNeg + sZ.toNatClampNeg ≤ bU.length) (hres : own_put bU of sU sZ = res) :
    MetFree l (⟨"java/lang/AbstractStringBuilder", "append", "(Ljava/lang/String;)Ljava/lang/AbstractStringBuilder;"⟩ : MethodName) (head1 (Jvm.Cond.code (⟨"java/lang/AbstractStringBuilder", "append", "(Ljava/lang/String;)Ljava/lang/AbstractStringBuilder;"⟩ : MethodName) jdk_68_method_22_code 3 (some (.object "java/lang/AbstractStringBuilder")) :: ws) ({ frames := 3, cells := 0, slots := 0, locals := 47 } : Room)) (fun a U => a = #[(.ref bA), (.ref sA)] ∧ Z.Warmed39 U.vm ∧ U.heap = h0) (fun _ _ _ _ _ => True) (fun _ U o U' => ∃ v L, o = .returned v ∧ own_ap0_Q Z bA bV bK bU sA sV sK sU res bC of cs sZ sl h0 n0 v U'.heap L ∧ FrameEnd U o U' L ({ frames := 3, cells := 0, slots := 0, locals := 47 } : Room).cells ({ frames := 3, cells := 0, slots := 0, locals := 47 } : Room).slots) := by
  refine own_enter (C := ({ frames := 3, cells := 0, slots := 0, locals := 47 } : Room).cells) (S := ({ frames := 3, cells := 0, slots := 0, locals := 47 } : Room).slots) (plainFor_of_name own_pn3) ?_
  intro p e s m below meth c T0 X0 I e0
  obtain ⟨hx, hby, hml, hown, hnm, hret, hlk, hZ⟩ := I
  have N0 := Fr.nil n0
  have O0 := own_extr h0
  refine own_cast (own_ef8 m bA sA) ?_
  show own_Go _ _ _ _ T0 (mkF m 0 #[.val (.ref bA), .val (.ref sA), .unset] [])
  have K0 := Keep.refl h0 [bA, bV]
  have neb : bA ≠ bV := Exa.neArv Eb Vb (own_w30 hw)
  refine own_st (fun _ k => XS.aloadN X0.here hx rfl (hb hby own_d8_0) rfl rfl k) ?_
  refine own_st (fun _ k => XS.ifnonnullYes X0.here hx rfl (pc0 := 1) (pc' := 9) rfl (hb hby own_d8_1) rfl (by decide) (by decide) k) ?_
  refine own_st (fun _ k => XS.aloadN X0.here hx rfl (hb hby own_d8_9) rfl rfl k) ?_
  obtain ⟨v1, T1, L1, hQ1, X1, st1⟩ := own_callV X0 hx hZ (y := (⟨"java/lang/String", "length", "()I"⟩ : MethodName)) hown (own_w58 hw) (own_w59 hw) (own_w61 hw) (own_w60 hw) (own_w22 hw) (own_w62 hw) (by decide) (own_ln l hw [] sA sV sK sU cs (0 : Int32) sZ sl h0 n0 (Nat.le_trans Z0 K0.1) zn OZ Scs hcs (by decide) hln Es Fsv Fsc Vs) e0 Es (g := (mkF m 10 #[.val (.ref bA), .val (.ref sA), .unset] [(.ref sA)])) rfl (by rw [hml]; rfl) (argsL := []) (rest := []) (lenOf own_pd16 rfl) rfl rfl (W := 0) (Nat.le_of_eq rfl) (hb hby own_d8_10) (by decide) (by decide) (by decide) (by decide)
  obtain ⟨rfl, N1, e1⟩ := hQ1
  have N1' := Fr.app N0 N1
  refine own_st st1 ?_
  refine own_st (fun _ k => XS.istoreN X1.here hx rfl (hb hby own_d8_13) rfl (l' := #[.val (.ref bA), .val (.ref sA), .val (.int sl)]) rfl k) ?_
  refine own_st (fun _ k => XS.aloadN X1.here hx rfl (hb hby own_d8_14) rfl rfl k) ?_
  refine own_st (fun _ k => XS.aloadN X1.here hx rfl (hb hby own_d8_15) rfl rfl k) ?_
  obtain ⟨T2, X2, e2, st2⟩ := getF X1 hx hZ hown (host := "") (Or.inl (own_w71 hw)) Via.refl e1 Fbn (g := (mkF m 16 #[.val (.ref bA), .val (.ref sA), .val (.int sl)] [(.ref bA), (.ref bA)])) rfl rfl (hb hby own_d8_16)
  refine own_st st2 ?_
  show own_Go _ _ _ _ T2 (mkF m 19 #[.val (.ref bA), .val (.ref sA), .val (.int sl)] [(.int bC), (.ref bA)])
  refine own_st (fun _ k => XS.iloadN X2.here hx rfl (hb hby own_d8_19) rfl k) ?_
  refine own_st (fun _ k => XS.iadd X2.here hx rfl (hb hby own_d8_20) rfl k) ?_
  obtain ⟨v3, T3, L3, hQ3, X3, st3⟩ := own_callV X2 hx hZ (y := (⟨"java/lang/AbstractStringBuilder", "ensureCapacityInternal", "(I)V"⟩ : MethodName)) hown (own_w73 hw) (own_decl (own_w74 hw) (own_w77 hw)) (own_w76 hw) (own_w74 hw) (own_w39 hw) (own_w77 hw) (by decide) (own_ec l hw [] bA bV bK bU (bC + sl) bC h0 n0 (Nat.le_trans Z0 K0.1) hcap Eb Fbv Fbc Fbn Fbm Vb) e2 Eb (g := (mkF m 21 #[.val (.ref bA), .val (.ref sA), .val (.int sl)] [(.int (bC + sl)), (.ref bA)])) rfl (by rw [hml]; rfl) (argsL := [(.int (bC + sl))]) (rest := []) (lenOf own_pd15 rfl) rfl rfl (W := 0) (Nat.le_of_eq rfl) (hb hby own_d8_21) (by decide) (by decide) (by decide) (by decide)
  obtain ⟨rfl, N3, e3⟩ := hQ3
  have N3' := Fr.app N1' N3
  refine own_st st3 ?_
  refine own_st (fun _ k => XS.aloadN X3.here hx rfl (hb hby own_d8_24) rfl rfl k) ?_
  refine own_st (fun _ k => XS.aloadN X3.here hx rfl (hb hby own_d8_25) rfl rfl k) ?_
  obtain ⟨T4, X4, e4, st4⟩ := getF X3 hx hZ hown (host := "") (Or.inl (own_w71 hw)) Via.refl e3 Fbn (g := (mkF m 26 #[.val (.ref bA), .val (.ref sA), .val (.int sl)] [(.ref bA), (.ref bA)])) rfl rfl (hb hby own_d8_26)
  refine own_st st4 ?_
  refine own_st (fun _ k => XS.aloadN X4.here hx rfl (hb hby own_d8_29) rfl rfl k) ?_
  obtain ⟨v5, T5, L5, hQ5, X5, st5⟩ := own_callV X4 hx hZ (y := (⟨"java/lang/AbstractStringBuilder", "putStringAt", "(ILjava/lang/String;)V"⟩ : MethodName)) hown (own_w78 hw) (own_decl (own_w79 hw) (own_w82 hw)) (own_w81 hw) (own_w79 hw) (own_w39 hw) (own_w82 hw) (by decide) (own_ps0 l hw [] bA bV bK bU sA sV sK sU res bC of cs sZ h0 n0 (Nat.le_trans Z0 K0.1) zn OZ Scs hcs hof g_bA g_bV Eb Fbv Fbc Fbn Fbm Vb Es Fsv Fsc Vs ho0 hz0 ho5 hol hres) e4 Eb (g := (mkF m 30 #[.val (.ref bA), .val (.ref sA), .val (.int sl)] [(.ref sA), (.int bC), (.ref bA)])) rfl (by rw [hml]; rfl) (argsL := [(.int bC), (.ref sA)]) (rest := []) (lenOf own_pd19 rfl) rfl rfl (W := 0) (Nat.le_of_eq rfl) (hb hby own_d8_30) (by decide) (by decide) (by decide) (by decide)
  obtain ⟨rfl, N5, K5, Vr⟩ := hQ5
  have K5t := Keep.trans K0 K5 (allS (Or.inl (List.mem_of_getElem? (i := 1) rfl)) all0)
  have zz5 := own_extkl OZ K5 (allS (Nat.le_trans zn g_bV) all0)
  have Ex_bA_5 := Eb.keep K5
  have F_value_bA_5 := Fbv.keep K5 (ninS neb nin0)
  have F_coder_bA_5 := Fbc.keep K5 (ninS neb nin0)
  have F_count_bA_5 := Fbn.keep K5 (ninS neb nin0)
  have F_maybeLatin1_bA_5 := Fbm.keep K5 (ninS neb nin0)
  have N5' := Fr.app N3' N5
  refine own_st st5 ?_
  show own_Go _ _ _ _ T5 (mkF m 33 #[.val (.ref bA), .val (.ref sA), .val (.int sl)] [])
  refine own_st (fun _ k => XS.aloadN X5.here hx rfl (hb hby own_d8_33) rfl rfl k) ?_
  refine own_st (fun _ k => XS.dup X5.here hx rfl (hb hby own_d8_34) rfl rfl k) ?_
  obtain ⟨T6, X6, e6, st6⟩ := getF X5 hx hZ hown (host := "") (Or.inl (own_w71 hw)) Via.refl rfl F_count_bA_5 (g := (mkF m 35 #[.val (.ref bA), .val (.ref sA), .val (.int sl)] [(.ref bA), (.ref bA)])) rfl rfl (hb hby own_d8_35)
  refine own_st st6 ?_
  refine own_st (fun _ k => XS.iloadN X6.here hx rfl (hb hby own_d8_38) rfl k) ?_
  refine own_st (fun _ k => XS.iadd X6.here hx rfl (hb hby own_d8_39) rfl k) ?_
  obtain ⟨T7, hp7, X7, e7, W7, st7⟩ := putF X6 hx hZ hown (host := "") (Or.inl (own_w71 hw)) Via.refl e6 F_count_bA_5 Ex_bA_5 (Or.inl (own_w72 hw)) (own_w30 hw) (ty := .int) (by decide) rfl rfl (g := (mkF m 40 #[.val (.ref bA), .val (.ref sA), .val (.int sl)] [(.int (bC + sl)), (.ref bA)])) rfl rfl (hb hby own_d8_40)
  have K7 := Keep.wr K5t W7 (Or.inl (List.mem_of_getElem? (i := 0) rfl))
  have zz7 := own_extw zz5 W7 (Nat.le_trans zn g_bA)
  have V_bV_7 := Vr.other W7 (Ne.symm neb)
  have Ex_bA_7 := Ex_bA_5.wr W7
  have F_value_bA_7 := F_value_bA_5.other W7 (Or.inr (slot_ne (Or.inl (own_w44 hw)) (Or.inl (own_w72 hw)) (by decide) (t := (.array .byte)) (t' := .int) (by decide) (by decide)))
  have F_coder_bA_7 := F_coder_bA_5.other W7 (Or.inr (slot_ne (Or.inl (own_w46 hw)) (Or.inl (own_w72 hw)) (by decide) (t := .byte) (t' := .int) (by decide) (by decide)))
  have F_maybeLatin1_bA_7 := F_maybeLatin1_bA_5.other W7 (Or.inr (slot_ne (Or.inl (own_w259 hw)) (Or.inl (own_w72 hw)) (by decide) (t := .boolean) (t' := .int) (by decide) (by decide)))
  have F_count_bA_7 := F_count_bA_5.same W7
  have N7 := Fr.snoc X7 N5' g_bA
  refine own_st st7 ?_
  refine own_st (fun _ k => XS.aloadN X7.here hx rfl (hb hby own_d8_43) rfl rfl k) ?_
  exact own_retA X7 hx hret rfl hlk rfl (hb hby own_d8_44) ⟨rfl, N7, by rw [e7]; exact K7, by rw [e7]; exact F_value_bA_7, by rw [e7]; exact F_coder_bA_7, by rw [e7]; exact F_count_bA_7, by rw [e7]; exact F_maybeLatin1_bA_7, by rw [e7]; exact V_bV_7⟩ (by decide) (by decide)
def own_sap0_Q (Z : State) (bA bV : Addr) (bK : ClassId) (bU : List Value) (sA sV : Addr) (sK : ClassId) (sU : List Value) (res : List Value) (bC of cs sZ sl : Int32) (h0 : Heap) (n0 : Nat) (v : Option Value) (h : Heap) (L : List Loc) : Prop := v = some (.ref bA) ∧ Fr n0 L ∧ Keep h0 h [bA, bV] ∧ Fld Z h bA "java/lang/AbstractStringBuilder" "value" "[B" (.ref bV) ∧ Fld Z h bA "java/lang/AbstractStringBuilder" "coder" "B" (.int 0) ∧ Fld Z h bA "java/lang/AbstractStringBuilder" "count" "I" (.int (bC + sl)) ∧ Fld Z h bA "java/lang/AbstractStringBuilder" "maybeLatin1" "Z" (.int 0) ∧ Arv Z h bV bK .byte (16 : Int32) res (.int 0)
set_option maxRecDepth 65536 in
set_option maxHeartbeats 40000000 in
theorem own_sap0 (l : Launch) {Z : State} {a0 : Array Value} (hw : own_W Z a0) (ws : List Jvm.Cond) (bA bV : Addr) (bK : ClassId) (bU : List Value) (sA sV : Addr) (sK : ClassId) (sU : List Value) (res : List Value) (bC of cs sZ sl : Int32) (h0 : Heap) (n0 : Nat) (Z0 : n0 ≤ h0.size) (hln : (sZ >>> ((0 : Int32) &&& 31)) = sl) (hcap : ¬ (0 : Int32) < ((bC + sl) - (16 : Int32))) (zn : Z.heap.size ≤ n0) (OZ : Ext Z.heap h0) (Scs : Sta Z Z.heap "java/lang/String" "COMPACT_STRINGS" "Z" (.int cs)) (hcs : ¬ cs = 0) (hof : (bC <<< ((0 : Int32) &&& 31)) = of) (g_bA : n0 ≤ bA) (g_bV : n0 ≤ bV) (Eb : Exa Z h0 bA "java/lang/StringBuilder") (Fbv : Fld Z h0 bA "java/lang/AbstractStringBuilder" "value" "[B" (.ref bV)) (Fbc : Fld Z h0 bA "java/lang/AbstractStringBuilder" "coder" "B" (.int 0)) (Fbn : Fld Z h0 bA "java/lang/AbstractStringBuilder" "count" "I" (.int bC)) (Fbm : Fld Z h0 bA "java/lang/AbstractStringBuilder" "maybeLatin1" "Z" (.int 0)) (Vb : Arv Z h0 bV bK .byte (16 : Int32) bU (.int 0)) (Es : Exa Z h0 sA "java/lang/String") (Fsv : Fld Z h0 sA "java/lang/String" "value" "[B" (.ref sV)) (Fsc : Fld Z h0 sA "java/lang/String" "coder" "B" (.int 0)) (Vs : Arv Z h0 sV sK .byte sZ sU (.int 0)) (ho0 : ¬ of < 0) (hz0 : ¬ sZ < 0) (ho5 : of.toNatClampNeg + sZ.toNatClampNeg ≤ (16 : Int32).toNatClampNeg) (hol : of.toNatClampNeg + sZ.toNatClampNeg ≤ bU.length) (hres : own_put bU of sU sZ = res) :
    MetFree l (⟨"java/lang/StringBuilder", "append", "(Ljava/lang/String;)Ljava/lang/StringBuilder;"⟩ : MethodName) (head1 (Jvm.Cond.code (⟨"java/lang/StringBuilder", "append", "(Ljava/lang/String;)Ljava/lang/StringBuilder;"⟩ : MethodName) jdk_67_method_7_code 2 (some (.object "java/lang/StringBuilder")) :: ws) ({ frames := 4, cells := 0, slots := 0, locals := 61 } : Room)) (fun a U => a = #[(.ref bA), (.ref sA)] ∧ Z.Warmed39 U.vm ∧ U.heap = h0) (fun _ _ _ _ _ => True) (fun _ U o U' => ∃ v L, o = .returned v ∧ own_sap0_Q Z bA bV bK bU sA sV sK sU res bC of cs sZ sl h0 n0 v U'.heap L ∧ FrameEnd U o U' L ({ frames := 4, cells := 0, slots := 0, locals := 61 } : Room).cells ({ frames := 4, cells := 0, slots := 0, locals := 61 } : Room).slots) := by
  refine own_enter (C := ({ frames := 4, cells := 0, slots := 0, locals := 61 } : Room).cells) (S := ({ frames := 4, cells := 0, slots := 0, locals := 61 } : Room).slots) (plainFor_of_name own_pn9) ?_
  intro p e s m below meth c T0 X0 I e0
  obtain ⟨hx, hby, hml, hown, hnm, hret, hlk, hZ⟩ := I
  have N0 := Fr.nil n0
  have O0 := own_extr h0
  refine own_cast (own_ef7 m bA sA) ?_
  show own_Go _ _ _ _ T0 (mkF m 0 #[.val (.ref bA), .val (.ref sA)] [])
  refine own_st (fun _ k => XS.aloadN X0.here hx rfl (hb hby own_d7_0) rfl rfl k) ?_
  refine own_st (fun _ k => XS.aloadN X0.here hx rfl (hb hby own_d7_1) rfl rfl k) ?_
  obtain ⟨v1, T1, L1, hQ1, X1, st1⟩ := own_callT X0 hx hZ (y := (⟨"java/lang/AbstractStringBuilder", "append", "(Ljava/lang/String;)Ljava/lang/AbstractStringBuilder;"⟩ : MethodName)) (by decide) hown (own_w53 hw) (own_same (y := (⟨"java/lang/AbstractStringBuilder", "append", "(Ljava/lang/String;)Ljava/lang/AbstractStringBuilder;"⟩ : MethodName)) (own_w54 hw) (own_w115 hw) (own_w113 hw) rfl (by decide)) (own_w54 hw) (own_w55 hw) (own_w39 hw) (own_w57 hw) (own_ap0 l hw [] bA bV bK bU sA sV sK sU res bC of cs sZ sl h0 n0 (Nat.le_trans Z0 O0.1) hln hcap zn (own_extt OZ O0) Scs hcs hof g_bA g_bV (Eb.ext O0) (Fbv.ext O0) (Fbc.ext O0) (Fbn.ext O0) (Fbm.ext O0) (Vb.ext O0) (Es.ext O0) (Fsv.ext O0) (Fsc.ext O0) (Vs.ext O0) ho0 hz0 ho5 hol hres) e0 (Ins.self (Eb.ext O0)) (g := (mkF m 2 #[.val (.ref bA), .val (.ref sA)] [(.ref sA), (.ref bA)])) rfl (by rw [hml]; rfl) (argsL := [(.ref sA)]) (rest := []) (lenOf own_pd20 rfl) rfl rfl (W := 0) (Nat.le_of_eq rfl) (hb hby own_d7_2) (by decide) (by decide) (by decide) (by decide)
  obtain ⟨rfl, N1, K1, G1, G2, G3, G4, Vr⟩ := hQ1
  have N1' := Fr.app N0 N1
  refine own_st st1 ?_
  refine own_st (fun _ k => XS.pop X1.here hx rfl (hb hby own_d7_5) rfl rfl k) ?_
  refine own_st (fun _ k => XS.aloadN X1.here hx rfl (hb hby own_d7_6) rfl rfl k) ?_
  exact own_retA X1 hx hret rfl hlk rfl (hb hby own_d7_7) ⟨rfl, N1', K1, G1, G2, G3, G4, Vr⟩ (by decide) (by decide)
def own_ui_Q (Z : State) (a1 a2 : Addr) (k1 k2 : ClassId) (p1 p3 p4 : Int32) (fm : Value) (h0 : Heap) (n0 : Nat) (v : Option Value) (h : Heap) (L : List Loc) : Prop := v = none ∧ Fr n0 L ∧ Keep h0 h [a2] ∧ Arv Z h a2 k2 .byte (32 : Int32) [(.int (own_B0 (92 : Int32))), (.int (own_B1 (92 : Int32))), (.int 0), (.int 0), (.int 0), (.int 0), (.int 0), (.int 0), (.int 0), (.int 0), (.int 0), (.int 0), (.int 0), (.int 0), (.int 0), (.int 0), (.int 0), (.int 0), (.int 0), (.int 0), (.int 0), (.int 0), (.int 0), (.int 0), (.int 0), (.int 0), (.int 0), (.int 0), (.int 0), (.int 0), (.int 0), (.int 0)] (.int 0)
set_option maxRecDepth 65536 in
set_option maxHeartbeats 40000000 in
theorem own_ui (l : Launch) {Z : State} {a0 : Array Value} (hw : own_W Z a0) (ws : List Jvm.Cond) (a1 a2 : Addr) (k1 k2 : ClassId) (p1 p3 p4 : Int32) (fm : Value) (h0 : Heap) (n0 : Nat) (Z0 : n0 ≤ h0.size) (hp1 : p1 = 0) (hp3 : p3 = 0) (hp4 : p4 = 1) (zn : Z.heap.size ≤ n0) (OZ : Ext Z.heap h0) (Sad : Sta Z Z.heap "java/lang/StringUTF16" "$assertionsDisabled" "Z" (.int 1)) (Shi : Sta Z Z.heap "java/lang/StringUTF16" "HI_BYTE_SHIFT" "I" (.int 0)) (Slo : Sta Z Z.heap "java/lang/StringUTF16" "LO_BYTE_SHIFT" "I" (.int 8)) (Sfm : Sta Z Z.heap "jdk/internal/util/Preconditions" "SIOOBE_FORMATTER" "Ljava/util/function/BiFunction;" fm) (hfm : fm.isRef = true) (g_a2 : n0 ≤ a2) (V1 : Arv Z h0 a1 k1 .byte (16 : Int32) [(.int 92), (.int 0), (.int 0), (.int 0), (.int 0), (.int 0), (.int 0), (.int 0), (.int 0), (.int 0), (.int 0), (.int 0), (.int 0), (.int 0), (.int 0), (.int 0)] (.int 0)) (V2 : Arv Z h0 a2 k2 .byte (32 : Int32) [(.int 0), (.int 0), (.int 0), (.int 0), (.int 0), (.int 0), (.int 0), (.int 0), (.int 0), (.int 0), (.int 0), (.int 0), (.int 0), (.int 0), (.int 0), (.int 0), (.int 0), (.int 0), (.int 0), (.int 0), (.int 0), (.int 0), (.int 0), (.int 0), (.int 0), (.int 0), (.int 0), (.int 0), (.int 0), (.int 0), (.int 0), (.int 0)] (.int 0)) :
    MetFree l (⟨"java/lang/StringUTF16", "inflate", "([BI[BII)V"⟩ : MethodName) (head1 (Jvm.Cond.code (⟨"java/lang/StringUTF16", "inflate", "([BI[BII)V"⟩ : MethodName) jdk_52_method_86_code 6 none :: ws) ({ frames := 3, cells := 0, slots := 0, locals := 43 } : Room)) (fun a U => a = #[(.ref a1), (.int p1), (.ref a2), (.int p3), (.int p4)] ∧ Z.Warmed39 U.vm ∧ U.heap = h0) (fun _ _ _ _ _ => True) (fun _ U o U' => ∃ v L, o = .returned v ∧ own_ui_Q Z a1 a2 k1 k2 p1 p3 p4 fm h0 n0 v U'.heap L ∧ FrameEnd U o U' L ({ frames := 3, cells := 0, slots := 0, locals := 43 } : Room).cells ({ frames := 3, cells := 0, slots := 0, locals := 43 } : Room).slots) := by
  refine own_enter (C := ({ frames := 3, cells := 0, slots := 0, locals := 43 } : Room).cells) (S := ({ frames := 3, cells := 0, slots := 0, locals := 43 } : Room).slots) (plainFor_of_name own_pn6) ?_
  intro p e s m below meth c T0 X0 I e0
  obtain ⟨hx, hby, hml, hown, hnm, hret, hlk, hZ⟩ := I
  have N0 := Fr.nil n0
  have O0 := own_extr h0
  refine own_cast (own_ef48 m a1 p1 a2 p3 p4) ?_
  show own_Go _ _ _ _ T0 (mkF m 0 #[.val (.ref a1), .val (.int p1), .val (.ref a2), .val (.int p3), .val (.int p4), .unset] [])
  rw [hp1, hp3, hp4]
  show own_Go _ _ _ _ T0 (mkF m 0 #[.val (.ref a1), .val (.int 0), .val (.ref a2), .val (.int 0), .val (.int 1), .unset] [])
  refine own_st (fun _ k => XS.iloadN X0.here hx rfl (hb hby own_d48_0) rfl k) ?_
  refine own_st (fun _ k => XS.iload X0.here hx rfl (hb hby own_d48_1) rfl k) ?_
  refine own_st (fun _ k => XS.aloadN X0.here hx rfl (hb hby own_d48_3) rfl rfl k) ?_
  obtain ⟨v1, T1, L1, hQ1, X1, st1⟩ := own_callS X0 hx hZ (y := (⟨"java/lang/StringUTF16", "checkBoundsOffCount", "(II[B)V"⟩ : MethodName)) hown (own_w246 hw) (own_w247 hw) (own_w211 hw) (own_w248 hw) (by decide) (own_ub l hw [] a2 k2 [(.int 0), (.int 0), (.int 0), (.int 0), (.int 0), (.int 0), (.int 0), (.int 0), (.int 0), (.int 0), (.int 0), (.int 0), (.int 0), (.int 0), (.int 0), (.int 0), (.int 0), (.int 0), (.int 0), (.int 0), (.int 0), (.int 0), (.int 0), (.int 0), (.int 0), (.int 0), (.int 0), (.int 0), (.int 0), (.int 0), (.int 0), (.int 0)] (0 : Int32) (1 : Int32) (32 : Int32) fm h0 n0 (Nat.le_trans Z0 O0.1) zn (own_extt OZ O0) Sfm hfm (by decide) (by decide) (V2.ext O0)) e0 (g := (mkF m 4 #[.val (.ref a1), .val (.int 0), .val (.ref a2), .val (.int 0), .val (.int 1), .unset] [(.ref a2), (.int 1), (.int 0)])) rfl (by rw [hml]; rfl) (argsL := [(.int 0), (.int 1), (.ref a2)]) (rest := []) (lenOf own_pd21 rfl) rfl rfl (W := 0) (Nat.le_of_eq rfl) (hb hby own_d48_4) (by decide) (by decide) (by decide) (by decide)
  obtain ⟨rfl, N1, e1⟩ := hQ1
  have N1' := Fr.app N0 N1
  refine own_st st1 ?_
  refine own_st (fun _ k => XS.iconst X1.here hx rfl (hb hby own_d48_7) k) ?_
  refine own_st (fun _ k => XS.istore X1.here hx rfl (hb hby own_d48_8) rfl (l' := #[.val (.ref a1), .val (.int 0), .val (.ref a2), .val (.int 0), .val (.int 1), .val (.int 0)]) rfl k) ?_
  refine own_st (fun _ k => XS.iload X1.here hx rfl (hb hby own_d48_10) rfl k) ?_
  refine own_st (fun _ k => XS.iload X1.here hx rfl (hb hby own_d48_12) rfl k) ?_
  show own_Go _ _ _ _ T1 (mkF m 14 #[.val (.ref a1), .val (.int 0), .val (.ref a2), .val (.int 0), .val (.int 1), .val (.int 0)] [(.int 1), (.int 0)])
  refine own_st (fun _ k => XS.icmpNo X1.here hx rfl (hb hby own_d48_14) rfl (tlt (by decide : (0 : Int32) < (1 : Int32))).2.1 k) ?_
  refine own_st (fun _ k => XS.aloadN X1.here hx rfl (hb hby own_d48_17) rfl rfl k) ?_
  refine own_st (fun _ k => XS.iloadN X1.here hx rfl (hb hby own_d48_18) rfl k) ?_
  refine own_st (fun _ k => XS.iinc X1.here hx rfl (hb hby own_d48_19) rfl (l' := #[.val (.ref a1), .val (.int 0), .val (.ref a2), .val (.int ((0 : Int32) + (1 : Int32))), .val (.int 1), .val (.int 0)]) rfl k) ?_
  show own_Go _ _ _ _ T1 (mkF m 22 #[.val (.ref a1), .val (.int 0), .val (.ref a2), .val (.int ((0 : Int32) + (1 : Int32))), .val (.int 1), .val (.int 0)] [(.int 0), (.ref a2)])
  rw [show ((0 : Int32) + (1 : Int32)) = (1 : Int32) from by decide]
  refine own_st (fun _ k => XS.aloadN X1.here hx rfl (hb hby own_d48_22) rfl rfl k) ?_
  refine own_st (fun _ k => XS.iloadN X1.here hx rfl (hb hby own_d48_23) rfl k) ?_
  refine own_st (fun _ k => XS.iinc X1.here hx rfl (hb hby own_d48_24) rfl (l' := #[.val (.ref a1), .val (.int ((0 : Int32) + (1 : Int32))), .val (.ref a2), .val (.int 1), .val (.int 1), .val (.int 0)]) rfl k) ?_
  show own_Go _ _ _ _ T1 (mkF m 27 #[.val (.ref a1), .val (.int ((0 : Int32) + (1 : Int32))), .val (.ref a2), .val (.int 1), .val (.int 1), .val (.int 0)] [(.int 0), (.ref a1), (.int 0), (.ref a2)])
  rw [show ((0 : Int32) + (1 : Int32)) = (1 : Int32) from by decide]
  refine own_st (own_ldB X1 hx hZ e1 (V1.ext O0) (j := (0 : Int32)) (by decide) (v := (.int 92)) rfl (g := (mkF m 27 #[.val (.ref a1), .val (.int 1), .val (.ref a2), .val (.int 1), .val (.int 1), .val (.int 0)] [(.int 0), (.ref a1), (.int 0), (.ref a2)])) rfl rfl (hb hby own_d48_27)) ?_
  refine own_st (fun _ k => XS.sipush X1.here hx rfl (hb hby own_d48_28) k) ?_
  refine own_st (fun _ k => XS.iand X1.here hx rfl (hb hby own_d48_31) rfl k) ?_
  show own_Go _ _ _ _ T1 (mkF m 32 #[.val (.ref a1), .val (.int 1), .val (.ref a2), .val (.int 1), .val (.int 1), .val (.int 0)] [(.int ((92 : Int32) &&& (255 : Int32))), (.int 0), (.ref a2)])
  rw [show ((92 : Int32) &&& (255 : Int32)) = (92 : Int32) from by decide]
  obtain ⟨v2, T2, L2, hQ2, X2, st2⟩ := own_callS X1 hx hZ (y := (⟨"java/lang/StringUTF16", "putChar", "([BII)V"⟩ : MethodName)) hown (own_w217 hw) (own_w218 hw) (own_w211 hw) (own_w219 hw) (by decide) (own_pc32_0 l hw [] a2 (0 : Int32) (92 : Int32) k2  h0 n0 (Nat.le_trans Z0 O0.1) rfl zn (own_extt OZ O0) Sad Shi Slo g_a2 (V2.ext O0)) e1 (g := (mkF m 32 #[.val (.ref a1), .val (.int 1), .val (.ref a2), .val (.int 1), .val (.int 1), .val (.int 0)] [(.int 92), (.int 0), (.ref a2)])) rfl (by rw [hml]; rfl) (argsL := [(.ref a2), (.int 0), (.int 92)]) (rest := []) (lenOf own_pd8 rfl) rfl rfl (W := 0) (Nat.le_of_eq rfl) (hb hby own_d48_32) (by decide) (by decide) (by decide) (by decide)
  obtain ⟨rfl, N2, K2, Vp2⟩ := hQ2
  have N2' := Fr.app N1' N2
  refine own_st st2 ?_
  refine own_st (fun _ k => XS.iinc X2.here hx rfl (hb hby own_d48_35) rfl (l' := #[.val (.ref a1), .val (.int 1), .val (.ref a2), .val (.int 1), .val (.int 1), .val (.int ((0 : Int32) + (1 : Int32)))]) rfl k) ?_
  show own_Go _ _ _ _ T2 (mkF m 38 #[.val (.ref a1), .val (.int 1), .val (.ref a2), .val (.int 1), .val (.int 1), .val (.int ((0 : Int32) + (1 : Int32)))] [])
  rw [show ((0 : Int32) + (1 : Int32)) = (1 : Int32) from by decide]
  refine own_st (fun _ k => XS.goto X2.here hx rfl (pc0 := 38) (pc' := 10) rfl (hb hby own_d48_38) (by decide) (by decide) k) ?_
  refine own_st (fun _ k => XS.iload X2.here hx rfl (hb hby own_d48_10) rfl k) ?_
  refine own_st (fun _ k => XS.iload X2.here hx rfl (hb hby own_d48_12) rfl k) ?_
  refine own_st (fun _ k => XS.icmpYes X2.here hx rfl (pc0 := 14) (pc' := 41) rfl (hb hby own_d48_14) rfl (flt (by decide : ¬ ((1 : Int32) < (1 : Int32)))).2.1 (by decide) (by decide) k) ?_
  exact own_retV X2 hx hret hlk (hb hby own_d48_41) ⟨rfl, N2', K2, Vp2⟩ (by decide) (by decide)
def own_li_Q (Z : State) (a1 a2 : Addr) (k1 k2 : ClassId) (p1 p3 p4 : Int32) (fm : Value) (h0 : Heap) (n0 : Nat) (v : Option Value) (h : Heap) (L : List Loc) : Prop := v = none ∧ Fr n0 L ∧ Keep h0 h [a2] ∧ Arv Z h a2 k2 .byte (32 : Int32) [(.int (own_B0 (92 : Int32))), (.int (own_B1 (92 : Int32))), (.int 0), (.int 0), (.int 0), (.int 0), (.int 0), (.int 0), (.int 0), (.int 0), (.int 0), (.int 0), (.int 0), (.int 0), (.int 0), (.int 0), (.int 0), (.int 0), (.int 0), (.int 0), (.int 0), (.int 0), (.int 0), (.int 0), (.int 0), (.int 0), (.int 0), (.int 0), (.int 0), (.int 0), (.int 0), (.int 0)] (.int 0)
set_option maxRecDepth 65536 in
set_option maxHeartbeats 40000000 in
theorem own_li (l : Launch) {Z : State} {a0 : Array Value} (hw : own_W Z a0) (ws : List Jvm.Cond) (a1 a2 : Addr) (k1 k2 : ClassId) (p1 p3 p4 : Int32) (fm : Value) (h0 : Heap) (n0 : Nat) (Z0 : n0 ≤ h0.size) (hp1 : p1 = 0) (hp3 : p3 = 0) (hp4 : p4 = 1) (zn : Z.heap.size ≤ n0) (OZ : Ext Z.heap h0) (Sad : Sta Z Z.heap "java/lang/StringUTF16" "$assertionsDisabled" "Z" (.int 1)) (Shi : Sta Z Z.heap "java/lang/StringUTF16" "HI_BYTE_SHIFT" "I" (.int 0)) (Slo : Sta Z Z.heap "java/lang/StringUTF16" "LO_BYTE_SHIFT" "I" (.int 8)) (Sfm : Sta Z Z.heap "jdk/internal/util/Preconditions" "SIOOBE_FORMATTER" "Ljava/util/function/BiFunction;" fm) (hfm : fm.isRef = true) (g_a2 : n0 ≤ a2) (V1 : Arv Z h0 a1 k1 .byte (16 : Int32) [(.int 92), (.int 0), (.int 0), (.int 0), (.int 0), (.int 0), (.int 0), (.int 0), (.int 0), (.int 0), (.int 0), (.int 0), (.int 0), (.int 0), (.int 0), (.int 0)] (.int 0)) (V2 : Arv Z h0 a2 k2 .byte (32 : Int32) [(.int 0), (.int 0), (.int 0), (.int 0), (.int 0), (.int 0), (.int 0), (.int 0), (.int 0), (.int 0), (.int 0), (.int 0), (.int 0), (.int 0), (.int 0), (.int 0), (.int 0), (.int 0), (.int 0), (.int 0), (.int 0), (.int 0), (.int 0), (.int 0), (.int 0), (.int 0), (.int 0), (.int 0), (.int 0), (.int 0), (.int 0), (.int 0)] (.int 0)) :
    MetFree l (⟨"java/lang/StringLatin1", "inflate", "([BI[BII)V"⟩ : MethodName) (head1 (Jvm.Cond.code (⟨"java/lang/StringLatin1", "inflate", "([BI[BII)V"⟩ : MethodName) jdk_43_method_50_code 5 none :: ws) ({ frames := 4, cells := 0, slots := 0, locals := 60 } : Room)) (fun a U => a = #[(.ref a1), (.int p1), (.ref a2), (.int p3), (.int p4)] ∧ Z.Warmed39 U.vm ∧ U.heap = h0) (fun _ _ _ _ _ => True) (fun _ U o U' => ∃ v L, o = .returned v ∧ own_li_Q Z a1 a2 k1 k2 p1 p3 p4 fm h0 n0 v U'.heap L ∧ FrameEnd U o U' L ({ frames := 4, cells := 0, slots := 0, locals := 60 } : Room).cells ({ frames := 4, cells := 0, slots := 0, locals := 60 } : Room).slots) := by
  refine own_enter (C := ({ frames := 4, cells := 0, slots := 0, locals := 60 } : Room).cells) (S := ({ frames := 4, cells := 0, slots := 0, locals := 60 } : Room).slots) (plainFor_of_name own_pn7) ?_
  intro p e s m below meth c T0 X0 I e0
  obtain ⟨hx, hby, hml, hown, hnm, hret, hlk, hZ⟩ := I
  have N0 := Fr.nil n0
  have O0 := own_extr h0
  refine own_cast (own_ef47 m a1 p1 a2 p3 p4) ?_
  show own_Go _ _ _ _ T0 (mkF m 0 #[.val (.ref a1), .val (.int p1), .val (.ref a2), .val (.int p3), .val (.int p4)] [])
  refine own_st (fun _ k => XS.aloadN X0.here hx rfl (hb hby own_d47_0) rfl rfl k) ?_
  refine own_st (fun _ k => XS.iloadN X0.here hx rfl (hb hby own_d47_1) rfl k) ?_
  refine own_st (fun _ k => XS.aloadN X0.here hx rfl (hb hby own_d47_2) rfl rfl k) ?_
  refine own_st (fun _ k => XS.iloadN X0.here hx rfl (hb hby own_d47_3) rfl k) ?_
  refine own_st (fun _ k => XS.iload X0.here hx rfl (hb hby own_d47_4) rfl k) ?_
  obtain ⟨v1, T1, L1, hQ1, X1, st1⟩ := own_callS X0 hx hZ (y := (⟨"java/lang/StringUTF16", "inflate", "([BI[BII)V"⟩ : MethodName)) hown (own_w243 hw) (own_w244 hw) (own_w211 hw) (own_w245 hw) (by decide) (own_ui l hw [] a1 a2 k1 k2 p1 p3 p4 fm h0 n0 (Nat.le_trans Z0 O0.1) hp1 hp3 hp4 zn (own_extt OZ O0) Sad Shi Slo Sfm hfm g_a2 V1 V2) e0 (g := (mkF m 6 #[.val (.ref a1), .val (.int p1), .val (.ref a2), .val (.int p3), .val (.int p4)] [(.int p4), (.int p3), (.ref a2), (.int p1), (.ref a1)])) rfl (by rw [hml]; rfl) (argsL := [(.ref a1), (.int p1), (.ref a2), (.int p3), (.int p4)]) (rest := []) (lenOf own_pd22 rfl) rfl rfl (W := 0) (Nat.le_of_eq rfl) (hb hby own_d47_6) (by decide) (by decide) (by decide) (by decide)
  obtain ⟨rfl, N1, K1, Vr⟩ := hQ1
  have N1' := Fr.app N0 N1
  refine own_st st1 ?_
  exact own_retV X1 hx hret hlk (hb hby own_d47_9) ⟨rfl, N1', K1, Vr⟩ (by decide) (by decide)
def own_fl_Q (Z : State) (bA bV : Addr) (bK : ClassId) (cs : Int32) (fm : Value) (h0 : Heap) (n0 : Nat) (v : Option Value) (h : Heap) (L : List Loc) : Prop := v = none ∧ Fr n0 L ∧ Keep h0 h [bA] ∧ ∃ nb k, n0 ≤ nb ∧ h0.size ≤ nb ∧ Fld Z h bA "java/lang/AbstractStringBuilder" "value" "[B" (.ref nb) ∧ Fld Z h bA "java/lang/AbstractStringBuilder" "coder" "B" (.int 1) ∧ Fld Z h bA "java/lang/AbstractStringBuilder" "count" "I" (.int 1) ∧ Fld Z h bA "java/lang/AbstractStringBuilder" "maybeLatin1" "Z" (.int 0) ∧ Arv Z h nb k .byte (32 : Int32) [(.int (own_B0 (92 : Int32))), (.int (own_B1 (92 : Int32))), (.int 0), (.int 0), (.int 0), (.int 0), (.int 0), (.int 0), (.int 0), (.int 0), (.int 0), (.int 0), (.int 0), (.int 0), (.int 0), (.int 0), (.int 0), (.int 0), (.int 0), (.int 0), (.int 0), (.int 0), (.int 0), (.int 0), (.int 0), (.int 0), (.int 0), (.int 0), (.int 0), (.int 0), (.int 0), (.int 0)] (.int 0)
set_option maxRecDepth 65536 in
set_option maxHeartbeats 40000000 in
theorem own_fl (l : Launch) {Z : State} {a0 : Array Value} (hw : own_W Z a0) (ws : List Jvm.Cond) (bA bV : Addr) (bK : ClassId) (cs : Int32) (fm : Value) (h0 : Heap) (n0 : Nat) (Z0 : n0 ≤ h0.size) (zn : Z.heap.size ≤ n0) (OZ : Ext Z.heap h0) (Scs : Sta Z Z.heap "java/lang/String" "COMPACT_STRINGS" "Z" (.int cs)) (hcs : ¬ cs = 0) (Sad : Sta Z Z.heap "java/lang/StringUTF16" "$assertionsDisabled" "Z" (.int 1)) (Shi : Sta Z Z.heap "java/lang/StringUTF16" "HI_BYTE_SHIFT" "I" (.int 0)) (Slo : Sta Z Z.heap "java/lang/StringUTF16" "LO_BYTE_SHIFT" "I" (.int 8)) (Sfm : Sta Z Z.heap "jdk/internal/util/Preconditions" "SIOOBE_FORMATTER" "Ljava/util/function/BiFunction;" fm) (hfm : fm.isRef = true) (g_bA : n0 ≤ bA) (Eb : Exa Z h0 bA "java/lang/StringBuilder") (Fbv : Fld Z h0 bA "java/lang/AbstractStringBuilder" "value" "[B" (.ref bV)) (Fbc : Fld Z h0 bA "java/lang/AbstractStringBuilder" "coder" "B" (.int 0)) (Fbn : Fld Z h0 bA "java/lang/AbstractStringBuilder" "count" "I" (.int 1)) (Fbm : Fld Z h0 bA "java/lang/AbstractStringBuilder" "maybeLatin1" "Z" (.int 0)) (Vb : Arv Z h0 bV bK .byte (16 : Int32) [(.int 92), (.int 0), (.int 0), (.int 0), (.int 0), (.int 0), (.int 0), (.int 0), (.int 0), (.int 0), (.int 0), (.int 0), (.int 0), (.int 0), (.int 0), (.int 0)] (.int 0)) :
    MetFree l (⟨"java/lang/AbstractStringBuilder", "inflate", "()V"⟩ : MethodName) (head1 (Jvm.Cond.code (⟨"java/lang/AbstractStringBuilder", "inflate", "()V"⟩ : MethodName) jdk_68_method_11_code 2 none :: ws) ({ frames := 5, cells := 1, slots := 32, locals := 76 } : Room)) (fun a U => a = #[(.ref bA)] ∧ Z.Warmed39 U.vm ∧ U.heap = h0) (fun _ _ _ _ _ => True) (fun _ U o U' => ∃ v L, o = .returned v ∧ own_fl_Q Z bA bV bK cs fm h0 n0 v U'.heap L ∧ FrameEnd U o U' L ({ frames := 5, cells := 1, slots := 32, locals := 76 } : Room).cells ({ frames := 5, cells := 1, slots := 32, locals := 76 } : Room).slots) := by
  refine own_enter (C := ({ frames := 5, cells := 1, slots := 32, locals := 76 } : Room).cells) (S := ({ frames := 5, cells := 1, slots := 32, locals := 76 } : Room).slots) (plainFor_of_name own_pn3) ?_
  intro p e s m below meth c T0 X0 I e0
  obtain ⟨hx, hby, hml, hown, hnm, hret, hlk, hZ⟩ := I
  have N0 := Fr.nil n0
  have O0 := own_extr h0
  refine own_cast (own_ef44 m bA) ?_
  show own_Go _ _ _ _ T0 (mkF m 0 #[.val (.ref bA), .unset] [])
  have K0 := Keep.refl h0 [bA]
  have neb : bA ≠ bV := Exa.neArv Eb Vb (own_w30 hw)
  refine own_st (fun _ k => XS.aloadN X0.here hx rfl (hb hby own_d44_0) rfl rfl k) ?_
  obtain ⟨v1, T1, L1, hQ1, X1, st1⟩ := own_callV X0 hx hZ (y := (⟨"java/lang/AbstractStringBuilder", "isLatin1", "()Z"⟩ : MethodName)) hown (own_w232 hw) (own_w126 hw) (own_w128 hw) (own_w127 hw) (own_w39 hw) (own_w129 hw) (by decide) (own_bl0 l hw [] bA cs h0 n0 (Nat.le_trans Z0 K0.1) zn OZ Scs hcs Fbc) e0 Eb (g := (mkF m 1 #[.val (.ref bA), .unset] [(.ref bA)])) rfl (by rw [hml]; rfl) (argsL := []) (rest := []) (lenOf own_pd23 rfl) rfl rfl (W := 0) (Nat.le_of_eq rfl) (hb hby own_d44_1) (by decide) (by decide) (by decide) (by decide)
  obtain ⟨rfl, N1, e1⟩ := hQ1
  have N1' := Fr.app N0 N1
  refine own_st st1 ?_
  refine own_st (fun _ k => XS.ifYes X1.here hx rfl (pc0 := 4) (pc' := 8) rfl (hb hby own_d44_4) rfl ((if0 _ _).trans (feq (by decide : ¬ ((1 : Int32) = (0 : Int32)))).2) (by decide) (by decide) k) ?_
  refine own_st (fun _ k => XS.aloadN X1.here hx rfl (hb hby own_d44_8) rfl rfl k) ?_
  obtain ⟨T2, X2, e2, st2⟩ := getF X1 hx hZ hown (host := "") (Or.inl (own_w43 hw)) Via.refl e1 Fbv (g := (mkF m 9 #[.val (.ref bA), .unset] [(.ref bA)])) rfl rfl (hb hby own_d44_9)
  refine own_st st2 ?_
  refine own_st (own_len X2 hx hZ e2 Vb (g := (mkF m 12 #[.val (.ref bA), .unset] [(.ref bV)])) rfl rfl (hb hby own_d44_12)) ?_
  obtain ⟨v3, T3, L3, hQ3, X3, st3⟩ := own_callS X2 hx hZ (y := (⟨"java/lang/StringUTF16", "newBytesFor", "(I)[B"⟩ : MethodName)) hown (own_w233 hw) (own_w234 hw) (own_w211 hw) (own_w235 hw) (by decide) (own_nbf l hw [] (16 : Int32) h0 n0 (Nat.le_trans Z0 K0.1) rfl) e2 (g := (mkF m 13 #[.val (.ref bA), .unset] [(.int 16)])) rfl (by rw [hml]; rfl) (argsL := [(.int 16)]) (rest := []) (lenOf own_pd14 rfl) rfl rfl (W := 0) (Nat.le_of_eq rfl) (hb hby own_d44_13) (by decide) (by decide) (by decide) (by decide)
  obtain ⟨nb, kn, rfl, N3, Et3, g_nb, s_nb, Vn⟩ := hQ3
  have ne_bA : bA ≠ nb := Nat.ne_of_lt (Nat.lt_of_lt_of_le Eb.lt s_nb)
  have ne_bV : bV ≠ nb := Nat.ne_of_lt (Nat.lt_of_lt_of_le Vb.lt s_nb)
  have K3x := Keep.ext K0 Et3
  have zz3 := own_extt OZ Et3
  have V_bV_3 := Vb.ext Et3
  have Ex_bA_3 := Eb.ext Et3
  have F_value_bA_3 := Fbv.ext Et3
  have F_coder_bA_3 := Fbc.ext Et3
  have F_count_bA_3 := Fbn.ext Et3
  have F_maybeLatin1_bA_3 := Fbm.ext Et3
  have N3' := Fr.app N1' N3
  refine own_st st3 ?_
  refine own_st (fun _ k => XS.astoreN X3.here hx rfl (hb hby own_d44_16) rfl rfl (l' := #[.val (.ref bA), .val (.ref nb)]) rfl k) ?_
  show own_Go _ _ _ _ T3 (mkF m 17 #[.val (.ref bA), .val (.ref nb)] [])
  refine own_st (fun _ k => XS.aloadN X3.here hx rfl (hb hby own_d44_17) rfl rfl k) ?_
  obtain ⟨T4, X4, e4, st4⟩ := getF X3 hx hZ hown (host := "") (Or.inl (own_w43 hw)) Via.refl rfl F_value_bA_3 (g := (mkF m 18 #[.val (.ref bA), .val (.ref nb)] [(.ref bA)])) rfl rfl (hb hby own_d44_18)
  refine own_st st4 ?_
  refine own_st (fun _ k => XS.iconst X4.here hx rfl (hb hby own_d44_21) k) ?_
  refine own_st (fun _ k => XS.aloadN X4.here hx rfl (hb hby own_d44_22) rfl rfl k) ?_
  refine own_st (fun _ k => XS.iconst X4.here hx rfl (hb hby own_d44_23) k) ?_
  refine own_st (fun _ k => XS.aloadN X4.here hx rfl (hb hby own_d44_24) rfl rfl k) ?_
  obtain ⟨T5, X5, e5, st5⟩ := getF X4 hx hZ hown (host := "") (Or.inl (own_w71 hw)) Via.refl e4 F_count_bA_3 (g := (mkF m 25 #[.val (.ref bA), .val (.ref nb)] [(.ref bA), (.int 0), (.ref nb), (.int 0), (.ref bV)])) rfl rfl (hb hby own_d44_25)
  refine own_st st5 ?_
  obtain ⟨v6, T6, L6, hQ6, X6, st6⟩ := own_callS X5 hx hZ (y := (⟨"java/lang/StringLatin1", "inflate", "([BI[BII)V"⟩ : MethodName)) hown (own_w240 hw) (own_w241 hw) (own_w154 hw) (own_w242 hw) (by decide) (own_li l hw [] bV nb bK kn (0 : Int32) (0 : Int32) (1 : Int32) fm T3.heap n0 (Nat.le_trans Z0 K3x.1) rfl rfl rfl zn zz3 Sad Shi Slo Sfm hfm g_nb V_bV_3 Vn) e5 (g := (mkF m 28 #[.val (.ref bA), .val (.ref nb)] [(.int 1), (.int 0), (.ref nb), (.int 0), (.ref bV)])) rfl (by rw [hml]; rfl) (argsL := [(.ref bV), (.int 0), (.ref nb), (.int 0), (.int 1)]) (rest := []) (lenOf own_pd22 rfl) rfl rfl (W := 0) (Nat.le_of_eq rfl) (hb hby own_d44_28) (by decide) (by decide) (by decide) (by decide)
  obtain ⟨rfl, N6, K6, Vr⟩ := hQ6
  have K6t := Keep.trans K3x K6 (allS (Or.inr s_nb) all0)
  have zz6 := own_extkl zz3 K6 (allS (Nat.le_trans zn g_nb) all0)
  have Ex_bA_6 := Ex_bA_3.keep K6
  have F_value_bA_6 := F_value_bA_3.keep K6 (ninS ne_bA nin0)
  have F_coder_bA_6 := F_coder_bA_3.keep K6 (ninS ne_bA nin0)
  have F_count_bA_6 := F_count_bA_3.keep K6 (ninS ne_bA nin0)
  have F_maybeLatin1_bA_6 := F_maybeLatin1_bA_3.keep K6 (ninS ne_bA nin0)
  have N6' := Fr.app N3' N6
  refine own_st st6 ?_
  show own_Go _ _ _ _ T6 (mkF m 31 #[.val (.ref bA), .val (.ref nb)] [])
  refine own_st (fun _ k => XS.aloadN X6.here hx rfl (hb hby own_d44_31) rfl rfl k) ?_
  refine own_st (fun _ k => XS.aloadN X6.here hx rfl (hb hby own_d44_32) rfl rfl k) ?_
  obtain ⟨T7, hp7, X7, e7, W7, st7⟩ := putF X6 hx hZ hown (host := "") (Or.inl (own_w43 hw)) Via.refl rfl F_value_bA_6 Ex_bA_6 (Or.inl (own_w44 hw)) (own_w30 hw) (ty := (.array .byte)) (by decide) rfl rfl (g := (mkF m 33 #[.val (.ref bA), .val (.ref nb)] [(.ref nb), (.ref bA)])) rfl rfl (hb hby own_d44_33)
  have K7 := Keep.wr K6t W7 (Or.inl (List.mem_of_getElem? (i := 0) rfl))
  have zz7 := own_extw zz6 W7 (Nat.le_trans zn g_bA)
  have V_nb_7 := Vr.other W7 (Ne.symm ne_bA)
  have Ex_bA_7 := Ex_bA_6.wr W7
  have F_coder_bA_7 := F_coder_bA_6.other W7 (Or.inr (slot_ne (Or.inl (own_w46 hw)) (Or.inl (own_w44 hw)) (by decide) (t := .byte) (t' := (.array .byte)) (by decide) (by decide)))
  have F_count_bA_7 := F_count_bA_6.other W7 (Or.inr (slot_ne (Or.inl (own_w72 hw)) (Or.inl (own_w44 hw)) (by decide) (t := .int) (t' := (.array .byte)) (by decide) (by decide)))
  have F_maybeLatin1_bA_7 := F_maybeLatin1_bA_6.other W7 (Or.inr (slot_ne (Or.inl (own_w259 hw)) (Or.inl (own_w44 hw)) (by decide) (t := .boolean) (t' := (.array .byte)) (by decide) (by decide)))
  have F_value_bA_7 := F_value_bA_6.same W7
  have N7 := Fr.snoc X7 N6' g_bA
  refine own_st st7 ?_
  refine own_st (fun _ k => XS.aloadN X7.here hx rfl (hb hby own_d44_36) rfl rfl k) ?_
  refine own_st (fun _ k => XS.iconst X7.here hx rfl (hb hby own_d44_37) k) ?_
  obtain ⟨T8, hp8, X8, e8, W8, st8⟩ := putFN X7 hx hZ hown (own_w45 hw) Via.refl e7 F_coder_bA_7 Ex_bA_7 (Or.inl (own_w46 hw)) (own_w30 hw) (ty := .byte) (v' := (.int 1)) (by decide) rfl (by decide) (g := (mkF m 38 #[.val (.ref bA), .val (.ref nb)] [(.int 1), (.ref bA)])) rfl rfl (hb hby own_d44_38)
  have K8 := Keep.wr K7 W8 (Or.inl (List.mem_of_getElem? (i := 0) rfl))
  have zz8 := own_extw zz7 W8 (Nat.le_trans zn g_bA)
  have V_nb_8 := V_nb_7.other W8 (Ne.symm ne_bA)
  have Ex_bA_8 := Ex_bA_7.wr W8
  have F_value_bA_8 := F_value_bA_7.other W8 (Or.inr (slot_ne (Or.inl (own_w44 hw)) (Or.inl (own_w46 hw)) (by decide) (t := (.array .byte)) (t' := .byte) (by decide) (by decide)))
  have F_count_bA_8 := F_count_bA_7.other W8 (Or.inr (slot_ne (Or.inl (own_w72 hw)) (Or.inl (own_w46 hw)) (by decide) (t := .int) (t' := .byte) (by decide) (by decide)))
  have F_maybeLatin1_bA_8 := F_maybeLatin1_bA_7.other W8 (Or.inr (slot_ne (Or.inl (own_w259 hw)) (Or.inl (own_w46 hw)) (by decide) (t := .boolean) (t' := .byte) (by decide) (by decide)))
  have F_coder_bA_8 := F_coder_bA_7.same W8
  have N8 := Fr.snoc X8 N7 g_bA
  refine own_st st8 ?_
  exact own_retV X8 hx hret hlk (hb hby own_d44_41) ⟨rfl, N8, by rw [e8]; exact K8, nb, kn, g_nb, s_nb, by rw [e8]; exact F_value_bA_8, by rw [e8]; exact F_coder_bA_8, by rw [e8]; exact F_count_bA_8, by rw [e8]; exact F_maybeLatin1_bA_8, by rw [e8]; exact V_nb_8⟩ (by decide) (by decide)
def own_in1_Q (Z : State) (bA bV : Addr) (bK : ClassId) (cs : Int32) (fm : Value) (sA : Addr) (h0 : Heap) (n0 : Nat) (v : Option Value) (h : Heap) (L : List Loc) : Prop := v = none ∧ Fr n0 L ∧ Keep h0 h [bA] ∧ ∃ nb k, n0 ≤ nb ∧ h0.size ≤ nb ∧ Fld Z h bA "java/lang/AbstractStringBuilder" "value" "[B" (.ref nb) ∧ Fld Z h bA "java/lang/AbstractStringBuilder" "coder" "B" (.int 1) ∧ Fld Z h bA "java/lang/AbstractStringBuilder" "count" "I" (.int 1) ∧ Fld Z h bA "java/lang/AbstractStringBuilder" "maybeLatin1" "Z" (.int 0) ∧ Arv Z h nb k .byte (32 : Int32) [(.int (own_B0 (92 : Int32))), (.int (own_B1 (92 : Int32))), (.int 0), (.int 0), (.int 0), (.int 0), (.int 0), (.int 0), (.int 0), (.int 0), (.int 0), (.int 0), (.int 0), (.int 0), (.int 0), (.int 0), (.int 0), (.int 0), (.int 0), (.int 0), (.int 0), (.int 0), (.int 0), (.int 0), (.int 0), (.int 0), (.int 0), (.int 0), (.int 0), (.int 0), (.int 0), (.int 0)] (.int 0)
set_option maxRecDepth 65536 in
set_option maxHeartbeats 40000000 in
theorem own_in1 (l : Launch) {Z : State} {a0 : Array Value} (hw : own_W Z a0) (ws : List Jvm.Cond) (bA bV : Addr) (bK : ClassId) (cs : Int32) (fm : Value) (sA : Addr) (h0 : Heap) (n0 : Nat) (Z0 : n0 ≤ h0.size) (zn : Z.heap.size ≤ n0) (OZ : Ext Z.heap h0) (Scs : Sta Z Z.heap "java/lang/String" "COMPACT_STRINGS" "Z" (.int cs)) (hcs : ¬ cs = 0) (Sad : Sta Z Z.heap "java/lang/StringUTF16" "$assertionsDisabled" "Z" (.int 1)) (Shi : Sta Z Z.heap "java/lang/StringUTF16" "HI_BYTE_SHIFT" "I" (.int 0)) (Slo : Sta Z Z.heap "java/lang/StringUTF16" "LO_BYTE_SHIFT" "I" (.int 8)) (Sfm : Sta Z Z.heap "jdk/internal/util/Preconditions" "SIOOBE_FORMATTER" "Ljava/util/function/BiFunction;" fm) (hfm : fm.isRef = true) (g_bA : n0 ≤ bA) (Eb : Exa Z h0 bA "java/lang/StringBuilder") (Fbv : Fld Z h0 bA "java/lang/AbstractStringBuilder" "value" "[B" (.ref bV)) (Fbc : Fld Z h0 bA "java/lang/AbstractStringBuilder" "coder" "B" (.int 0)) (Fbn : Fld Z h0 bA "java/lang/AbstractStringBuilder" "count" "I" (.int 1)) (Fbm : Fld Z h0 bA "java/lang/AbstractStringBuilder" "maybeLatin1" "Z" (.int 0)) (Vb : Arv Z h0 bV bK .byte (16 : Int32) [(.int 92), (.int 0), (.int 0), (.int 0), (.int 0), (.int 0), (.int 0), (.int 0), (.int 0), (.int 0), (.int 0), (.int 0), (.int 0), (.int 0), (.int 0), (.int 0)] (.int 0)) (Es : Exa Z h0 sA "java/lang/String") (Fsc : Fld Z h0 sA "java/lang/String" "coder" "B" (.int 1)) :
    MetFree l (⟨"java/lang/AbstractStringBuilder", "inflateIfNeededFor", "(Ljava/lang/String;)V"⟩ : MethodName) (head1 (Jvm.Cond.code (⟨"java/lang/AbstractStringBuilder", "inflateIfNeededFor", "(Ljava/lang/String;)V"⟩ : MethodName) jdk_68_method_71_code 2 none :: ws) ({ frames := 6, cells := 1, slots := 32, locals := 89 } : Room)) (fun a U => a = #[(.ref bA), (.ref sA)] ∧ Z.Warmed39 U.vm ∧ U.heap = h0) (fun _ _ _ _ _ => True) (fun _ U o U' => ∃ v L, o = .returned v ∧ own_in1_Q Z bA bV bK cs fm sA h0 n0 v U'.heap L ∧ FrameEnd U o U' L ({ frames := 6, cells := 1, slots := 32, locals := 89 } : Room).cells ({ frames := 6, cells := 1, slots := 32, locals := 89 } : Room).slots) := by
  refine own_enter (C := ({ frames := 6, cells := 1, slots := 32, locals := 89 } : Room).cells) (S := ({ frames := 6, cells := 1, slots := 32, locals := 89 } : Room).slots) (plainFor_of_name own_pn3) ?_
  intro p e s m below meth c T0 X0 I e0
  obtain ⟨hx, hby, hml, hown, hnm, hret, hlk, hZ⟩ := I
  have N0 := Fr.nil n0
  have O0 := own_extr h0
  refine own_cast (own_ef13 m bA sA) ?_
  show own_Go _ _ _ _ T0 (mkF m 0 #[.val (.ref bA), .val (.ref sA)] [])
  obtain ⟨T1, X1, e1, st1⟩ := getS2 X0 hx hZ hown (host := "") (Or.inl (own_w42 hw)) Via.refl e0 (Scs.ext (own_extt OZ O0)) (g := (mkF m 0 #[.val (.ref bA), .val (.ref sA)] [])) rfl (hb hby own_d13_0)
  refine own_st st1 ?_
  refine own_st (fun _ k => XS.ifNo X1.here hx rfl (hb hby own_d13_3) rfl ((if0 _ _).trans (feq (hcs : ¬ (cs = (0 : Int32)))).1) k) ?_
  refine own_st (fun _ k => XS.aloadN X1.here hx rfl (hb hby own_d13_6) rfl rfl k) ?_
  obtain ⟨T2, X2, e2, st2⟩ := getF X1 hx hZ hown (host := "") (Or.inl (own_w45 hw)) Via.refl e1 (Fbc.ext O0) (g := (mkF m 7 #[.val (.ref bA), .val (.ref sA)] [(.ref bA)])) rfl rfl (hb hby own_d13_7)
  refine own_st st2 ?_
  refine own_st (fun _ k => XS.aloadN X2.here hx rfl (hb hby own_d13_10) rfl rfl k) ?_
  obtain ⟨v3, T3, L3, hQ3, X3, st3⟩ := own_callV X2 hx hZ (y := (⟨"java/lang/String", "coder", "()B"⟩ : MethodName)) hown (own_w88 hw) (own_w65 hw) (own_w67 hw) (own_w66 hw) (own_w22 hw) (own_w68 hw) (by decide) (own_co l hw [] sA cs (1 : Int32) h0 n0 (Nat.le_trans Z0 O0.1) zn (own_extt OZ O0) Scs hcs (by decide) (Fsc.ext O0)) e2 (Es.ext O0) (g := (mkF m 11 #[.val (.ref bA), .val (.ref sA)] [(.ref sA), (.int 0)])) rfl (by rw [hml]; rfl) (argsL := []) (rest := [(.int 0)]) (lenOf own_pd1 rfl) rfl rfl (W := 1) (Nat.le_of_eq rfl) (hb hby own_d13_11) (by decide) (by decide) (by decide) (by decide)
  obtain ⟨rfl, N3, e3⟩ := hQ3
  have N3' := Fr.app N0 N3
  refine own_st st3 ?_
  refine own_st (fun _ k => XS.icmpNo X3.here hx rfl (hb hby own_d13_14) rfl (feq (by decide : ¬ ((0 : Int32) = (1 : Int32)))).1 k) ?_
  refine own_st (fun _ k => XS.aloadN X3.here hx rfl (hb hby own_d13_17) rfl rfl k) ?_
  show own_Go _ _ _ _ T3 (mkF m 18 #[.val (.ref bA), .val (.ref sA)] [(.ref bA)])
  obtain ⟨v4, T4, L4, hQ4, X4, st4⟩ := own_callV X3 hx hZ (y := (⟨"java/lang/AbstractStringBuilder", "inflate", "()V"⟩ : MethodName)) hown (own_w227 hw) (own_decl (own_w228 hw) (own_w231 hw)) (own_w230 hw) (own_w228 hw) (own_w39 hw) (own_w231 hw) (by decide) (own_fl l hw [] bA bV bK cs fm h0 n0 (Nat.le_trans Z0 O0.1) zn (own_extt OZ O0) Scs hcs Sad Shi Slo Sfm hfm g_bA (Eb.ext O0) (Fbv.ext O0) (Fbc.ext O0) (Fbn.ext O0) (Fbm.ext O0) (Vb.ext O0)) e3 (Eb.ext O0) (g := (mkF m 18 #[.val (.ref bA), .val (.ref sA)] [(.ref bA)])) rfl (by rw [hml]; rfl) (argsL := []) (rest := []) (lenOf own_pd0 rfl) rfl rfl (W := 0) (Nat.le_of_eq rfl) (hb hby own_d13_18) (by decide) (by decide) (by decide) (by decide)
  obtain ⟨rfl, N4, K4, nb, kn, gn, sn, G1, G2, G3, G4, Vr⟩ := hQ4
  have N4' := Fr.app N3' N4
  refine own_st st4 ?_
  exact own_retV X4 hx hret hlk (hb hby own_d13_21) ⟨rfl, N4', K4, nb, kn, gn, sn, G1, G2, G3, G4, Vr⟩ (by decide) (by decide)
def own_ps1_Q (Z : State) (bA bV : Addr) (bK : ClassId) (cs : Int32) (fm : Value) (sA sV : Addr) (sK : ClassId) (sU : List Value) (res : List Value) (sZ : Int32) (p1 : Int32) (h0 : Heap) (n0 : Nat) (v : Option Value) (h : Heap) (L : List Loc) : Prop := v = none ∧ Fr n0 L ∧ Keep h0 h [bA] ∧ ∃ nb k, n0 ≤ nb ∧ h0.size ≤ nb ∧ Fld Z h bA "java/lang/AbstractStringBuilder" "value" "[B" (.ref nb) ∧ Fld Z h bA "java/lang/AbstractStringBuilder" "coder" "B" (.int 1) ∧ Fld Z h bA "java/lang/AbstractStringBuilder" "count" "I" (.int 1) ∧ Fld Z h bA "java/lang/AbstractStringBuilder" "maybeLatin1" "Z" (.int 0) ∧ Arv Z h nb k .byte (32 : Int32) res (.int 0)
set_option maxRecDepth 65536 in
set_option maxHeartbeats 40000000 in
theorem own_ps1 (l : Launch) {Z : State} {a0 : Array Value} (hw : own_W Z a0) (ws : List Jvm.Cond) (bA bV : Addr) (bK : ClassId) (cs : Int32) (fm : Value) (sA sV : Addr) (sK : ClassId) (sU : List Value) (res : List Value) (sZ : Int32) (p1 : Int32) (h0 : Heap) (n0 : Nat) (Z0 : n0 ≤ h0.size) (hp1 : p1 = 1) (zn : Z.heap.size ≤ n0) (OZ : Ext Z.heap h0) (Scs : Sta Z Z.heap "java/lang/String" "COMPACT_STRINGS" "Z" (.int cs)) (hcs : ¬ cs = 0) (Sad : Sta Z Z.heap "java/lang/StringUTF16" "$assertionsDisabled" "Z" (.int 1)) (Shi : Sta Z Z.heap "java/lang/StringUTF16" "HI_BYTE_SHIFT" "I" (.int 0)) (Slo : Sta Z Z.heap "java/lang/StringUTF16" "LO_BYTE_SHIFT" "I" (.int 8)) (Sfm : Sta Z Z.heap "jdk/internal/util/Preconditions" "SIOOBE_FORMATTER" "Ljava/util/function/BiFunction;" fm) (hfm : fm.isRef = true) (g_bA : n0 ≤ bA) (Eb : Exa Z h0 bA "java/lang/StringBuilder") (Fbv : Fld Z h0 bA "java/lang/AbstractStringBuilder" "value" "[B" (.ref bV)) (Fbc : Fld Z h0 bA "java/lang/AbstractStringBuilder" "coder" "B" (.int 0)) (Fbn : Fld Z h0 bA "java/lang/AbstractStringBuilder" "count" "I" (.int 1)) (Fbm : Fld Z h0 bA "java/lang/AbstractStringBuilder" "maybeLatin1" "Z" (.int 0)) (Vb : Arv Z h0 bV bK .byte (16 : Int32) [(.int 92), (.int 0), (.int 0), (.int 0), (.int 0), (.int 0), (.int 0), (.int 0), (.int 0), (.int 0), (.int 0), (.int 0), (.int 0), (.int 0), (.int 0), (.int 0)] (.int 0)) (Es : Exa Z h0 sA "java/lang/String") (Fsv : Fld Z h0 sA "java/lang/String" "value" "[B" (.ref sV)) (Fsc : Fld Z h0 sA "java/lang/String" "coder" "B" (.int 1)) (Vs : Arv Z h0 sV sK .byte sZ sU (.int 0)) (hz0 : ¬ sZ < 0) (ho5 : (2 : Int32).toNatClampNeg + sZ.toNatClampNeg ≤ (32 : Int32).toNatClampNeg) (hres : own_put [(.int (own_B0 (92 : Int32))), (.int (own_B1 (92 : Int32))), (.int 0), (.int 0), (.int 0), (.int 0), (.int 0), (.int 0), (.int 0), (.int 0), (.int 0), (.int 0), (.int 0), (.int 0), (.int 0), (.int 0), (.int 0), (.int 0), (.int 0), (.int 0), (.int 0), (.int 0), (.int 0), (.int 0), (.int 0), (.int 0), (.int 0), (.int 0), (.int 0), (.int 0), (.int 0), (.int 0)] 2 sU sZ = res) :
    MetFree l (⟨"java/lang/AbstractStringBuilder", "putStringAt", "(ILjava/lang/String;)V"⟩ : MethodName) (head1 (Jvm.Cond.code (⟨"java/lang/AbstractStringBuilder", "putStringAt", "(ILjava/lang/String;)V"⟩ : MethodName) jdk_68_method_73_code 3 none :: ws) ({ frames := 7, cells := 1, slots := 32, locals := 102 } : Room)) (fun a U => a = #[(.ref bA), (.int p1), (.ref sA)] ∧ Z.Warmed39 U.vm ∧ U.heap = h0) (fun _ _ _ _ _ => True) (fun _ U o U' => ∃ v L, o = .returned v ∧ own_ps1_Q Z bA bV bK cs fm sA sV sK sU res sZ p1 h0 n0 v U'.heap L ∧ FrameEnd U o U' L ({ frames := 7, cells := 1, slots := 32, locals := 102 } : Room).cells ({ frames := 7, cells := 1, slots := 32, locals := 102 } : Room).slots) := by
  refine own_enter (C := ({ frames := 7, cells := 1, slots := 32, locals := 102 } : Room).cells) (S := ({ frames := 7, cells := 1, slots := 32, locals := 102 } : Room).slots) (plainFor_of_name own_pn3) ?_
  intro p e s m below meth c T0 X0 I e0
  obtain ⟨hx, hby, hml, hown, hnm, hret, hlk, hZ⟩ := I
  have N0 := Fr.nil n0
  have O0 := own_extr h0
  refine own_cast (own_ef12 m bA p1 sA) ?_
  show own_Go _ _ _ _ T0 (mkF m 0 #[.val (.ref bA), .val (.int p1), .val (.ref sA)] [])
  rw [hp1]
  show own_Go _ _ _ _ T0 (mkF m 0 #[.val (.ref bA), .val (.int 1), .val (.ref sA)] [])
  have K0 := Keep.refl h0 [bA]
  have nes : sA ≠ bA := Exa.ne Es Eb (by decide)
  have nev : bA ≠ sV := Exa.neArv Eb Vs (own_w30 hw)
  refine own_st (fun _ k => XS.aloadN X0.here hx rfl (hb hby own_d12_0) rfl rfl k) ?_
  refine own_st (fun _ k => XS.aloadN X0.here hx rfl (hb hby own_d12_1) rfl rfl k) ?_
  obtain ⟨v1, T1, L1, hQ1, X1, st1⟩ := own_callV X0 hx hZ (y := (⟨"java/lang/AbstractStringBuilder", "inflateIfNeededFor", "(Ljava/lang/String;)V"⟩ : MethodName)) hown (own_w83 hw) (own_decl (own_w84 hw) (own_w87 hw)) (own_w86 hw) (own_w84 hw) (own_w39 hw) (own_w87 hw) (by decide) (own_in1 l hw [] bA bV bK cs fm sA h0 n0 (Nat.le_trans Z0 K0.1) zn OZ Scs hcs Sad Shi Slo Sfm hfm g_bA Eb Fbv Fbc Fbn Fbm Vb Es Fsc) e0 Eb (g := (mkF m 2 #[.val (.ref bA), .val (.int 1), .val (.ref sA)] [(.ref sA), (.ref bA)])) rfl (by rw [hml]; rfl) (argsL := [(.ref sA)]) (rest := []) (lenOf own_pd17 rfl) rfl rfl (W := 0) (Nat.le_of_eq rfl) (hb hby own_d12_2) (by decide) (by decide) (by decide) (by decide)
  obtain ⟨rfl, N1, K1, nb, kn, g_nb, s_nb, G1, G2, G3, G4, Vr⟩ := hQ1
  have ne_bA : bA ≠ nb := Nat.ne_of_lt (Nat.lt_of_lt_of_le Eb.lt s_nb)
  have K1t := Keep.trans K0 K1 (allS (Or.inl (List.mem_of_getElem? (i := 0) rfl)) all0)
  have zz1 := own_extkl OZ K1 (allS (Nat.le_trans zn g_bA) all0)
  have V_sV_1 := Vs.keep K1 (ninS (Ne.symm nev) nin0)
  have Ex_bA_1 := Eb.keep K1
  have Ex_sA_1 := Es.keep K1
  have F_value_sA_1 := Fsv.keep K1 (ninS nes nin0)
  have F_coder_sA_1 := Fsc.keep K1 (ninS nes nin0)
  have N1' := Fr.app N0 N1
  refine own_st st1 ?_
  refine own_st (fun _ k => XS.aloadN X1.here hx rfl (hb hby own_d12_5) rfl rfl k) ?_
  refine own_st (fun _ k => XS.aloadN X1.here hx rfl (hb hby own_d12_6) rfl rfl k) ?_
  obtain ⟨T2, X2, e2, st2⟩ := getF X1 hx hZ hown (host := "") (Or.inl (own_w43 hw)) Via.refl rfl G1 (g := (mkF m 7 #[.val (.ref bA), .val (.int 1), .val (.ref sA)] [(.ref bA), (.ref sA)])) rfl rfl (hb hby own_d12_7)
  refine own_st st2 ?_
  refine own_st (fun _ k => XS.iloadN X2.here hx rfl (hb hby own_d12_10) rfl k) ?_
  refine own_st (fun _ k => XS.aloadN X2.here hx rfl (hb hby own_d12_11) rfl rfl k) ?_
  show own_Go _ _ _ _ T2 (mkF m 12 #[.val (.ref bA), .val (.int 1), .val (.ref sA)] [(.ref bA), (.int 1), (.ref nb), (.ref sA)])
  obtain ⟨T3, X3, e3, st3⟩ := getF X2 hx hZ hown (host := "") (Or.inl (own_w45 hw)) Via.refl e2 G2 (g := (mkF m 12 #[.val (.ref bA), .val (.int 1), .val (.ref sA)] [(.ref bA), (.int 1), (.ref nb), (.ref sA)])) rfl rfl (hb hby own_d12_12)
  refine own_st st3 ?_
  obtain ⟨v4, T4, L4, hQ4, X4, st4⟩ := own_callV X3 hx hZ (y := (⟨"java/lang/String", "getBytes", "([BIB)V"⟩ : MethodName)) hown (own_w89 hw) (own_w90 hw) (own_w92 hw) (own_w91 hw) (own_w22 hw) (own_w93 hw) (by decide) (own_gb l hw [] sA sV sK sU nb kn [(.int (own_B0 (92 : Int32))), (.int (own_B1 (92 : Int32))), (.int 0), (.int 0), (.int 0), (.int 0), (.int 0), (.int 0), (.int 0), (.int 0), (.int 0), (.int 0), (.int 0), (.int 0), (.int 0), (.int 0), (.int 0), (.int 0), (.int 0), (.int 0), (.int 0), (.int 0), (.int 0), (.int 0), (.int 0), (.int 0), (.int 0), (.int 0), (.int 0), (.int 0), (.int 0), (.int 0)] res (1 : Int32) (1 : Int32) (2 : Int32) cs sZ (32 : Int32) T1.heap n0 (Nat.le_trans Z0 K1t.1) zn zz1 Scs hcs (by decide) (by decide) Ex_sA_1 F_value_sA_1 F_coder_sA_1 V_sV_1 g_nb Vr (by decide) hz0 ho5 ho5 hres) e3 Ex_sA_1 (g := (mkF m 15 #[.val (.ref bA), .val (.int 1), .val (.ref sA)] [(.int 1), (.int 1), (.ref nb), (.ref sA)])) rfl (by rw [hml]; rfl) (argsL := [(.ref nb), (.int 1), (.int 1)]) (rest := []) (lenOf own_pd18 rfl) rfl rfl (W := 0) (Nat.le_of_eq rfl) (hb hby own_d12_15) (by decide) (by decide) (by decide) (by decide)
  obtain ⟨rfl, N4, K4, Vq⟩ := hQ4
  have K4t := Keep.trans K1t K4 (allS (Or.inr s_nb) all0)
  have zz4 := own_extkl zz1 K4 (allS (Nat.le_trans zn g_nb) all0)
  have Ex_bA_4 := Ex_bA_1.keep K4
  have F_value_bA_4 := G1.keep K4 (ninS ne_bA nin0)
  have F_coder_bA_4 := G2.keep K4 (ninS ne_bA nin0)
  have F_count_bA_4 := G3.keep K4 (ninS ne_bA nin0)
  have F_maybeLatin1_bA_4 := G4.keep K4 (ninS ne_bA nin0)
  have N4' := Fr.app N1' N4
  refine own_st st4 ?_
  exact own_retV X4 hx hret hlk (hb hby own_d12_18) ⟨rfl, N4', K4t, nb, kn, g_nb, s_nb, F_value_bA_4, F_coder_bA_4, F_count_bA_4, F_maybeLatin1_bA_4, Vq⟩ (by decide) (by decide)
def own_ap1_Q (Z : State) (bA bV : Addr) (bK : ClassId) (cs : Int32) (fm : Value) (sA sV : Addr) (sK : ClassId) (sU : List Value) (res : List Value) (sZ sl : Int32) (h0 : Heap) (n0 : Nat) (v : Option Value) (h : Heap) (L : List Loc) : Prop := v = some (.ref bA) ∧ Fr n0 L ∧ Keep h0 h [bA] ∧ ∃ nb k, n0 ≤ nb ∧ h0.size ≤ nb ∧ Fld Z h bA "java/lang/AbstractStringBuilder" "value" "[B" (.ref nb) ∧ Fld Z h bA "java/lang/AbstractStringBuilder" "coder" "B" (.int 1) ∧ Fld Z h bA "java/lang/AbstractStringBuilder" "count" "I" (.int ((1 : Int32) + sl)) ∧ Fld Z h bA "java/lang/AbstractStringBuilder" "maybeLatin1" "Z" (.int 0) ∧ Arv Z h nb k .byte (32 : Int32) res (.int 0)
set_option maxRecDepth 65536 in
set_option maxHeartbeats 40000000 in
theorem own_ap1 (l : Launch) {Z : State} {a0 : Array Value} (hw : own_W Z a0) (ws : List Jvm.Cond) (bA bV : Addr) (bK : ClassId) (cs : Int32) (fm : Value) (sA sV : Addr) (sK : ClassId) (sU : List Value) (res : List Value) (sZ sl : Int32) (h0 : Heap) (n0 : Nat) (Z0 : n0 ≤ h0.size) (hln : (sZ >>> ((1 : Int32) &&& 31)) = sl) (hcap : ¬ (0 : Int32) < (((1 : Int32) + sl) - (16 : Int32))) (zn : Z.heap.size ≤ n0) (OZ : Ext Z.heap h0) (Scs : Sta Z Z.heap "java/lang/String" "COMPACT_STRINGS" "Z" (.int cs)) (hcs : ¬ cs = 0) (Sad : Sta Z Z.heap "java/lang/StringUTF16" "$assertionsDisabled" "Z" (.int 1)) (Shi : Sta Z Z.heap "java/lang/StringUTF16" "HI_BYTE_SHIFT" "I" (.int 0)) (Slo : Sta Z Z.heap "java/lang/StringUTF16" "LO_BYTE_SHIFT" "I" (.int 8)) (Sfm : Sta Z Z.heap "jdk/internal/util/Preconditions" "SIOOBE_FORMATTER" "Ljava/util/function/BiFunction;" fm) (hfm : fm.isRef = true) (g_bA : n0 ≤ bA) (Eb : Exa Z h0 bA "java/lang/StringBuilder") (Fbv : Fld Z h0 bA "java/lang/AbstractStringBuilder" "value" "[B" (.ref bV)) (Fbc : Fld Z h0 bA "java/lang/AbstractStringBuilder" "coder" "B" (.int 0)) (Fbn : Fld Z h0 bA "java/lang/AbstractStringBuilder" "count" "I" (.int 1)) (Fbm : Fld Z h0 bA "java/lang/AbstractStringBuilder" "maybeLatin1" "Z" (.int 0)) (Vb : Arv Z h0 bV bK .byte (16 : Int32) [(.int 92), (.int 0), (.int 0), (.int 0), (.int 0), (.int 0), (.int 0), (.int 0), (.int 0), (.int 0), (.int 0), (.int 0), (.int 0), (.int 0), (.int 0), (.int 0)] (.int 0)) (Es : Exa Z h0 sA "java/lang/String") (Fsv : Fld Z h0 sA "java/lang/String" "value" "[B" (.ref sV)) (Fsc : Fld Z h0 sA "java/lang/String" "coder" "B" (.int 1)) (Vs : Arv Z h0 sV sK .byte sZ sU (.int 0)) (hz0 : ¬ sZ < 0) (ho5 : (2 : Int32).toNatClampNeg + sZ.toNatClampNeg ≤ (32 : Int32).toNatClampNeg) (hres : own_put [(.int (own_B0 (92 : Int32))), (.int (own_B1 (92 : Int32))), (.int 0), (.int 0), (.int 0), (.int 0), (.int 0), (.int 0), (.int 0), (.int 0), (.int 0), (.int 0), (.int 0), (.int 0), (.int 0), (.int 0), (.int 0), (.int 0), (.int 0), (.int 0), (.int 0), (.int 0), (.int 0), (.int 0), (.int 0), (.int 0), (.int 0), (.int 0), (.int 0), (.int 0), (.int 0), (.int 0)] 2 sU sZ = res) :
    MetFree l (⟨"java/lang/AbstractStringBuilder", "append", "(Ljava/lang/String;)Ljava/lang/AbstractStringBuilder;"⟩ : MethodName) (head1 (Jvm.Cond.code (⟨"java/lang/AbstractStringBuilder", "append", "(Ljava/lang/String;)Ljava/lang/AbstractStringBuilder;"⟩ : MethodName) jdk_68_method_22_code 3 (some (.object "java/lang/AbstractStringBuilder")) :: ws) ({ frames := 8, cells := 1, slots := 32, locals := 116 } : Room)) (fun a U => a = #[(.ref bA), (.ref sA)] ∧ Z.Warmed39 U.vm ∧ U.heap = h0) (fun _ _ _ _ _ => True) (fun _ U o U' => ∃ v L, o = .returned v ∧ own_ap1_Q Z bA bV bK cs fm sA sV sK sU res sZ sl h0 n0 v U'.heap L ∧ FrameEnd U o U' L ({ frames := 8, cells := 1, slots := 32, locals := 116 } : Room).cells ({ frames := 8, cells := 1, slots := 32, locals := 116 } : Room).slots) := by
  refine own_enter (C := ({ frames := 8, cells := 1, slots := 32, locals := 116 } : Room).cells) (S := ({ frames := 8, cells := 1, slots := 32, locals := 116 } : Room).slots) (plainFor_of_name own_pn3) ?_
  intro p e s m below meth c T0 X0 I e0
  obtain ⟨hx, hby, hml, hown, hnm, hret, hlk, hZ⟩ := I
  have N0 := Fr.nil n0
  have O0 := own_extr h0
  refine own_cast (own_ef8 m bA sA) ?_
  show own_Go _ _ _ _ T0 (mkF m 0 #[.val (.ref bA), .val (.ref sA), .unset] [])
  have K0 := Keep.refl h0 [bA]
  refine own_st (fun _ k => XS.aloadN X0.here hx rfl (hb hby own_d8_0) rfl rfl k) ?_
  refine own_st (fun _ k => XS.ifnonnullYes X0.here hx rfl (pc0 := 1) (pc' := 9) rfl (hb hby own_d8_1) rfl (by decide) (by decide) k) ?_
  refine own_st (fun _ k => XS.aloadN X0.here hx rfl (hb hby own_d8_9) rfl rfl k) ?_
  obtain ⟨v1, T1, L1, hQ1, X1, st1⟩ := own_callV X0 hx hZ (y := (⟨"java/lang/String", "length", "()I"⟩ : MethodName)) hown (own_w58 hw) (own_w59 hw) (own_w61 hw) (own_w60 hw) (own_w22 hw) (own_w62 hw) (by decide) (own_ln l hw [] sA sV sK sU cs (1 : Int32) sZ sl h0 n0 (Nat.le_trans Z0 K0.1) zn OZ Scs hcs (by decide) hln Es Fsv Fsc Vs) e0 Es (g := (mkF m 10 #[.val (.ref bA), .val (.ref sA), .unset] [(.ref sA)])) rfl (by rw [hml]; rfl) (argsL := []) (rest := []) (lenOf own_pd16 rfl) rfl rfl (W := 0) (Nat.le_of_eq rfl) (hb hby own_d8_10) (by decide) (by decide) (by decide) (by decide)
  obtain ⟨rfl, N1, e1⟩ := hQ1
  have N1' := Fr.app N0 N1
  refine own_st st1 ?_
  refine own_st (fun _ k => XS.istoreN X1.here hx rfl (hb hby own_d8_13) rfl (l' := #[.val (.ref bA), .val (.ref sA), .val (.int sl)]) rfl k) ?_
  refine own_st (fun _ k => XS.aloadN X1.here hx rfl (hb hby own_d8_14) rfl rfl k) ?_
  refine own_st (fun _ k => XS.aloadN X1.here hx rfl (hb hby own_d8_15) rfl rfl k) ?_
  obtain ⟨T2, X2, e2, st2⟩ := getF X1 hx hZ hown (host := "") (Or.inl (own_w71 hw)) Via.refl e1 Fbn (g := (mkF m 16 #[.val (.ref bA), .val (.ref sA), .val (.int sl)] [(.ref bA), (.ref bA)])) rfl rfl (hb hby own_d8_16)
  refine own_st st2 ?_
  show own_Go _ _ _ _ T2 (mkF m 19 #[.val (.ref bA), .val (.ref sA), .val (.int sl)] [(.int 1), (.ref bA)])
  refine own_st (fun _ k => XS.iloadN X2.here hx rfl (hb hby own_d8_19) rfl k) ?_
  refine own_st (fun _ k => XS.iadd X2.here hx rfl (hb hby own_d8_20) rfl k) ?_
  obtain ⟨v3, T3, L3, hQ3, X3, st3⟩ := own_callV X2 hx hZ (y := (⟨"java/lang/AbstractStringBuilder", "ensureCapacityInternal", "(I)V"⟩ : MethodName)) hown (own_w73 hw) (own_decl (own_w74 hw) (own_w77 hw)) (own_w76 hw) (own_w74 hw) (own_w39 hw) (own_w77 hw) (by decide) (own_ec l hw [] bA bV bK [(.int 92), (.int 0), (.int 0), (.int 0), (.int 0), (.int 0), (.int 0), (.int 0), (.int 0), (.int 0), (.int 0), (.int 0), (.int 0), (.int 0), (.int 0), (.int 0)] ((1 : Int32) + sl) (1 : Int32) h0 n0 (Nat.le_trans Z0 K0.1) hcap Eb Fbv Fbc Fbn Fbm Vb) e2 Eb (g := (mkF m 21 #[.val (.ref bA), .val (.ref sA), .val (.int sl)] [(.int ((1 : Int32) + sl)), (.ref bA)])) rfl (by rw [hml]; rfl) (argsL := [(.int ((1 : Int32) + sl))]) (rest := []) (lenOf own_pd15 rfl) rfl rfl (W := 0) (Nat.le_of_eq rfl) (hb hby own_d8_21) (by decide) (by decide) (by decide) (by decide)
  obtain ⟨rfl, N3, e3⟩ := hQ3
  have N3' := Fr.app N1' N3
  refine own_st st3 ?_
  refine own_st (fun _ k => XS.aloadN X3.here hx rfl (hb hby own_d8_24) rfl rfl k) ?_
  refine own_st (fun _ k => XS.aloadN X3.here hx rfl (hb hby own_d8_25) rfl rfl k) ?_
  obtain ⟨T4, X4, e4, st4⟩ := getF X3 hx hZ hown (host := "") (Or.inl (own_w71 hw)) Via.refl e3 Fbn (g := (mkF m 26 #[.val (.ref bA), .val (.ref sA), .val (.int sl)] [(.ref bA), (.ref bA)])) rfl rfl (hb hby own_d8_26)
  refine own_st st4 ?_
  refine own_st (fun _ k => XS.aloadN X4.here hx rfl (hb hby own_d8_29) rfl rfl k) ?_
  obtain ⟨v5, T5, L5, hQ5, X5, st5⟩ := own_callV X4 hx hZ (y := (⟨"java/lang/AbstractStringBuilder", "putStringAt", "(ILjava/lang/String;)V"⟩ : MethodName)) hown (own_w78 hw) (own_decl (own_w79 hw) (own_w82 hw)) (own_w81 hw) (own_w79 hw) (own_w39 hw) (own_w82 hw) (by decide) (own_ps1 l hw [] bA bV bK cs fm sA sV sK sU res sZ (1 : Int32) h0 n0 (Nat.le_trans Z0 K0.1) rfl zn OZ Scs hcs Sad Shi Slo Sfm hfm g_bA Eb Fbv Fbc Fbn Fbm Vb Es Fsv Fsc Vs hz0 ho5 hres) e4 Eb (g := (mkF m 30 #[.val (.ref bA), .val (.ref sA), .val (.int sl)] [(.ref sA), (.int 1), (.ref bA)])) rfl (by rw [hml]; rfl) (argsL := [(.int 1), (.ref sA)]) (rest := []) (lenOf own_pd19 rfl) rfl rfl (W := 0) (Nat.le_of_eq rfl) (hb hby own_d8_30) (by decide) (by decide) (by decide) (by decide)
  obtain ⟨rfl, N5, K5, nb, kn, g_nb, s_nb, G1, G2, G3, G4, Vr⟩ := hQ5
  have ne_bA : bA ≠ nb := Nat.ne_of_lt (Nat.lt_of_lt_of_le Eb.lt s_nb)
  have K5t := Keep.trans K0 K5 (allS (Or.inl (List.mem_of_getElem? (i := 0) rfl)) all0)
  have zz5 := own_extkl OZ K5 (allS (Nat.le_trans zn g_bA) all0)
  have Ex_bA_5 := Eb.keep K5
  have N5' := Fr.app N3' N5
  refine own_st st5 ?_
  show own_Go _ _ _ _ T5 (mkF m 33 #[.val (.ref bA), .val (.ref sA), .val (.int sl)] [])
  refine own_st (fun _ k => XS.aloadN X5.here hx rfl (hb hby own_d8_33) rfl rfl k) ?_
  refine own_st (fun _ k => XS.dup X5.here hx rfl (hb hby own_d8_34) rfl rfl k) ?_
  obtain ⟨T6, X6, e6, st6⟩ := getF X5 hx hZ hown (host := "") (Or.inl (own_w71 hw)) Via.refl rfl G3 (g := (mkF m 35 #[.val (.ref bA), .val (.ref sA), .val (.int sl)] [(.ref bA), (.ref bA)])) rfl rfl (hb hby own_d8_35)
  refine own_st st6 ?_
  refine own_st (fun _ k => XS.iloadN X6.here hx rfl (hb hby own_d8_38) rfl k) ?_
  refine own_st (fun _ k => XS.iadd X6.here hx rfl (hb hby own_d8_39) rfl k) ?_
  obtain ⟨T7, hp7, X7, e7, W7, st7⟩ := putF X6 hx hZ hown (host := "") (Or.inl (own_w71 hw)) Via.refl e6 G3 Ex_bA_5 (Or.inl (own_w72 hw)) (own_w30 hw) (ty := .int) (by decide) rfl rfl (g := (mkF m 40 #[.val (.ref bA), .val (.ref sA), .val (.int sl)] [(.int ((1 : Int32) + sl)), (.ref bA)])) rfl rfl (hb hby own_d8_40)
  have K7 := Keep.wr K5t W7 (Or.inl (List.mem_of_getElem? (i := 0) rfl))
  have zz7 := own_extw zz5 W7 (Nat.le_trans zn g_bA)
  have V_nb_7 := Vr.other W7 (Ne.symm ne_bA)
  have Ex_bA_7 := Ex_bA_5.wr W7
  have F_value_bA_7 := G1.other W7 (Or.inr (slot_ne (Or.inl (own_w44 hw)) (Or.inl (own_w72 hw)) (by decide) (t := (.array .byte)) (t' := .int) (by decide) (by decide)))
  have F_coder_bA_7 := G2.other W7 (Or.inr (slot_ne (Or.inl (own_w46 hw)) (Or.inl (own_w72 hw)) (by decide) (t := .byte) (t' := .int) (by decide) (by decide)))
  have F_maybeLatin1_bA_7 := G4.other W7 (Or.inr (slot_ne (Or.inl (own_w259 hw)) (Or.inl (own_w72 hw)) (by decide) (t := .boolean) (t' := .int) (by decide) (by decide)))
  have F_count_bA_7 := G3.same W7
  have N7 := Fr.snoc X7 N5' g_bA
  refine own_st st7 ?_
  refine own_st (fun _ k => XS.aloadN X7.here hx rfl (hb hby own_d8_43) rfl rfl k) ?_
  exact own_retA X7 hx hret rfl hlk rfl (hb hby own_d8_44) ⟨rfl, N7, by rw [e7]; exact K7, nb, kn, g_nb, s_nb, by rw [e7]; exact F_value_bA_7, by rw [e7]; exact F_coder_bA_7, by rw [e7]; exact F_count_bA_7, by rw [e7]; exact F_maybeLatin1_bA_7, by rw [e7]; exact V_nb_7⟩ (by decide) (by decide)
def own_sap1_Q (Z : State) (bA bV : Addr) (bK : ClassId) (cs : Int32) (fm : Value) (sA sV : Addr) (sK : ClassId) (sU : List Value) (res : List Value) (sZ sl : Int32) (h0 : Heap) (n0 : Nat) (v : Option Value) (h : Heap) (L : List Loc) : Prop := v = some (.ref bA) ∧ Fr n0 L ∧ Keep h0 h [bA] ∧ ∃ nb k, n0 ≤ nb ∧ h0.size ≤ nb ∧ Fld Z h bA "java/lang/AbstractStringBuilder" "value" "[B" (.ref nb) ∧ Fld Z h bA "java/lang/AbstractStringBuilder" "coder" "B" (.int 1) ∧ Fld Z h bA "java/lang/AbstractStringBuilder" "count" "I" (.int ((1 : Int32) + sl)) ∧ Fld Z h bA "java/lang/AbstractStringBuilder" "maybeLatin1" "Z" (.int 0) ∧ Arv Z h nb k .byte (32 : Int32) res (.int 0)
set_option maxRecDepth 65536 in
set_option maxHeartbeats 40000000 in
theorem own_sap1 (l : Launch) {Z : State} {a0 : Array Value} (hw : own_W Z a0) (ws : List Jvm.Cond) (bA bV : Addr) (bK : ClassId) (cs : Int32) (fm : Value) (sA sV : Addr) (sK : ClassId) (sU : List Value) (res : List Value) (sZ sl : Int32) (h0 : Heap) (n0 : Nat) (Z0 : n0 ≤ h0.size) (hln : (sZ >>> ((1 : Int32) &&& 31)) = sl) (hcap : ¬ (0 : Int32) < (((1 : Int32) + sl) - (16 : Int32))) (zn : Z.heap.size ≤ n0) (OZ : Ext Z.heap h0) (Scs : Sta Z Z.heap "java/lang/String" "COMPACT_STRINGS" "Z" (.int cs)) (hcs : ¬ cs = 0) (Sad : Sta Z Z.heap "java/lang/StringUTF16" "$assertionsDisabled" "Z" (.int 1)) (Shi : Sta Z Z.heap "java/lang/StringUTF16" "HI_BYTE_SHIFT" "I" (.int 0)) (Slo : Sta Z Z.heap "java/lang/StringUTF16" "LO_BYTE_SHIFT" "I" (.int 8)) (Sfm : Sta Z Z.heap "jdk/internal/util/Preconditions" "SIOOBE_FORMATTER" "Ljava/util/function/BiFunction;" fm) (hfm : fm.isRef = true) (g_bA : n0 ≤ bA) (Eb : Exa Z h0 bA "java/lang/StringBuilder") (Fbv : Fld Z h0 bA "java/lang/AbstractStringBuilder" "value" "[B" (.ref bV)) (Fbc : Fld Z h0 bA "java/lang/AbstractStringBuilder" "coder" "B" (.int 0)) (Fbn : Fld Z h0 bA "java/lang/AbstractStringBuilder" "count" "I" (.int 1)) (Fbm : Fld Z h0 bA "java/lang/AbstractStringBuilder" "maybeLatin1" "Z" (.int 0)) (Vb : Arv Z h0 bV bK .byte (16 : Int32) [(.int 92), (.int 0), (.int 0), (.int 0), (.int 0), (.int 0), (.int 0), (.int 0), (.int 0), (.int 0), (.int 0), (.int 0), (.int 0), (.int 0), (.int 0), (.int 0)] (.int 0)) (Es : Exa Z h0 sA "java/lang/String") (Fsv : Fld Z h0 sA "java/lang/String" "value" "[B" (.ref sV)) (Fsc : Fld Z h0 sA "java/lang/String" "coder" "B" (.int 1)) (Vs : Arv Z h0 sV sK .byte sZ sU (.int 0)) (hz0 : ¬ sZ < 0) (ho5 : (2 : Int32).toNatClampNeg + sZ.toNatClampNeg ≤ (32 : Int32).toNatClampNeg) (hres : own_put [(.int (own_B0 (92 : Int32))), (.int (own_B1 (92 : Int32))), (.int 0), (.int 0), (.int 0), (.int 0), (.int 0), (.int 0), (.int 0), (.int 0), (.int 0), (.int 0), (.int 0), (.int 0), (.int 0), (.int 0), (.int 0), (.int 0), (.int 0), (.int 0), (.int 0), (.int 0), (.int 0), (.int 0), (.int 0), (.int 0), (.int 0), (.int 0), (.int 0), (.int 0), (.int 0), (.int 0)] 2 sU sZ = res) :
    MetFree l (⟨"java/lang/StringBuilder", "append", "(Ljava/lang/String;)Ljava/lang/StringBuilder;"⟩ : MethodName) (head1 (Jvm.Cond.code (⟨"java/lang/StringBuilder", "append", "(Ljava/lang/String;)Ljava/lang/StringBuilder;"⟩ : MethodName) jdk_67_method_7_code 2 (some (.object "java/lang/StringBuilder")) :: ws) ({ frames := 9, cells := 1, slots := 32, locals := 130 } : Room)) (fun a U => a = #[(.ref bA), (.ref sA)] ∧ Z.Warmed39 U.vm ∧ U.heap = h0) (fun _ _ _ _ _ => True) (fun _ U o U' => ∃ v L, o = .returned v ∧ own_sap1_Q Z bA bV bK cs fm sA sV sK sU res sZ sl h0 n0 v U'.heap L ∧ FrameEnd U o U' L ({ frames := 9, cells := 1, slots := 32, locals := 130 } : Room).cells ({ frames := 9, cells := 1, slots := 32, locals := 130 } : Room).slots) := by
  refine own_enter (C := ({ frames := 9, cells := 1, slots := 32, locals := 130 } : Room).cells) (S := ({ frames := 9, cells := 1, slots := 32, locals := 130 } : Room).slots) (plainFor_of_name own_pn9) ?_
  intro p e s m below meth c T0 X0 I e0
  obtain ⟨hx, hby, hml, hown, hnm, hret, hlk, hZ⟩ := I
  have N0 := Fr.nil n0
  have O0 := own_extr h0
  refine own_cast (own_ef7 m bA sA) ?_
  show own_Go _ _ _ _ T0 (mkF m 0 #[.val (.ref bA), .val (.ref sA)] [])
  refine own_st (fun _ k => XS.aloadN X0.here hx rfl (hb hby own_d7_0) rfl rfl k) ?_
  refine own_st (fun _ k => XS.aloadN X0.here hx rfl (hb hby own_d7_1) rfl rfl k) ?_
  obtain ⟨v1, T1, L1, hQ1, X1, st1⟩ := own_callT X0 hx hZ (y := (⟨"java/lang/AbstractStringBuilder", "append", "(Ljava/lang/String;)Ljava/lang/AbstractStringBuilder;"⟩ : MethodName)) (by decide) hown (own_w53 hw) (own_same (y := (⟨"java/lang/AbstractStringBuilder", "append", "(Ljava/lang/String;)Ljava/lang/AbstractStringBuilder;"⟩ : MethodName)) (own_w54 hw) (own_w115 hw) (own_w113 hw) rfl (by decide)) (own_w54 hw) (own_w55 hw) (own_w39 hw) (own_w57 hw) (own_ap1 l hw [] bA bV bK cs fm sA sV sK sU res sZ sl h0 n0 (Nat.le_trans Z0 O0.1) hln hcap zn (own_extt OZ O0) Scs hcs Sad Shi Slo Sfm hfm g_bA (Eb.ext O0) (Fbv.ext O0) (Fbc.ext O0) (Fbn.ext O0) (Fbm.ext O0) (Vb.ext O0) (Es.ext O0) (Fsv.ext O0) (Fsc.ext O0) (Vs.ext O0) hz0 ho5 hres) e0 (Ins.self (Eb.ext O0)) (g := (mkF m 2 #[.val (.ref bA), .val (.ref sA)] [(.ref sA), (.ref bA)])) rfl (by rw [hml]; rfl) (argsL := [(.ref sA)]) (rest := []) (lenOf own_pd20 rfl) rfl rfl (W := 0) (Nat.le_of_eq rfl) (hb hby own_d7_2) (by decide) (by decide) (by decide) (by decide)
  obtain ⟨rfl, N1, K1, nb, kn, gn, sn, G1, G2, G3, G4, Vr⟩ := hQ1
  have N1' := Fr.app N0 N1
  refine own_st st1 ?_
  refine own_st (fun _ k => XS.pop X1.here hx rfl (hb hby own_d7_5) rfl rfl k) ?_
  refine own_st (fun _ k => XS.aloadN X1.here hx rfl (hb hby own_d7_6) rfl rfl k) ?_
  exact own_retA X1 hx hret rfl hlk rfl (hb hby own_d7_7) ⟨rfl, N1', K1, nb, kn, gn, sn, G1, G2, G3, G4, Vr⟩ (by decide) (by decide)
def own_cr_Q (Z : State) (a1 : Addr) (k1 : ClassId) (us : List Value) (p1 n z : Int32) (h0 : Heap) (n0 : Nat) (v : Option Value) (h : Heap) (L : List Loc) : Prop := ∃ b k, v = some (.ref b) ∧ Fr n0 L ∧ Ext h0 h ∧ n0 ≤ b ∧ h0.size ≤ b ∧ Arv Z h b k .byte n (own_cut us n) (.int 0)
set_option maxRecDepth 65536 in
set_option maxHeartbeats 40000000 in
theorem own_cr (l : Launch) {Z : State} {a0 : Array Value} (hw : own_W Z a0) (ws : List Jvm.Cond) (a1 : Addr) (k1 : ClassId) (us : List Value) (p1 n z : Int32) (h0 : Heap) (n0 : Nat) (Z0 : n0 ≤ h0.size) (hp1 : p1 = 0) (hn0 : ¬ n < 0) (hn16 : n.toNatClampNeg ≤ 16) (hnz : n < z) (hnn : n.toNatClampNeg ≤ z.toNatClampNeg) (Va : Arv Z h0 a1 k1 .byte z us (.int 0)) :
    MetFree l (⟨"java/util/Arrays", "copyOfRangeByte", "([BII)[B"⟩ : MethodName) (head1 (Jvm.Cond.code (⟨"java/util/Arrays", "copyOfRangeByte", "([BII)[B"⟩ : MethodName) jdk_65_method_133_code 5 (some (.array .byte)) :: ws) ({ frames := 1, cells := 1, slots := 16, locals := 18 } : Room)) (fun a U => a = #[(.ref a1), (.int p1), (.int n)] ∧ Z.Warmed39 U.vm ∧ U.heap = h0) (fun _ _ _ _ _ => True) (fun _ U o U' => ∃ v L, o = .returned v ∧ own_cr_Q Z a1 k1 us p1 n z h0 n0 v U'.heap L ∧ FrameEnd U o U' L ({ frames := 1, cells := 1, slots := 16, locals := 18 } : Room).cells ({ frames := 1, cells := 1, slots := 16, locals := 18 } : Room).slots) := by
  refine own_enter (C := ({ frames := 1, cells := 1, slots := 16, locals := 18 } : Room).cells) (S := ({ frames := 1, cells := 1, slots := 16, locals := 18 } : Room).slots) (plainFor_of_name own_pn4) ?_
  intro p e s m below meth c T0 X0 I e0
  obtain ⟨hx, hby, hml, hown, hnm, hret, hlk, hZ⟩ := I
  have N0 := Fr.nil n0
  have O0 := own_extr h0
  refine own_cast (own_ef23 m a1 p1 n) ?_
  show own_Go _ _ _ _ T0 (mkF m 0 #[.val (.ref a1), .val (.int p1), .val (.int n), .unset, .unset] [])
  rw [hp1]
  show own_Go _ _ _ _ T0 (mkF m 0 #[.val (.ref a1), .val (.int 0), .val (.int n), .unset, .unset] [])
  refine own_st (fun _ k => XS.iloadN X0.here hx rfl (hb hby own_d23_0) rfl k) ?_
  refine own_st (fun _ k => XS.iloadN X0.here hx rfl (hb hby own_d23_1) rfl k) ?_
  obtain ⟨v1, T1, L1, hQ1, X1, st1⟩ := own_callS X0 hx hZ (y := (⟨"java/util/Arrays", "checkLength", "(II)V"⟩ : MethodName)) hown (own_w137 hw) (own_w138 hw) (own_w132 hw) (own_w139 hw) (by decide) (own_ckl l hw [] (0 : Int32) n h0 n0 (Nat.le_trans Z0 O0.1) hn0) e0 (g := (mkF m 2 #[.val (.ref a1), .val (.int 0), .val (.int n), .unset, .unset] [(.int n), (.int 0)])) rfl (by rw [hml]; rfl) (argsL := [(.int 0), (.int n)]) (rest := []) (lenOf own_pd5 rfl) rfl rfl (W := 0) (Nat.le_of_eq rfl) (hb hby own_d23_2) (by decide) (by decide) (by decide) (by decide)
  obtain ⟨rfl, N1, e1⟩ := hQ1
  have N1' := Fr.app N0 N1
  refine own_st st1 ?_
  refine own_st (fun _ k => XS.iloadN X1.here hx rfl (hb hby own_d23_5) rfl k) ?_
  refine own_st (fun _ k => XS.iloadN X1.here hx rfl (hb hby own_d23_6) rfl k) ?_
  refine own_st (fun _ k => XS.isub X1.here hx rfl (hb hby own_d23_7) rfl k) ?_
  show own_Go _ _ _ _ T1 (mkF m 8 #[.val (.ref a1), .val (.int 0), .val (.int n), .unset, .unset] [(.int (n - (0 : Int32)))])
  rw [own_sub0 n]
  refine own_st (fun _ k => XS.istoreN X1.here hx rfl (hb hby own_d23_8) rfl (l' := #[.val (.ref a1), .val (.int 0), .val (.int n), .val (.int n), .unset]) rfl k) ?_
  refine own_st (fun _ k => XS.iloadN X1.here hx rfl (hb hby own_d23_9) rfl k) ?_
  obtain ⟨T2, hp2, kk2, X2, e2, Et2, A2, st2⟩ := newP X1 hx hZ (aty := .byte) (own_w24 hw) e1 (g := (mkF m 10 #[.val (.ref a1), .val (.int 0), .val (.int n), .val (.int n), .unset] [(.int n)])) rfl (hb hby own_d23_10) rfl hn0 (cap := 16) hn16 (by decide) (by decide) (by decide)
  obtain ⟨b2, g2⟩ : ∃ z, z = h0.size := ⟨_, rfl⟩
  rw [← g2] at A2 st2
  have s_b2 : h0.size ≤ b2 := Nat.le_trans O0.1 (Nat.le_of_eq g2.symm)
  have g_b2 : n0 ≤ b2 := Nat.le_trans Z0 s_b2
  have O2 := own_extt O0 Et2
  have Va2 : Arv Z hp2 b2 kk2 .byte n ([] ++ List.replicate n.toNatClampNeg (.int 0)) (.int 0) := (Arv.new A2 hn0).pad (pad_rep [] (.int 0) n.toNatClampNeg)
  refine own_st st2 ?_
  refine own_st (fun _ k => XS.astore X2.here hx rfl (hb hby own_d23_12) rfl rfl (l' := #[.val (.ref a1), .val (.int 0), .val (.int n), .val (.int n), .val (.ref b2)]) rfl k) ?_
  refine own_st (fun _ k => XS.aloadN X2.here hx rfl (hb hby own_d23_14) rfl rfl k) ?_
  refine own_st (fun _ k => XS.iloadN X2.here hx rfl (hb hby own_d23_15) rfl k) ?_
  refine own_st (fun _ k => XS.aload X2.here hx rfl (hb hby own_d23_16) rfl rfl k) ?_
  show own_Go _ _ _ _ T2 (mkF m 18 #[.val (.ref a1), .val (.int 0), .val (.int n), .val (.int n), .val (.ref b2)] [(.ref b2), (.int 0), (.ref a1)])
  refine own_st (fun _ k => XS.iconst X2.here hx rfl (hb hby own_d23_18) k) ?_
  refine own_st (fun _ k => XS.aloadN X2.here hx rfl (hb hby own_d23_19) rfl rfl k) ?_
  refine own_st (own_len X2 hx hZ e2 (Va.ext O2) (g := (mkF m 20 #[.val (.ref a1), .val (.int 0), .val (.int n), .val (.int n), .val (.ref b2)] [(.ref a1), (.int 0), (.ref b2), (.int 0), (.ref a1)])) rfl rfl (hb hby own_d23_20)) ?_
  refine own_st (fun _ k => XS.iloadN X2.here hx rfl (hb hby own_d23_21) rfl k) ?_
  refine own_st (fun _ k => XS.isub X2.here hx rfl (hb hby own_d23_22) rfl k) ?_
  show own_Go _ _ _ _ T2 (mkF m 23 #[.val (.ref a1), .val (.int 0), .val (.int n), .val (.int n), .val (.ref b2)] [(.int (z - (0 : Int32))), (.int 0), (.ref b2), (.int 0), (.ref a1)])
  rw [own_sub0 z]
  refine own_st (fun _ k => XS.iloadN X2.here hx rfl (hb hby own_d23_23) rfl k) ?_
  obtain ⟨v3, T3, L3, hQ3, X3, st3⟩ := own_callS X2 hx hZ (y := (⟨"java/lang/Math", "min", "(II)I"⟩ : MethodName)) hown (own_w140 hw) (own_w141 hw) (own_w142 hw) (own_w143 hw) (by decide) (own_min l hw [] z n hp2 n0 (Nat.le_trans Z0 O2.1) ) e2 (g := (mkF m 24 #[.val (.ref a1), .val (.int 0), .val (.int n), .val (.int n), .val (.ref b2)] [(.int n), (.int z), (.int 0), (.ref b2), (.int 0), (.ref a1)])) rfl (by rw [hml]; rfl) (argsL := [(.int z), (.int n)]) (rest := [(.int 0), (.ref b2), (.int 0), (.ref a1)]) (lenOf own_pd24 rfl) rfl rfl (W := 4) (Nat.le_of_eq rfl) (hb hby own_d23_24) (by decide) (by decide) (by decide) (by decide)
  obtain ⟨rfl, N3, e3⟩ := hQ3
  have N3' := Fr.app N1' N3
  refine own_st st3 ?_
  show own_Go _ _ _ _ T3 (mkF m 27 #[.val (.ref a1), .val (.int 0), .val (.int n), .val (.int n), .val (.ref b2)] [(.int (if (n < z) then n else z)), (.int 0), (.ref b2), (.int 0), (.ref a1)])
  rw [if_pos hnz]
  show own_Go _ _ _ _ T3 (mkF m 27 #[.val (.ref a1), .val (.int 0), .val (.int n), .val (.int n), .val (.ref b2)] [(.int n), (.int 0), (.ref b2), (.int 0), (.ref a1)])
  obtain ⟨T4, hp4, Lc4, X4, e4, N4, K4, Vc4, st4⟩ := cpA X3 hx hZ hown (own_w144 hw) (own_w97 hw) (own_w95 hw) (own_w96 hw) e3 (Va.ext O2) Va2 (Or.inl ⟨rfl, rfl⟩) (by decide) (by decide) hn0 (own_z1 hnn) (own_z0 n) rfl (own_zl n _) N3' g_b2 (g := (mkF m 27 #[.val (.ref a1), .val (.int 0), .val (.int n), .val (.int n), .val (.ref b2)] [(.int n), (.int 0), (.ref b2), (.int 0), (.ref a1)])) rfl (by rw [hml]; rfl) rfl (hb hby own_d23_27) (by decide) (W := 0) (Nat.le_of_eq rfl) (by decide)
  have Va4 : Arv Z hp4 b2 kk2 .byte n (own_cut us n) (.int 0) := own_arvc Vc4 (own_cutl us n _)
  have O4 := own_extkl O2 K4 (allS s_b2 all0)
  refine own_st st4 ?_
  refine own_st (fun _ k => XS.aload X4.here hx rfl (hb hby own_d23_30) rfl rfl k) ?_
  exact own_retA X4 hx hret rfl hlk rfl (hb hby own_d23_32) ⟨b2, _, rfl, N4, by rw [e4]; exact O4, g_b2, s_b2, by rw [e4]; exact Va4⟩ (by decide) (by decide)
def own_cq_Q (Z : State) (a1 : Addr) (k1 : ClassId) (us : List Value) (p1 n z : Int32) (h0 : Heap) (n0 : Nat) (v : Option Value) (h : Heap) (L : List Loc) : Prop := ∃ b k, v = some (.ref b) ∧ Fr n0 L ∧ Ext h0 h ∧ n0 ≤ b ∧ h0.size ≤ b ∧ Arv Z h b k .byte n (own_cut us n) (.int 0)
set_option maxRecDepth 65536 in
set_option maxHeartbeats 40000000 in
theorem own_cq (l : Launch) {Z : State} {a0 : Array Value} (hw : own_W Z a0) (ws : List Jvm.Cond) (a1 : Addr) (k1 : ClassId) (us : List Value) (p1 n z : Int32) (h0 : Heap) (n0 : Nat) (Z0 : n0 ≤ h0.size) (hp1 : p1 = 0) (hn0 : ¬ n < 0) (hn16 : n.toNatClampNeg ≤ 16) (hnz : n < z) (hnn : n.toNatClampNeg ≤ z.toNatClampNeg) (Va : Arv Z h0 a1 k1 .byte z us (.int 0)) :
    MetFree l (⟨"java/util/Arrays", "copyOfRange", "([BII)[B"⟩ : MethodName) (head1 (Jvm.Cond.code (⟨"java/util/Arrays", "copyOfRange", "([BII)[B"⟩ : MethodName) jdk_65_method_132_code 3 (some (.array .byte)) :: ws) ({ frames := 2, cells := 1, slots := 16, locals := 34 } : Room)) (fun a U => a = #[(.ref a1), (.int p1), (.int n)] ∧ Z.Warmed39 U.vm ∧ U.heap = h0) (fun _ _ _ _ _ => True) (fun _ U o U' => ∃ v L, o = .returned v ∧ own_cq_Q Z a1 k1 us p1 n z h0 n0 v U'.heap L ∧ FrameEnd U o U' L ({ frames := 2, cells := 1, slots := 16, locals := 34 } : Room).cells ({ frames := 2, cells := 1, slots := 16, locals := 34 } : Room).slots) := by
  refine own_enter (C := ({ frames := 2, cells := 1, slots := 16, locals := 34 } : Room).cells) (S := ({ frames := 2, cells := 1, slots := 16, locals := 34 } : Room).slots) (plainFor_of_name own_pn4) ?_
  intro p e s m below meth c T0 X0 I e0
  obtain ⟨hx, hby, hml, hown, hnm, hret, hlk, hZ⟩ := I
  have N0 := Fr.nil n0
  have O0 := own_extr h0
  refine own_cast (own_ef22 m a1 p1 n) ?_
  show own_Go _ _ _ _ T0 (mkF m 0 #[.val (.ref a1), .val (.int p1), .val (.int n)] [])
  rw [hp1]
  show own_Go _ _ _ _ T0 (mkF m 0 #[.val (.ref a1), .val (.int 0), .val (.int n)] [])
  refine own_st (fun _ k => XS.iloadN X0.here hx rfl (hb hby own_d22_0) rfl k) ?_
  refine own_st (fun _ k => XS.ifNo X0.here hx rfl (hb hby own_d22_1) rfl ((if0 _ _).trans (teq (by decide : (0 : Int32) = (0 : Int32))).2) k) ?_
  refine own_st (fun _ k => XS.iloadN X0.here hx rfl (hb hby own_d22_4) rfl k) ?_
  refine own_st (fun _ k => XS.aloadN X0.here hx rfl (hb hby own_d22_5) rfl rfl k) ?_
  refine own_st (own_len X0 hx hZ e0 (Va.ext O0) (g := (mkF m 6 #[.val (.ref a1), .val (.int 0), .val (.int n)] [(.ref a1), (.int n)])) rfl rfl (hb hby own_d22_6)) ?_
  refine own_st (fun _ k => XS.icmpNo X0.here hx rfl (hb hby own_d22_7) rfl (feq (fun q => by rw [q] at hnz; exact Int32.lt_irrefl hnz : ¬ (n = z))).1 k) ?_
  refine own_st (fun _ k => XS.aloadN X0.here hx rfl (hb hby own_d22_10) rfl rfl k) ?_
  refine own_st (fun _ k => XS.iloadN X0.here hx rfl (hb hby own_d22_11) rfl k) ?_
  show own_Go _ _ _ _ T0 (mkF m 12 #[.val (.ref a1), .val (.int 0), .val (.int n)] [(.int 0), (.ref a1)])
  refine own_st (fun _ k => XS.iloadN X0.here hx rfl (hb hby own_d22_12) rfl k) ?_
  obtain ⟨v1, T1, L1, hQ1, X1, st1⟩ := own_callS X0 hx hZ (y := (⟨"java/util/Arrays", "copyOfRangeByte", "([BII)[B"⟩ : MethodName)) hown (own_w134 hw) (own_w135 hw) (own_w132 hw) (own_w136 hw) (by decide) (own_cr l hw [] a1 k1 us (0 : Int32) n z h0 n0 (Nat.le_trans Z0 O0.1) rfl hn0 hn16 hnz hnn (Va.ext O0)) e0 (g := (mkF m 13 #[.val (.ref a1), .val (.int 0), .val (.int n)] [(.int n), (.int 0), (.ref a1)])) rfl (by rw [hml]; rfl) (argsL := [(.ref a1), (.int 0), (.int n)]) (rest := []) (lenOf own_pd25 rfl) rfl rfl (W := 0) (Nat.le_of_eq rfl) (hb hby own_d22_13) (by decide) (by decide) (by decide) (by decide)
  obtain ⟨b, kb, rfl, N1, Et1, gb, sb, Vr⟩ := hQ1
  have N1' := Fr.app N0 N1
  refine own_st st1 ?_
  exact own_retA X1 hx hret rfl hlk rfl (hb hby own_d22_16) ⟨b, kb, rfl, N1', Et1, gb, sb, Vr⟩ (by decide) (by decide)
def own_sv0_Q (Z : State) (a1 bA bV : Addr) (bK : ClassId) (bU : List Value) (bC n cs : Int32) (h0 : Heap) (n0 : Nat) (v : Option Value) (h : Heap) (L : List Loc) : Prop := v = none ∧ Fr n0 L ∧ Keep h0 h [a1] ∧ ∃ nb k, Fld Z h a1 "java/lang/String" "value" "[B" (.ref nb) ∧ Fld Z h a1 "java/lang/String" "coder" "B" (.int 0) ∧ Arv Z h nb k .byte n (own_cut bU n) (.int 0)
set_option maxRecDepth 65536 in
set_option maxHeartbeats 40000000 in
theorem own_sv0 (l : Launch) {Z : State} {a0 : Array Value} (hw : own_W Z a0) (ws : List Jvm.Cond) (a1 bA bV : Addr) (bK : ClassId) (bU : List Value) (bC n cs : Int32) (h0 : Heap) (n0 : Nat) (Z0 : n0 ≤ h0.size) (g_a1 : n0 ≤ a1) (Ea : Exa Z h0 a1 "java/lang/String") (Fv : Fld Z h0 a1 "java/lang/String" "value" "[B" .null) (Fc : Fld Z h0 a1 "java/lang/String" "coder" "B" (.int 0)) (zn : Z.heap.size ≤ n0) (OZ : Ext Z.heap h0) (Scs : Sta Z Z.heap "java/lang/String" "COMPACT_STRINGS" "Z" (.int cs)) (hcs : ¬ cs = 0) (hsh : bC = n) (hn0 : ¬ n < 0) (hn16 : n.toNatClampNeg ≤ 16) (hnz : n < (16 : Int32)) (hnn : n.toNatClampNeg ≤ ((16 : Int32)).toNatClampNeg) (Eb : Exa Z h0 bA "java/lang/StringBuilder") (Fbv : Fld Z h0 bA "java/lang/AbstractStringBuilder" "value" "[B" (.ref bV)) (Fbc : Fld Z h0 bA "java/lang/AbstractStringBuilder" "coder" "B" (.int 0)) (Fbn : Fld Z h0 bA "java/lang/AbstractStringBuilder" "count" "I" (.int bC)) (Fbm : Fld Z h0 bA "java/lang/AbstractStringBuilder" "maybeLatin1" "Z" (.int 0)) (Vb : Arv Z h0 bV bK .byte (16 : Int32) bU (.int 0)) :
    MetFree l (⟨"java/lang/String", "<init>", "(Ljava/lang/AbstractStringBuilder;Ljava/lang/Void;)V"⟩ : MethodName) (head1 (Jvm.Cond.code (⟨"java/lang/String", "<init>", "(Ljava/lang/AbstractStringBuilder;Ljava/lang/Void;)V"⟩ : MethodName) jdk_42_method_150_code 5 none :: ws) ({ frames := 3, cells := 1, slots := 16, locals := 49 } : Room)) (fun a U => a = #[(.ref a1), (.ref bA), .null] ∧ Z.Warmed39 U.vm ∧ U.heap = h0) (fun _ _ _ _ _ => True) (fun _ U o U' => ∃ v L, o = .returned v ∧ own_sv0_Q Z a1 bA bV bK bU bC n cs h0 n0 v U'.heap L ∧ FrameEnd U o U' L ({ frames := 3, cells := 1, slots := 16, locals := 49 } : Room).cells ({ frames := 3, cells := 1, slots := 16, locals := 49 } : Room).slots) := by
  refine own_enter (C := ({ frames := 3, cells := 1, slots := 16, locals := 49 } : Room).cells) (S := ({ frames := 3, cells := 1, slots := 16, locals := 49 } : Room).slots) (plainFor_of_name own_pn2) ?_
  intro p e s m below meth c T0 X0 I e0
  obtain ⟨hx, hby, hml, hown, hnm, hret, hlk, hZ⟩ := I
  have N0 := Fr.nil n0
  have O0 := own_extr h0
  refine own_cast (own_ef17n m a1 bA) ?_
  show own_Go _ _ _ _ T0 (mkF m 0 #[.val (.ref a1), .val (.ref bA), .val .null, .unset, .unset] [])
  have K0 := Keep.refl h0 [a1]
  have nb1 : bA ≠ a1 := Exa.ne Eb Ea (by decide)
  have nb2 : a1 ≠ bV := Exa.neArv Ea Vb (own_w23 hw)
  refine own_st (fun _ k => XS.aloadN X0.here hx rfl (hb hby own_d17_0) rfl rfl k) ?_
  obtain ⟨T1, X1, e1, st1⟩ := initO X0 hx hZ hown (own_w111 hw) (own_w12 hw) (own_w13 hw) e0 (g := (mkF m 1 #[.val (.ref a1), .val (.ref bA), .val .null, .unset, .unset] [(.ref a1)])) rfl (by rw [hml]; rfl) rfl (hb hby own_d17_1) (by decide) (W := 0) (Nat.le_of_eq rfl) (by decide)
  refine own_st st1 ?_
  refine own_st (fun _ k => XS.aloadN X1.here hx rfl (hb hby own_d17_4) rfl rfl k) ?_
  obtain ⟨v2, T2, L2, hQ2, X2, st2⟩ := own_callV X1 hx hZ (y := (⟨"java/lang/AbstractStringBuilder", "getValue", "()[B"⟩ : MethodName)) hown (own_w112 hw) (own_w113 hw) (own_w115 hw) (own_w114 hw) (own_w39 hw) (own_w116 hw) (by decide) (own_gv l hw [] bA bV h0 n0 (Nat.le_trans Z0 K0.1) Fbv) e1 Eb (g := (mkF m 5 #[.val (.ref a1), .val (.ref bA), .val .null, .unset, .unset] [(.ref bA)])) rfl (by rw [hml]; rfl) (argsL := []) (rest := []) (lenOf own_pd26 rfl) rfl rfl (W := 0) (Nat.le_of_eq rfl) (hb hby own_d17_5) (by decide) (by decide) (by decide) (by decide)
  obtain ⟨rfl, N2, e2⟩ := hQ2
  have N2' := Fr.app N0 N2
  refine own_st st2 ?_
  refine own_st (fun _ k => XS.astoreN X2.here hx rfl (hb hby own_d17_8) rfl rfl (l' := #[.val (.ref a1), .val (.ref bA), .val .null, .val (.ref bV), .unset]) rfl k) ?_
  refine own_st (fun _ k => XS.aloadN X2.here hx rfl (hb hby own_d17_9) rfl rfl k) ?_
  obtain ⟨v3, T3, L3, hQ3, X3, st3⟩ := own_callU X2 hx hZ (owner := "java/lang/AbstractStringBuilder") (x := (⟨"java/lang/AbstractStringBuilder", "length", "()I"⟩ : MethodName)) (y := (⟨"java/lang/StringBuilder", "length", "()I"⟩ : MethodName)) hown (own_w117 hw) (own_same (y := (⟨"java/lang/AbstractStringBuilder", "length", "()I"⟩ : MethodName)) (own_w119 hw) (own_w115 hw) (own_w113 hw) rfl (by decide)) (own_w118 hw) (by decide) (own_w120 hw) (own_w121 hw) (own_w31 hw) (own_w122 hw) (own_sl l hw [] bA bC h0 n0 (Nat.le_trans Z0 K0.1) Eb Fbn) e2 Eb (g := (mkF m 10 #[.val (.ref a1), .val (.ref bA), .val .null, .val (.ref bV), .unset] [(.ref bA)])) rfl (by rw [hml]; rfl) (argsL := []) (rest := []) (lenOf own_pd16 rfl) rfl rfl (W := 0) (Nat.le_of_eq rfl) (hb hby own_d17_10) (by decide) (by decide) (by decide) (by decide)
  obtain ⟨rfl, N3, e3⟩ := hQ3
  have N3' := Fr.app N2' N3
  refine own_st st3 ?_
  refine own_st (fun _ k => XS.istore X3.here hx rfl (hb hby own_d17_13) rfl (l' := #[.val (.ref a1), .val (.ref bA), .val .null, .val (.ref bV), .val (.int bC)]) rfl k) ?_
  show own_Go _ _ _ _ T3 (mkF m 15 #[.val (.ref a1), .val (.ref bA), .val .null, .val (.ref bV), .val (.int bC)] [])
  refine own_st (fun _ k => XS.aloadN X3.here hx rfl (hb hby own_d17_15) rfl rfl k) ?_
  obtain ⟨v4, T4, L4, hQ4, X4, st4⟩ := own_callV X3 hx hZ (y := (⟨"java/lang/AbstractStringBuilder", "isLatin1", "()Z"⟩ : MethodName)) hown (own_w125 hw) (own_w126 hw) (own_w128 hw) (own_w127 hw) (own_w39 hw) (own_w129 hw) (by decide) (own_bl0 l hw [] bA cs h0 n0 (Nat.le_trans Z0 K0.1) zn OZ Scs hcs Fbc) e3 Eb (g := (mkF m 16 #[.val (.ref a1), .val (.ref bA), .val .null, .val (.ref bV), .val (.int bC)] [(.ref bA)])) rfl (by rw [hml]; rfl) (argsL := []) (rest := []) (lenOf own_pd23 rfl) rfl rfl (W := 0) (Nat.le_of_eq rfl) (hb hby own_d17_16) (by decide) (by decide) (by decide) (by decide)
  obtain ⟨rfl, N4, e4⟩ := hQ4
  have N4' := Fr.app N3' N4
  refine own_st st4 ?_
  refine own_st (fun _ k => XS.ifNo X4.here hx rfl (hb hby own_d17_19) rfl ((if0 _ _).trans (feq (by decide : ¬ ((1 : Int32) = (0 : Int32)))).1) k) ?_
  refine own_st (fun _ k => XS.aloadN X4.here hx rfl (hb hby own_d17_22) rfl rfl k) ?_
  refine own_st (fun _ k => XS.iconst X4.here hx rfl (hb hby own_d17_23) k) ?_
  obtain ⟨T5, hp5, X5, e5, W5, st5⟩ := putFN X4 hx hZ hown (own_w70 hw) Via.refl e4 Fc Ea (Or.inr ⟨(own_w26 hw), rfl, hnm⟩) (own_w23 hw) (ty := .byte) (v' := (.int 0)) (by decide) rfl (by decide) (g := (mkF m 24 #[.val (.ref a1), .val (.ref bA), .val .null, .val (.ref bV), .val (.int bC)] [(.int 0), (.ref a1)])) rfl rfl (hb hby own_d17_24)
  have K5 := Keep.wr K0 W5 (Or.inl (List.mem_of_getElem? (i := 0) rfl))
  have zz5 := own_extw OZ W5 (Nat.le_trans zn g_a1)
  have V_bV_5 := Vb.other W5 (Ne.symm nb2)
  have Ex_a1_5 := Ea.wr W5
  have Ex_bA_5 := Eb.wr W5
  have F_value_a1_5 := Fv.other W5 (Or.inr (slot_ne (Or.inr (own_w25 hw)) (Or.inr (own_w26 hw)) (by decide) (t := (.array .byte)) (t' := .byte) (by decide) (by decide)))
  have F_value_bA_5 := Fbv.other W5 (Or.inl nb1)
  have F_coder_bA_5 := Fbc.other W5 (Or.inl nb1)
  have F_count_bA_5 := Fbn.other W5 (Or.inl nb1)
  have F_maybeLatin1_bA_5 := Fbm.other W5 (Or.inl nb1)
  have F_coder_a1_5 := Fc.same W5
  have N5 := Fr.snoc X5 N4' g_a1
  refine own_st st5 ?_
  refine own_st (fun _ k => XS.aloadN X5.here hx rfl (hb hby own_d17_27) rfl rfl k) ?_
  refine own_st (fun _ k => XS.aloadN X5.here hx rfl (hb hby own_d17_28) rfl rfl k) ?_
  show own_Go _ _ _ _ T5 (mkF m 29 #[.val (.ref a1), .val (.ref bA), .val .null, .val (.ref bV), .val (.int bC)] [(.ref bV), (.ref a1)])
  refine own_st (fun _ k => XS.iconst X5.here hx rfl (hb hby own_d17_29) k) ?_
  refine own_st (fun _ k => XS.iload X5.here hx rfl (hb hby own_d17_30) rfl k) ?_
  rw [hsh]
  show own_Go _ _ _ _ T5 (mkF m 32 #[.val (.ref a1), .val (.ref bA), .val .null, .val (.ref bV), .val (.int n)] [(.int n), (.int 0), (.ref bV), (.ref a1)])
  obtain ⟨v6, T6, L6, hQ6, X6, st6⟩ := own_callS X5 hx hZ (y := (⟨"java/util/Arrays", "copyOfRange", "([BII)[B"⟩ : MethodName)) hown (own_w130 hw) (own_w131 hw) (own_w132 hw) (own_w133 hw) (by decide) (own_cq l hw [] bV bK bU (0 : Int32) n (16 : Int32) hp5 n0 (Nat.le_trans Z0 K5.1) rfl hn0 hn16 hnz hnn V_bV_5) e5 (g := (mkF m 32 #[.val (.ref a1), .val (.ref bA), .val .null, .val (.ref bV), .val (.int n)] [(.int n), (.int 0), (.ref bV), (.ref a1)])) rfl (by rw [hml]; rfl) (argsL := [(.ref bV), (.int 0), (.int n)]) (rest := [(.ref a1)]) (lenOf own_pd25 rfl) rfl rfl (W := 1) (Nat.le_of_eq rfl) (hb hby own_d17_32) (by decide) (by decide) (by decide) (by decide)
  obtain ⟨nb, kn, rfl, N6, Et6, gn, sn, Vn⟩ := hQ6
  have ne_nb : a1 ≠ nb := Nat.ne_of_lt (Nat.lt_of_lt_of_le Ex_a1_5.lt sn)
  have K6x := Keep.ext K5 Et6
  have zz6 := own_extt zz5 Et6
  have V_bV_6 := V_bV_5.ext Et6
  have Ex_a1_6 := Ex_a1_5.ext Et6
  have Ex_bA_6 := Ex_bA_5.ext Et6
  have F_value_a1_6 := F_value_a1_5.ext Et6
  have F_coder_a1_6 := F_coder_a1_5.ext Et6
  have F_value_bA_6 := F_value_bA_5.ext Et6
  have F_coder_bA_6 := F_coder_bA_5.ext Et6
  have F_count_bA_6 := F_count_bA_5.ext Et6
  have F_maybeLatin1_bA_6 := F_maybeLatin1_bA_5.ext Et6
  have N6' := Fr.app N5 N6
  refine own_st st6 ?_
  obtain ⟨T7, hp7, X7, e7, W7, st7⟩ := putF X6 hx hZ hown (host := "") (Or.inl (own_w63 hw)) Via.refl rfl F_value_a1_6 Ex_a1_6 (Or.inr ⟨(own_w25 hw), rfl, hnm⟩) (own_w23 hw) (ty := (.array .byte)) (by decide) rfl rfl (g := (mkF m 35 #[.val (.ref a1), .val (.ref bA), .val .null, .val (.ref bV), .val (.int n)] [(.ref nb), (.ref a1)])) rfl rfl (hb hby own_d17_35)
  have K7 := Keep.wr K6x W7 (Or.inl (List.mem_of_getElem? (i := 0) rfl))
  have zz7 := own_extw zz6 W7 (Nat.le_trans zn g_a1)
  have V_bV_7 := V_bV_6.other W7 (Ne.symm nb2)
  have V_nb_7 := Vn.other W7 (Ne.symm ne_nb)
  have Ex_a1_7 := Ex_a1_6.wr W7
  have Ex_bA_7 := Ex_bA_6.wr W7
  have F_coder_a1_7 := F_coder_a1_6.other W7 (Or.inr (slot_ne (Or.inr (own_w26 hw)) (Or.inr (own_w25 hw)) (by decide) (t := .byte) (t' := (.array .byte)) (by decide) (by decide)))
  have F_value_bA_7 := F_value_bA_6.other W7 (Or.inl nb1)
  have F_coder_bA_7 := F_coder_bA_6.other W7 (Or.inl nb1)
  have F_count_bA_7 := F_count_bA_6.other W7 (Or.inl nb1)
  have F_maybeLatin1_bA_7 := F_maybeLatin1_bA_6.other W7 (Or.inl nb1)
  have F_value_a1_7 := F_value_a1_6.same W7
  have N7 := Fr.snoc X7 N6' g_a1
  refine own_st st7 ?_
  refine own_st (fun _ k => XS.goto X7.here hx rfl (pc0 := 38) (pc' := 97) rfl (hb hby own_d17_38) (by decide) (by decide) k) ?_
  exact own_retV X7 hx hret hlk (hb hby own_d17_97) ⟨rfl, N7, by rw [e7]; exact K7, nb, kn, by rw [e7]; exact F_value_a1_7, by rw [e7]; exact F_coder_a1_7, by rw [e7]; exact V_nb_7⟩ (by decide) (by decide)
def own_sw0_Q (Z : State) (a1 bA bV : Addr) (bK : ClassId) (bU : List Value) (bC n cs : Int32) (h0 : Heap) (n0 : Nat) (v : Option Value) (h : Heap) (L : List Loc) : Prop := v = none ∧ Fr n0 L ∧ Keep h0 h [a1] ∧ ∃ nb k, Fld Z h a1 "java/lang/String" "value" "[B" (.ref nb) ∧ Fld Z h a1 "java/lang/String" "coder" "B" (.int 0) ∧ Arv Z h nb k .byte n (own_cut bU n) (.int 0)
set_option maxRecDepth 65536 in
set_option maxHeartbeats 40000000 in
theorem own_sw0 (l : Launch) {Z : State} {a0 : Array Value} (hw : own_W Z a0) (ws : List Jvm.Cond) (a1 bA bV : Addr) (bK : ClassId) (bU : List Value) (bC n cs : Int32) (h0 : Heap) (n0 : Nat) (Z0 : n0 ≤ h0.size) (g_a1 : n0 ≤ a1) (Ea : Exa Z h0 a1 "java/lang/String") (Fv : Fld Z h0 a1 "java/lang/String" "value" "[B" .null) (Fc : Fld Z h0 a1 "java/lang/String" "coder" "B" (.int 0)) (zn : Z.heap.size ≤ n0) (OZ : Ext Z.heap h0) (Scs : Sta Z Z.heap "java/lang/String" "COMPACT_STRINGS" "Z" (.int cs)) (hcs : ¬ cs = 0) (hsh : bC = n) (hn0 : ¬ n < 0) (hn16 : n.toNatClampNeg ≤ 16) (hnz : n < (16 : Int32)) (hnn : n.toNatClampNeg ≤ ((16 : Int32)).toNatClampNeg) (Eb : Exa Z h0 bA "java/lang/StringBuilder") (Fbv : Fld Z h0 bA "java/lang/AbstractStringBuilder" "value" "[B" (.ref bV)) (Fbc : Fld Z h0 bA "java/lang/AbstractStringBuilder" "coder" "B" (.int 0)) (Fbn : Fld Z h0 bA "java/lang/AbstractStringBuilder" "count" "I" (.int bC)) (Fbm : Fld Z h0 bA "java/lang/AbstractStringBuilder" "maybeLatin1" "Z" (.int 0)) (Vb : Arv Z h0 bV bK .byte (16 : Int32) bU (.int 0)) :
    MetFree l (⟨"java/lang/String", "<init>", "(Ljava/lang/StringBuilder;)V"⟩ : MethodName) (head1 (Jvm.Cond.code (⟨"java/lang/String", "<init>", "(Ljava/lang/StringBuilder;)V"⟩ : MethodName) jdk_42_method_53_code 2 none :: ws) ({ frames := 4, cells := 1, slots := 16, locals := 65 } : Room)) (fun a U => a = #[(.ref a1), (.ref bA)] ∧ Z.Warmed39 U.vm ∧ U.heap = h0) (fun _ _ _ _ _ => True) (fun _ U o U' => ∃ v L, o = .returned v ∧ own_sw0_Q Z a1 bA bV bK bU bC n cs h0 n0 v U'.heap L ∧ FrameEnd U o U' L ({ frames := 4, cells := 1, slots := 16, locals := 65 } : Room).cells ({ frames := 4, cells := 1, slots := 16, locals := 65 } : Room).slots) := by
  refine own_enter (C := ({ frames := 4, cells := 1, slots := 16, locals := 65 } : Room).cells) (S := ({ frames := 4, cells := 1, slots := 16, locals := 65 } : Room).slots) (plainFor_of_name own_pn2) ?_
  intro p e s m below meth c T0 X0 I e0
  obtain ⟨hx, hby, hml, hown, hnm, hret, hlk, hZ⟩ := I
  have N0 := Fr.nil n0
  have O0 := own_extr h0
  refine own_cast (own_ef16 m a1 bA) ?_
  show own_Go _ _ _ _ T0 (mkF m 0 #[.val (.ref a1), .val (.ref bA)] [])
  have nothing := trivial
  refine own_st (fun _ k => XS.aloadN X0.here hx rfl (hb hby own_d16_0) rfl rfl k) ?_
  refine own_st (fun _ k => XS.aloadN X0.here hx rfl (hb hby own_d16_1) rfl rfl k) ?_
  refine own_st (fun _ k => XS.aconstNull X0.here hx rfl (hb hby own_d16_2) k) ?_
  obtain ⟨v1, T1, L1, hQ1, X1, st1⟩ := own_callI X0 hx hZ (y := (⟨"java/lang/String", "<init>", "(Ljava/lang/AbstractStringBuilder;Ljava/lang/Void;)V"⟩ : MethodName)) rfl hown (own_w108 hw) (own_w109 hw) (own_w22 hw) (own_w110 hw) (by decide) (own_sv0 l hw [] a1 bA bV bK bU bC n cs h0 n0 (Nat.le_trans Z0 O0.1) g_a1 Ea Fv Fc zn (own_extt OZ O0) Scs hcs hsh hn0 hn16 hnz hnn (Eb.ext O0) (Fbv.ext O0) (Fbc.ext O0) (Fbn.ext O0) (Fbm.ext O0) (Vb.ext O0)) e0 (g := (mkF m 3 #[.val (.ref a1), .val (.ref bA)] [.null, (.ref bA), (.ref a1)])) rfl (by rw [hml]; rfl) (argsL := [(.ref bA), .null]) (rest := []) (lenOf own_pd27 rfl) rfl rfl (W := 0) (Nat.le_of_eq rfl) (hb hby own_d16_3) (by decide) (by decide) (by decide) (by decide)
  obtain ⟨rfl, N1, K1, nb, kn, G1, G2, Vr⟩ := hQ1
  have N1' := Fr.app N0 N1
  refine own_st st1 ?_
  exact own_retV X1 hx hret hlk (hb hby own_d16_6) ⟨rfl, N1', K1, nb, kn, G1, G2, Vr⟩ (by decide) (by decide)
def own_tos0_Q (Z : State) (bA bV : Addr) (bK : ClassId) (bU : List Value) (bC n cs : Int32) (h0 : Heap) (n0 : Nat) (v : Option Value) (h : Heap) (L : List Loc) : Prop := ∃ b bv k, v = some (.ref b) ∧ Fr n0 L ∧ Ext h0 h ∧ Exa Z h b "java/lang/String" ∧ Fld Z h b "java/lang/String" "value" "[B" (.ref bv) ∧ Fld Z h b "java/lang/String" "coder" "B" (.int 0) ∧ Arv Z h bv k .byte n (own_cut bU n) (.int 0)
set_option maxRecDepth 65536 in
set_option maxHeartbeats 40000000 in
theorem own_tos0 (l : Launch) {Z : State} {a0 : Array Value} (hw : own_W Z a0) (ws : List Jvm.Cond) (bA bV : Addr) (bK : ClassId) (bU : List Value) (bC n cs : Int32) (h0 : Heap) (n0 : Nat) (Z0 : n0 ≤ h0.size) (zn : Z.heap.size ≤ n0) (OZ : Ext Z.heap h0) (Scs : Sta Z Z.heap "java/lang/String" "COMPACT_STRINGS" "Z" (.int cs)) (hcs : ¬ cs = 0) (hsh : bC = n) (hn0 : ¬ n < 0) (hn16 : n.toNatClampNeg ≤ 16) (hnz : n < (16 : Int32)) (hnn : n.toNatClampNeg ≤ ((16 : Int32)).toNatClampNeg) (Eb : Exa Z h0 bA "java/lang/StringBuilder") (Fbv : Fld Z h0 bA "java/lang/AbstractStringBuilder" "value" "[B" (.ref bV)) (Fbc : Fld Z h0 bA "java/lang/AbstractStringBuilder" "coder" "B" (.int 0)) (Fbn : Fld Z h0 bA "java/lang/AbstractStringBuilder" "count" "I" (.int bC)) (Fbm : Fld Z h0 bA "java/lang/AbstractStringBuilder" "maybeLatin1" "Z" (.int 0)) (Vb : Arv Z h0 bV bK .byte (16 : Int32) bU (.int 0)) :
    MetFree l (⟨"java/lang/StringBuilder", "toString", "()Ljava/lang/String;"⟩ : MethodName) (head1 (Jvm.Cond.code (⟨"java/lang/StringBuilder", "toString", "()Ljava/lang/String;"⟩ : MethodName) jdk_67_method_42_code 1 (some (.object "java/lang/String")) :: ws) ({ frames := 5, cells := 2, slots := 20, locals := 79 } : Room)) (fun a U => a = #[(.ref bA)] ∧ Z.Warmed39 U.vm ∧ U.heap = h0) (fun _ _ _ _ _ => True) (fun _ U o U' => ∃ v L, o = .returned v ∧ own_tos0_Q Z bA bV bK bU bC n cs h0 n0 v U'.heap L ∧ FrameEnd U o U' L ({ frames := 5, cells := 2, slots := 20, locals := 79 } : Room).cells ({ frames := 5, cells := 2, slots := 20, locals := 79 } : Room).slots) := by
  refine own_enter (C := ({ frames := 5, cells := 2, slots := 20, locals := 79 } : Room).cells) (S := ({ frames := 5, cells := 2, slots := 20, locals := 79 } : Room).slots) (plainFor_of_name own_pn9) ?_
  intro p e s m below meth c T0 X0 I e0
  obtain ⟨hx, hby, hml, hown, hnm, hret, hlk, hZ⟩ := I
  have N0 := Fr.nil n0
  have O0 := own_extr h0
  refine own_cast (own_ef15 m bA) ?_
  show own_Go _ _ _ _ T0 (mkF m 0 #[.val (.ref bA)] [])
  obtain ⟨T1, hp1, X1, e1, Et1, A1, D1, -, st1⟩ := newO X0 hx hZ hown (own_w103 hw) (own_w23 hw) (own_w22 hw) e0 (g := (mkF m 0 #[.val (.ref bA)] [])) rfl (hb hby own_d15_0) (by decide) (by decide)
  obtain ⟨b1, g1⟩ : ∃ z, z = h0.size := ⟨_, rfl⟩
  rw [← g1] at A1 D1 st1
  have s_b1 : h0.size ≤ b1 := Nat.le_trans O0.1 (Nat.le_of_eq g1.symm)
  have g_b1 : n0 ≤ b1 := Nat.le_trans Z0 s_b1
  have O1 := own_extt O0 Et1
  have F_value_b1 : Fld Z hp1 b1 "java/lang/String" "value" "[B" .null := D1 (Or.inr (own_w25 hw)) (ty := (.array .byte)) (by decide)
  have F_coder_b1 : Fld Z hp1 b1 "java/lang/String" "coder" "B" (.int 0) := D1 (Or.inr (own_w26 hw)) (ty := .byte) (by decide)
  refine own_st st1 ?_
  refine own_st (fun _ k => XS.dup X1.here hx rfl (hb hby own_d15_3) rfl rfl k) ?_
  refine own_st (fun _ k => XS.aloadN X1.here hx rfl (hb hby own_d15_4) rfl rfl k) ?_
  obtain ⟨v2, T2, L2, hQ2, X2, st2⟩ := own_callI X1 hx hZ (y := (⟨"java/lang/String", "<init>", "(Ljava/lang/StringBuilder;)V"⟩ : MethodName)) rfl hown (own_w104 hw) (own_w105 hw) (own_w22 hw) (own_w107 hw) (by decide) (own_sw0 l hw [] b1 bA bV bK bU bC n cs hp1 n0 (Nat.le_trans Z0 O1.1) g_b1 A1 F_value_b1 F_coder_b1 zn (own_extt OZ O1) Scs hcs hsh hn0 hn16 hnz hnn (Eb.ext O1) (Fbv.ext O1) (Fbc.ext O1) (Fbn.ext O1) (Fbm.ext O1) (Vb.ext O1)) e1 (g := (mkF m 5 #[.val (.ref bA)] [(.ref bA), (.ref b1), (.ref b1)])) rfl (by rw [hml]; rfl) (argsL := [(.ref bA)]) (rest := [(.ref b1)]) (lenOf own_pd28 rfl) rfl rfl (W := 1) (Nat.le_of_eq rfl) (hb hby own_d15_5) (by decide) (by decide) (by decide) (by decide)
  obtain ⟨rfl, N2, K2, nb, kn, G1, G2, Vr⟩ := hQ2
  have O2 := own_extk O1 K2 s_b1
  have Ex_b1_2 := A1.keep K2
  have N2' := Fr.app N0 N2
  refine own_st st2 ?_
  exact own_retA X2 hx hret rfl hlk rfl (hb hby own_d15_8) ⟨b1, nb, kn, rfl, N2', O2, Ex_b1_2, G1, G2, Vr⟩ (by decide) (by decide)
def own_sv1_Q (Z : State) (a1 bA bV : Addr) (bK : ClassId) (bU : List Value) (bC n cs : Int32) (h0 : Heap) (n0 : Nat) (v : Option Value) (h : Heap) (L : List Loc) : Prop := v = none ∧ Fr n0 L ∧ Keep h0 h [a1] ∧ ∃ nb k, Fld Z h a1 "java/lang/String" "value" "[B" (.ref nb) ∧ Fld Z h a1 "java/lang/String" "coder" "B" (.int 1) ∧ Arv Z h nb k .byte n (own_cut bU n) (.int 0)
set_option maxRecDepth 65536 in
set_option maxHeartbeats 40000000 in
theorem own_sv1 (l : Launch) {Z : State} {a0 : Array Value} (hw : own_W Z a0) (ws : List Jvm.Cond) (a1 bA bV : Addr) (bK : ClassId) (bU : List Value) (bC n cs : Int32) (h0 : Heap) (n0 : Nat) (Z0 : n0 ≤ h0.size) (g_a1 : n0 ≤ a1) (Ea : Exa Z h0 a1 "java/lang/String") (Fv : Fld Z h0 a1 "java/lang/String" "value" "[B" .null) (Fc : Fld Z h0 a1 "java/lang/String" "coder" "B" (.int 0)) (zn : Z.heap.size ≤ n0) (OZ : Ext Z.heap h0) (Scs : Sta Z Z.heap "java/lang/String" "COMPACT_STRINGS" "Z" (.int cs)) (hcs : ¬ cs = 0) (hsh : (bC <<< ((1 : Int32) &&& 31)) = n) (hn0 : ¬ n < 0) (hn16 : n.toNatClampNeg ≤ 16) (hnz : n < (32 : Int32)) (hnn : n.toNatClampNeg ≤ ((32 : Int32)).toNatClampNeg) (Eb : Exa Z h0 bA "java/lang/StringBuilder") (Fbv : Fld Z h0 bA "java/lang/AbstractStringBuilder" "value" "[B" (.ref bV)) (Fbc : Fld Z h0 bA "java/lang/AbstractStringBuilder" "coder" "B" (.int 1)) (Fbn : Fld Z h0 bA "java/lang/AbstractStringBuilder" "count" "I" (.int bC)) (Fbm : Fld Z h0 bA "java/lang/AbstractStringBuilder" "maybeLatin1" "Z" (.int 0)) (Vb : Arv Z h0 bV bK .byte (32 : Int32) bU (.int 0)) :
    MetFree l (⟨"java/lang/String", "<init>", "(Ljava/lang/AbstractStringBuilder;Ljava/lang/Void;)V"⟩ : MethodName) (head1 (Jvm.Cond.code (⟨"java/lang/String", "<init>", "(Ljava/lang/AbstractStringBuilder;Ljava/lang/Void;)V"⟩ : MethodName) jdk_42_method_150_code 5 none :: ws) ({ frames := 3, cells := 1, slots := 16, locals := 49 } : Room)) (fun a U => a = #[(.ref a1), (.ref bA), .null] ∧ Z.Warmed39 U.vm ∧ U.heap = h0) (fun _ _ _ _ _ => True) (fun _ U o U' => ∃ v L, o = .returned v ∧ own_sv1_Q Z a1 bA bV bK bU bC n cs h0 n0 v U'.heap L ∧ FrameEnd U o U' L ({ frames := 3, cells := 1, slots := 16, locals := 49 } : Room).cells ({ frames := 3, cells := 1, slots := 16, locals := 49 } : Room).slots) := by
  refine own_enter (C := ({ frames := 3, cells := 1, slots := 16, locals := 49 } : Room).cells) (S := ({ frames := 3, cells := 1, slots := 16, locals := 49 } : Room).slots) (plainFor_of_name own_pn2) ?_
  intro p e s m below meth c T0 X0 I e0
  obtain ⟨hx, hby, hml, hown, hnm, hret, hlk, hZ⟩ := I
  have N0 := Fr.nil n0
  have O0 := own_extr h0
  refine own_cast (own_ef17n m a1 bA) ?_
  show own_Go _ _ _ _ T0 (mkF m 0 #[.val (.ref a1), .val (.ref bA), .val .null, .unset, .unset] [])
  have K0 := Keep.refl h0 [a1]
  have nb1 : bA ≠ a1 := Exa.ne Eb Ea (by decide)
  have nb2 : a1 ≠ bV := Exa.neArv Ea Vb (own_w23 hw)
  refine own_st (fun _ k => XS.aloadN X0.here hx rfl (hb hby own_d17_0) rfl rfl k) ?_
  obtain ⟨T1, X1, e1, st1⟩ := initO X0 hx hZ hown (own_w111 hw) (own_w12 hw) (own_w13 hw) e0 (g := (mkF m 1 #[.val (.ref a1), .val (.ref bA), .val .null, .unset, .unset] [(.ref a1)])) rfl (by rw [hml]; rfl) rfl (hb hby own_d17_1) (by decide) (W := 0) (Nat.le_of_eq rfl) (by decide)
  refine own_st st1 ?_
  refine own_st (fun _ k => XS.aloadN X1.here hx rfl (hb hby own_d17_4) rfl rfl k) ?_
  obtain ⟨v2, T2, L2, hQ2, X2, st2⟩ := own_callV X1 hx hZ (y := (⟨"java/lang/AbstractStringBuilder", "getValue", "()[B"⟩ : MethodName)) hown (own_w112 hw) (own_w113 hw) (own_w115 hw) (own_w114 hw) (own_w39 hw) (own_w116 hw) (by decide) (own_gv l hw [] bA bV h0 n0 (Nat.le_trans Z0 K0.1) Fbv) e1 Eb (g := (mkF m 5 #[.val (.ref a1), .val (.ref bA), .val .null, .unset, .unset] [(.ref bA)])) rfl (by rw [hml]; rfl) (argsL := []) (rest := []) (lenOf own_pd26 rfl) rfl rfl (W := 0) (Nat.le_of_eq rfl) (hb hby own_d17_5) (by decide) (by decide) (by decide) (by decide)
  obtain ⟨rfl, N2, e2⟩ := hQ2
  have N2' := Fr.app N0 N2
  refine own_st st2 ?_
  refine own_st (fun _ k => XS.astoreN X2.here hx rfl (hb hby own_d17_8) rfl rfl (l' := #[.val (.ref a1), .val (.ref bA), .val .null, .val (.ref bV), .unset]) rfl k) ?_
  refine own_st (fun _ k => XS.aloadN X2.here hx rfl (hb hby own_d17_9) rfl rfl k) ?_
  obtain ⟨v3, T3, L3, hQ3, X3, st3⟩ := own_callU X2 hx hZ (owner := "java/lang/AbstractStringBuilder") (x := (⟨"java/lang/AbstractStringBuilder", "length", "()I"⟩ : MethodName)) (y := (⟨"java/lang/StringBuilder", "length", "()I"⟩ : MethodName)) hown (own_w117 hw) (own_same (y := (⟨"java/lang/AbstractStringBuilder", "length", "()I"⟩ : MethodName)) (own_w119 hw) (own_w115 hw) (own_w113 hw) rfl (by decide)) (own_w118 hw) (by decide) (own_w120 hw) (own_w121 hw) (own_w31 hw) (own_w122 hw) (own_sl l hw [] bA bC h0 n0 (Nat.le_trans Z0 K0.1) Eb Fbn) e2 Eb (g := (mkF m 10 #[.val (.ref a1), .val (.ref bA), .val .null, .val (.ref bV), .unset] [(.ref bA)])) rfl (by rw [hml]; rfl) (argsL := []) (rest := []) (lenOf own_pd16 rfl) rfl rfl (W := 0) (Nat.le_of_eq rfl) (hb hby own_d17_10) (by decide) (by decide) (by decide) (by decide)
  obtain ⟨rfl, N3, e3⟩ := hQ3
  have N3' := Fr.app N2' N3
  refine own_st st3 ?_
  refine own_st (fun _ k => XS.istore X3.here hx rfl (hb hby own_d17_13) rfl (l' := #[.val (.ref a1), .val (.ref bA), .val .null, .val (.ref bV), .val (.int bC)]) rfl k) ?_
  show own_Go _ _ _ _ T3 (mkF m 15 #[.val (.ref a1), .val (.ref bA), .val .null, .val (.ref bV), .val (.int bC)] [])
  refine own_st (fun _ k => XS.aloadN X3.here hx rfl (hb hby own_d17_15) rfl rfl k) ?_
  obtain ⟨v4, T4, L4, hQ4, X4, st4⟩ := own_callV X3 hx hZ (y := (⟨"java/lang/AbstractStringBuilder", "isLatin1", "()Z"⟩ : MethodName)) hown (own_w125 hw) (own_w126 hw) (own_w128 hw) (own_w127 hw) (own_w39 hw) (own_w129 hw) (by decide) (own_bl1 l hw [] bA cs h0 n0 (Nat.le_trans Z0 K0.1) zn OZ Scs hcs Fbc) e3 Eb (g := (mkF m 16 #[.val (.ref a1), .val (.ref bA), .val .null, .val (.ref bV), .val (.int bC)] [(.ref bA)])) rfl (by rw [hml]; rfl) (argsL := []) (rest := []) (lenOf own_pd23 rfl) rfl rfl (W := 0) (Nat.le_of_eq rfl) (hb hby own_d17_16) (by decide) (by decide) (by decide) (by decide)
  obtain ⟨rfl, N4, e4⟩ := hQ4
  have N4' := Fr.app N3' N4
  refine own_st st4 ?_
  refine own_st (fun _ k => XS.ifYes X4.here hx rfl (pc0 := 19) (pc' := 41) rfl (hb hby own_d17_19) rfl ((if0 _ _).trans (teq (by decide : (0 : Int32) = (0 : Int32))).1) (by decide) (by decide) k) ?_
  obtain ⟨T5, X5, e5, st5⟩ := getS2 X4 hx hZ hown (host := "") (Or.inl (own_w69 hw)) Via.refl e4 (Scs.ext OZ) (g := (mkF m 41 #[.val (.ref a1), .val (.ref bA), .val .null, .val (.ref bV), .val (.int bC)] [])) rfl (hb hby own_d17_41)
  refine own_st st5 ?_
  refine own_st (fun _ k => XS.ifNo X5.here hx rfl (hb hby own_d17_44) rfl ((if0 _ _).trans (feq (hcs : ¬ (cs = (0 : Int32)))).1) k) ?_
  refine own_st (fun _ k => XS.aloadN X5.here hx rfl (hb hby own_d17_47) rfl rfl k) ?_
  obtain ⟨T6, X6, e6, st6⟩ := getF X5 hx hZ hown (host := "") (Or.inl (own_w258 hw)) Via.refl e5 Fbm (g := (mkF m 48 #[.val (.ref a1), .val (.ref bA), .val .null, .val (.ref bV), .val (.int bC)] [(.ref bA)])) rfl rfl (hb hby own_d17_48)
  refine own_st st6 ?_
  refine own_st (fun _ k => XS.ifYes X6.here hx rfl (pc0 := 51) (pc' := 79) rfl (hb hby own_d17_51) rfl ((if0 _ _).trans (teq (by decide : (0 : Int32) = (0 : Int32))).1) (by decide) (by decide) k) ?_
  show own_Go _ _ _ _ T6 (mkF m 79 #[.val (.ref a1), .val (.ref bA), .val .null, .val (.ref bV), .val (.int bC)] [])
  refine own_st (fun _ k => XS.aloadN X6.here hx rfl (hb hby own_d17_79) rfl rfl k) ?_
  refine own_st (fun _ k => XS.iconst X6.here hx rfl (hb hby own_d17_80) k) ?_
  obtain ⟨T7, hp7, X7, e7, W7, st7⟩ := putFN X6 hx hZ hown (own_w70 hw) Via.refl e6 Fc Ea (Or.inr ⟨(own_w26 hw), rfl, hnm⟩) (own_w23 hw) (ty := .byte) (v' := (.int 1)) (by decide) rfl (by decide) (g := (mkF m 81 #[.val (.ref a1), .val (.ref bA), .val .null, .val (.ref bV), .val (.int bC)] [(.int 1), (.ref a1)])) rfl rfl (hb hby own_d17_81)
  have K7 := Keep.wr K0 W7 (Or.inl (List.mem_of_getElem? (i := 0) rfl))
  have zz7 := own_extw OZ W7 (Nat.le_trans zn g_a1)
  have V_bV_7 := Vb.other W7 (Ne.symm nb2)
  have Ex_a1_7 := Ea.wr W7
  have Ex_bA_7 := Eb.wr W7
  have F_value_a1_7 := Fv.other W7 (Or.inr (slot_ne (Or.inr (own_w25 hw)) (Or.inr (own_w26 hw)) (by decide) (t := (.array .byte)) (t' := .byte) (by decide) (by decide)))
  have F_value_bA_7 := Fbv.other W7 (Or.inl nb1)
  have F_coder_bA_7 := Fbc.other W7 (Or.inl nb1)
  have F_count_bA_7 := Fbn.other W7 (Or.inl nb1)
  have F_maybeLatin1_bA_7 := Fbm.other W7 (Or.inl nb1)
  have F_coder_a1_7 := Fc.same W7
  have N7 := Fr.snoc X7 N4' g_a1
  refine own_st st7 ?_
  refine own_st (fun _ k => XS.aloadN X7.here hx rfl (hb hby own_d17_84) rfl rfl k) ?_
  refine own_st (fun _ k => XS.aloadN X7.here hx rfl (hb hby own_d17_85) rfl rfl k) ?_
  refine own_st (fun _ k => XS.iconst X7.here hx rfl (hb hby own_d17_86) k) ?_
  refine own_st (fun _ k => XS.iload X7.here hx rfl (hb hby own_d17_87) rfl k) ?_
  refine own_st (fun _ k => XS.iconst X7.here hx rfl (hb hby own_d17_89) k) ?_
  show own_Go _ _ _ _ T7 (mkF m 90 #[.val (.ref a1), .val (.ref bA), .val .null, .val (.ref bV), .val (.int bC)] [(.int 1), (.int bC), (.int 0), (.ref bV), (.ref a1)])
  refine own_st (fun _ k => XS.ishl X7.here hx rfl (hb hby own_d17_90) rfl k) ?_
  show own_Go _ _ _ _ T7 (mkF m 91 #[.val (.ref a1), .val (.ref bA), .val .null, .val (.ref bV), .val (.int bC)] [(.int (bC <<< ((1 : Int32) &&& 31))), (.int 0), (.ref bV), (.ref a1)])
  rw [hsh]
  obtain ⟨v8, T8, L8, hQ8, X8, st8⟩ := own_callS X7 hx hZ (y := (⟨"java/util/Arrays", "copyOfRange", "([BII)[B"⟩ : MethodName)) hown (own_w130 hw) (own_w131 hw) (own_w132 hw) (own_w133 hw) (by decide) (own_cq l hw [] bV bK bU (0 : Int32) n (32 : Int32) hp7 n0 (Nat.le_trans Z0 K7.1) rfl hn0 hn16 hnz hnn V_bV_7) e7 (g := (mkF m 91 #[.val (.ref a1), .val (.ref bA), .val .null, .val (.ref bV), .val (.int bC)] [(.int n), (.int 0), (.ref bV), (.ref a1)])) rfl (by rw [hml]; rfl) (argsL := [(.ref bV), (.int 0), (.int n)]) (rest := [(.ref a1)]) (lenOf own_pd25 rfl) rfl rfl (W := 1) (Nat.le_of_eq rfl) (hb hby own_d17_91) (by decide) (by decide) (by decide) (by decide)
  obtain ⟨nb, kn, rfl, N8, Et8, gn, sn, Vn⟩ := hQ8
  have ne_nb : a1 ≠ nb := Nat.ne_of_lt (Nat.lt_of_lt_of_le Ex_a1_7.lt sn)
  have K8x := Keep.ext K7 Et8
  have zz8 := own_extt zz7 Et8
  have V_bV_8 := V_bV_7.ext Et8
  have Ex_a1_8 := Ex_a1_7.ext Et8
  have Ex_bA_8 := Ex_bA_7.ext Et8
  have F_value_a1_8 := F_value_a1_7.ext Et8
  have F_coder_a1_8 := F_coder_a1_7.ext Et8
  have F_value_bA_8 := F_value_bA_7.ext Et8
  have F_coder_bA_8 := F_coder_bA_7.ext Et8
  have F_count_bA_8 := F_count_bA_7.ext Et8
  have F_maybeLatin1_bA_8 := F_maybeLatin1_bA_7.ext Et8
  have N8' := Fr.app N7 N8
  refine own_st st8 ?_
  obtain ⟨T9, hp9, X9, e9, W9, st9⟩ := putF X8 hx hZ hown (host := "") (Or.inl (own_w63 hw)) Via.refl rfl F_value_a1_8 Ex_a1_8 (Or.inr ⟨(own_w25 hw), rfl, hnm⟩) (own_w23 hw) (ty := (.array .byte)) (by decide) rfl rfl (g := (mkF m 94 #[.val (.ref a1), .val (.ref bA), .val .null, .val (.ref bV), .val (.int bC)] [(.ref nb), (.ref a1)])) rfl rfl (hb hby own_d17_94)
  have K9 := Keep.wr K8x W9 (Or.inl (List.mem_of_getElem? (i := 0) rfl))
  have zz9 := own_extw zz8 W9 (Nat.le_trans zn g_a1)
  have V_bV_9 := V_bV_8.other W9 (Ne.symm nb2)
  have V_nb_9 := Vn.other W9 (Ne.symm ne_nb)
  have Ex_a1_9 := Ex_a1_8.wr W9
  have Ex_bA_9 := Ex_bA_8.wr W9
  have F_coder_a1_9 := F_coder_a1_8.other W9 (Or.inr (slot_ne (Or.inr (own_w26 hw)) (Or.inr (own_w25 hw)) (by decide) (t := .byte) (t' := (.array .byte)) (by decide) (by decide)))
  have F_value_bA_9 := F_value_bA_8.other W9 (Or.inl nb1)
  have F_coder_bA_9 := F_coder_bA_8.other W9 (Or.inl nb1)
  have F_count_bA_9 := F_count_bA_8.other W9 (Or.inl nb1)
  have F_maybeLatin1_bA_9 := F_maybeLatin1_bA_8.other W9 (Or.inl nb1)
  have F_value_a1_9 := F_value_a1_8.same W9
  have N9 := Fr.snoc X9 N8' g_a1
  refine own_st st9 ?_
  exact own_retV X9 hx hret hlk (hb hby own_d17_97) ⟨rfl, N9, by rw [e9]; exact K9, nb, kn, by rw [e9]; exact F_value_a1_9, by rw [e9]; exact F_coder_a1_9, by rw [e9]; exact V_nb_9⟩ (by decide) (by decide)
def own_sw1_Q (Z : State) (a1 bA bV : Addr) (bK : ClassId) (bU : List Value) (bC n cs : Int32) (h0 : Heap) (n0 : Nat) (v : Option Value) (h : Heap) (L : List Loc) : Prop := v = none ∧ Fr n0 L ∧ Keep h0 h [a1] ∧ ∃ nb k, Fld Z h a1 "java/lang/String" "value" "[B" (.ref nb) ∧ Fld Z h a1 "java/lang/String" "coder" "B" (.int 1) ∧ Arv Z h nb k .byte n (own_cut bU n) (.int 0)
set_option maxRecDepth 65536 in
set_option maxHeartbeats 40000000 in
theorem own_sw1 (l : Launch) {Z : State} {a0 : Array Value} (hw : own_W Z a0) (ws : List Jvm.Cond) (a1 bA bV : Addr) (bK : ClassId) (bU : List Value) (bC n cs : Int32) (h0 : Heap) (n0 : Nat) (Z0 : n0 ≤ h0.size) (g_a1 : n0 ≤ a1) (Ea : Exa Z h0 a1 "java/lang/String") (Fv : Fld Z h0 a1 "java/lang/String" "value" "[B" .null) (Fc : Fld Z h0 a1 "java/lang/String" "coder" "B" (.int 0)) (zn : Z.heap.size ≤ n0) (OZ : Ext Z.heap h0) (Scs : Sta Z Z.heap "java/lang/String" "COMPACT_STRINGS" "Z" (.int cs)) (hcs : ¬ cs = 0) (hsh : (bC <<< ((1 : Int32) &&& 31)) = n) (hn0 : ¬ n < 0) (hn16 : n.toNatClampNeg ≤ 16) (hnz : n < (32 : Int32)) (hnn : n.toNatClampNeg ≤ ((32 : Int32)).toNatClampNeg) (Eb : Exa Z h0 bA "java/lang/StringBuilder") (Fbv : Fld Z h0 bA "java/lang/AbstractStringBuilder" "value" "[B" (.ref bV)) (Fbc : Fld Z h0 bA "java/lang/AbstractStringBuilder" "coder" "B" (.int 1)) (Fbn : Fld Z h0 bA "java/lang/AbstractStringBuilder" "count" "I" (.int bC)) (Fbm : Fld Z h0 bA "java/lang/AbstractStringBuilder" "maybeLatin1" "Z" (.int 0)) (Vb : Arv Z h0 bV bK .byte (32 : Int32) bU (.int 0)) :
    MetFree l (⟨"java/lang/String", "<init>", "(Ljava/lang/StringBuilder;)V"⟩ : MethodName) (head1 (Jvm.Cond.code (⟨"java/lang/String", "<init>", "(Ljava/lang/StringBuilder;)V"⟩ : MethodName) jdk_42_method_53_code 2 none :: ws) ({ frames := 4, cells := 1, slots := 16, locals := 65 } : Room)) (fun a U => a = #[(.ref a1), (.ref bA)] ∧ Z.Warmed39 U.vm ∧ U.heap = h0) (fun _ _ _ _ _ => True) (fun _ U o U' => ∃ v L, o = .returned v ∧ own_sw1_Q Z a1 bA bV bK bU bC n cs h0 n0 v U'.heap L ∧ FrameEnd U o U' L ({ frames := 4, cells := 1, slots := 16, locals := 65 } : Room).cells ({ frames := 4, cells := 1, slots := 16, locals := 65 } : Room).slots) := by
  refine own_enter (C := ({ frames := 4, cells := 1, slots := 16, locals := 65 } : Room).cells) (S := ({ frames := 4, cells := 1, slots := 16, locals := 65 } : Room).slots) (plainFor_of_name own_pn2) ?_
  intro p e s m below meth c T0 X0 I e0
  obtain ⟨hx, hby, hml, hown, hnm, hret, hlk, hZ⟩ := I
  have N0 := Fr.nil n0
  have O0 := own_extr h0
  refine own_cast (own_ef16 m a1 bA) ?_
  show own_Go _ _ _ _ T0 (mkF m 0 #[.val (.ref a1), .val (.ref bA)] [])
  have nothing := trivial
  refine own_st (fun _ k => XS.aloadN X0.here hx rfl (hb hby own_d16_0) rfl rfl k) ?_
  refine own_st (fun _ k => XS.aloadN X0.here hx rfl (hb hby own_d16_1) rfl rfl k) ?_
  refine own_st (fun _ k => XS.aconstNull X0.here hx rfl (hb hby own_d16_2) k) ?_
  obtain ⟨v1, T1, L1, hQ1, X1, st1⟩ := own_callI X0 hx hZ (y := (⟨"java/lang/String", "<init>", "(Ljava/lang/AbstractStringBuilder;Ljava/lang/Void;)V"⟩ : MethodName)) rfl hown (own_w108 hw) (own_w109 hw) (own_w22 hw) (own_w110 hw) (by decide) (own_sv1 l hw [] a1 bA bV bK bU bC n cs h0 n0 (Nat.le_trans Z0 O0.1) g_a1 Ea Fv Fc zn (own_extt OZ O0) Scs hcs hsh hn0 hn16 hnz hnn (Eb.ext O0) (Fbv.ext O0) (Fbc.ext O0) (Fbn.ext O0) (Fbm.ext O0) (Vb.ext O0)) e0 (g := (mkF m 3 #[.val (.ref a1), .val (.ref bA)] [.null, (.ref bA), (.ref a1)])) rfl (by rw [hml]; rfl) (argsL := [(.ref bA), .null]) (rest := []) (lenOf own_pd27 rfl) rfl rfl (W := 0) (Nat.le_of_eq rfl) (hb hby own_d16_3) (by decide) (by decide) (by decide) (by decide)
  obtain ⟨rfl, N1, K1, nb, kn, G1, G2, Vr⟩ := hQ1
  have N1' := Fr.app N0 N1
  refine own_st st1 ?_
  exact own_retV X1 hx hret hlk (hb hby own_d16_6) ⟨rfl, N1', K1, nb, kn, G1, G2, Vr⟩ (by decide) (by decide)
def own_tos1_Q (Z : State) (bA bV : Addr) (bK : ClassId) (bU : List Value) (bC n cs : Int32) (h0 : Heap) (n0 : Nat) (v : Option Value) (h : Heap) (L : List Loc) : Prop := ∃ b bv k, v = some (.ref b) ∧ Fr n0 L ∧ Ext h0 h ∧ Exa Z h b "java/lang/String" ∧ Fld Z h b "java/lang/String" "value" "[B" (.ref bv) ∧ Fld Z h b "java/lang/String" "coder" "B" (.int 1) ∧ Arv Z h bv k .byte n (own_cut bU n) (.int 0)
set_option maxRecDepth 65536 in
set_option maxHeartbeats 40000000 in
theorem own_tos1 (l : Launch) {Z : State} {a0 : Array Value} (hw : own_W Z a0) (ws : List Jvm.Cond) (bA bV : Addr) (bK : ClassId) (bU : List Value) (bC n cs : Int32) (h0 : Heap) (n0 : Nat) (Z0 : n0 ≤ h0.size) (zn : Z.heap.size ≤ n0) (OZ : Ext Z.heap h0) (Scs : Sta Z Z.heap "java/lang/String" "COMPACT_STRINGS" "Z" (.int cs)) (hcs : ¬ cs = 0) (hsh : (bC <<< ((1 : Int32) &&& 31)) = n) (hn0 : ¬ n < 0) (hn16 : n.toNatClampNeg ≤ 16) (hnz : n < (32 : Int32)) (hnn : n.toNatClampNeg ≤ ((32 : Int32)).toNatClampNeg) (Eb : Exa Z h0 bA "java/lang/StringBuilder") (Fbv : Fld Z h0 bA "java/lang/AbstractStringBuilder" "value" "[B" (.ref bV)) (Fbc : Fld Z h0 bA "java/lang/AbstractStringBuilder" "coder" "B" (.int 1)) (Fbn : Fld Z h0 bA "java/lang/AbstractStringBuilder" "count" "I" (.int bC)) (Fbm : Fld Z h0 bA "java/lang/AbstractStringBuilder" "maybeLatin1" "Z" (.int 0)) (Vb : Arv Z h0 bV bK .byte (32 : Int32) bU (.int 0)) :
    MetFree l (⟨"java/lang/StringBuilder", "toString", "()Ljava/lang/String;"⟩ : MethodName) (head1 (Jvm.Cond.code (⟨"java/lang/StringBuilder", "toString", "()Ljava/lang/String;"⟩ : MethodName) jdk_67_method_42_code 1 (some (.object "java/lang/String")) :: ws) ({ frames := 5, cells := 2, slots := 20, locals := 79 } : Room)) (fun a U => a = #[(.ref bA)] ∧ Z.Warmed39 U.vm ∧ U.heap = h0) (fun _ _ _ _ _ => True) (fun _ U o U' => ∃ v L, o = .returned v ∧ own_tos1_Q Z bA bV bK bU bC n cs h0 n0 v U'.heap L ∧ FrameEnd U o U' L ({ frames := 5, cells := 2, slots := 20, locals := 79 } : Room).cells ({ frames := 5, cells := 2, slots := 20, locals := 79 } : Room).slots) := by
  refine own_enter (C := ({ frames := 5, cells := 2, slots := 20, locals := 79 } : Room).cells) (S := ({ frames := 5, cells := 2, slots := 20, locals := 79 } : Room).slots) (plainFor_of_name own_pn9) ?_
  intro p e s m below meth c T0 X0 I e0
  obtain ⟨hx, hby, hml, hown, hnm, hret, hlk, hZ⟩ := I
  have N0 := Fr.nil n0
  have O0 := own_extr h0
  refine own_cast (own_ef15 m bA) ?_
  show own_Go _ _ _ _ T0 (mkF m 0 #[.val (.ref bA)] [])
  obtain ⟨T1, hp1, X1, e1, Et1, A1, D1, -, st1⟩ := newO X0 hx hZ hown (own_w103 hw) (own_w23 hw) (own_w22 hw) e0 (g := (mkF m 0 #[.val (.ref bA)] [])) rfl (hb hby own_d15_0) (by decide) (by decide)
  obtain ⟨b1, g1⟩ : ∃ z, z = h0.size := ⟨_, rfl⟩
  rw [← g1] at A1 D1 st1
  have s_b1 : h0.size ≤ b1 := Nat.le_trans O0.1 (Nat.le_of_eq g1.symm)
  have g_b1 : n0 ≤ b1 := Nat.le_trans Z0 s_b1
  have O1 := own_extt O0 Et1
  have F_value_b1 : Fld Z hp1 b1 "java/lang/String" "value" "[B" .null := D1 (Or.inr (own_w25 hw)) (ty := (.array .byte)) (by decide)
  have F_coder_b1 : Fld Z hp1 b1 "java/lang/String" "coder" "B" (.int 0) := D1 (Or.inr (own_w26 hw)) (ty := .byte) (by decide)
  refine own_st st1 ?_
  refine own_st (fun _ k => XS.dup X1.here hx rfl (hb hby own_d15_3) rfl rfl k) ?_
  refine own_st (fun _ k => XS.aloadN X1.here hx rfl (hb hby own_d15_4) rfl rfl k) ?_
  obtain ⟨v2, T2, L2, hQ2, X2, st2⟩ := own_callI X1 hx hZ (y := (⟨"java/lang/String", "<init>", "(Ljava/lang/StringBuilder;)V"⟩ : MethodName)) rfl hown (own_w104 hw) (own_w105 hw) (own_w22 hw) (own_w107 hw) (by decide) (own_sw1 l hw [] b1 bA bV bK bU bC n cs hp1 n0 (Nat.le_trans Z0 O1.1) g_b1 A1 F_value_b1 F_coder_b1 zn (own_extt OZ O1) Scs hcs hsh hn0 hn16 hnz hnn (Eb.ext O1) (Fbv.ext O1) (Fbc.ext O1) (Fbn.ext O1) (Fbm.ext O1) (Vb.ext O1)) e1 (g := (mkF m 5 #[.val (.ref bA)] [(.ref bA), (.ref b1), (.ref b1)])) rfl (by rw [hml]; rfl) (argsL := [(.ref bA)]) (rest := [(.ref b1)]) (lenOf own_pd28 rfl) rfl rfl (W := 1) (Nat.le_of_eq rfl) (hb hby own_d15_5) (by decide) (by decide) (by decide) (by decide)
  obtain ⟨rfl, N2, K2, nb, kn, G1, G2, Vr⟩ := hQ2
  have O2 := own_extk O1 K2 s_b1
  have Ex_b1_2 := A1.keep K2
  have N2' := Fr.app N0 N2
  refine own_st st2 ?_
  exact own_retA X2 hx hret rfl hlk rfl (hb hby own_d15_8) ⟨b1, nb, kn, rfl, N2', O2, Ex_b1_2, G1, G2, Vr⟩ (by decide) (by decide)
theorem own_allI (xs : List Int32) (j : Nat) : ∃ x, (xs.map Value.int).getD j (.int 0) = .int x := by
  rw [List.getD_eq_getElem?_getD, List.getElem?_map]
  cases xs[j]? with
  | none => exact ⟨0, rfl⟩
  | some y => exact ⟨y, rfl⟩
theorem own_z00 : (0 : Int32).toInt = 0 := by decide
theorem own_ge0 {x : Int32} (h : 0 ≤ x.toInt) : ¬ x < 0 := fun q => by
  have := Int32.lt_iff_toInt_lt.mp q
  have z : (0 : Int32).toInt = 0 := by decide
  omega
theorem own_inc {i z : Int32} (h : i.toInt < z.toInt) : (i + (1 : Int32)).toInt = i.toInt + 1 := by
  have q := c_iadd i 1
  have r1 := rng32 i
  have r2 := rng32 z
  have r3 := rng32 (i + 1)
  have z1 : (1 : Int32).toInt = 1 := by decide
  omega
def own_le_Q (Z : State) (a1 a2 : Addr) (k1 k2 : ClassId) (us : List Value) (z : Int32) (h0 : Heap) (n0 : Nat) (v : Option Value) (h : Heap) (L : List Loc) : Prop := v = some (.int 1) ∧ Fr n0 L ∧ h = h0
set_option maxRecDepth 65536 in
set_option maxHeartbeats 40000000 in
theorem own_le (l : Launch) {Z : State} {a0 : Array Value} (hw : own_W Z a0) (ws : List Jvm.Cond) (a1 a2 : Addr) (k1 k2 : ClassId) (us : List Value) (z : Int32) (h0 : Heap) (n0 : Nat) (Z0 : n0 ≤ h0.size) (hz : 0 ≤ z.toInt) (hI : ∀ j : Nat, ∃ x, us.getD j (.int 0) = .int x) (Va : Arv Z h0 a1 k1 .byte z us (.int 0)) (Vb : Arv Z h0 a2 k2 .byte z us (.int 0)) :
    MetFree l (⟨"java/lang/StringLatin1", "equals", "([B[B)Z"⟩ : MethodName) (head1 (Jvm.Cond.code (⟨"java/lang/StringLatin1", "equals", "([B[B)Z"⟩ : MethodName) jdk_43_method_13_code 3 (some .boolean) :: ws) ({ frames := 0, cells := 0, slots := 0, locals := 0 } : Room)) (fun a U => a = #[(.ref a1), (.ref a2)] ∧ Z.Warmed39 U.vm ∧ U.heap = h0) (fun _ _ _ _ _ => True) (fun _ U o U' => ∃ v L, o = .returned v ∧ own_le_Q Z a1 a2 k1 k2 us z h0 n0 v U'.heap L ∧ FrameEnd U o U' L ({ frames := 0, cells := 0, slots := 0, locals := 0 } : Room).cells ({ frames := 0, cells := 0, slots := 0, locals := 0 } : Room).slots) := by
  refine own_enter (C := ({ frames := 0, cells := 0, slots := 0, locals := 0 } : Room).cells) (S := ({ frames := 0, cells := 0, slots := 0, locals := 0 } : Room).slots) (plainFor_of_name own_pn7) ?_
  intro p e s m below meth c T0 X0 I e0
  obtain ⟨hx, hby, hml, hown, hnm, hret, hlk, hZ⟩ := I
  have N0 := Fr.nil n0
  have O0 := own_extr h0
  refine own_cast (own_ef27 m a1 a2) ?_
  show own_Go _ _ _ _ T0 (mkF m 0 #[.val (.ref a1), .val (.ref a2), .unset] [])
  have lp : ∀ (k : Nat) (i : Int32) (hk : i.toInt + k = z.toInt) (hi0 : 0 ≤ i.toInt), own_Go p.tables e below (own_F below s (own_le_Q Z a1 a2 k1 k2 us z h0 n0) ({ frames := 0, cells := 0, slots := 0, locals := 0 } : Room).cells ({ frames := 0, cells := 0, slots := 0, locals := 0 } : Room).slots) T0 (mkF m 9 #[.val (.ref a1), .val (.ref a2), .val (.int i)] []) := by
    intro k i hk hi0
    induction k generalizing i with
    | zero =>
      show own_Go _ _ _ _ T0 (mkF m 9 #[.val (.ref a1), .val (.ref a2), .val (.int i)] [])
      refine own_st (fun _ k => XS.iloadN X0.here hx rfl (hb hby own_d27_9) rfl k) ?_
      refine own_st (fun _ k => XS.aloadN X0.here hx rfl (hb hby own_d27_10) rfl rfl k) ?_
      refine own_st (own_len X0 hx hZ e0 (Va.ext O0) (g := (mkF m 11 #[.val (.ref a1), .val (.ref a2), .val (.int i)] [(.ref a1), (.int i)])) rfl rfl (hb hby own_d27_11)) ?_
      refine own_st (fun _ k => XS.icmpYes X0.here hx rfl (pc0 := 12) (pc' := 32) rfl (hb hby own_d27_12) rfl (flt (fun q => by have := Int32.lt_iff_toInt_lt.mp q; omega : ¬ (i < z))).2.1 (by decide) (by decide) k) ?_
      refine own_st (fun _ k => XS.iconst X0.here hx rfl (hb hby own_d27_32) k) ?_
      exact own_retN X0 hx hret (by simp) hlk (hb hby own_d27_33) ⟨rfl, N0, e0⟩ (by decide) (by decide)
    | succ k ih =>
      have hlz : i.toInt < z.toInt := by omega
      have hj : ¬ i < 0 ∧ i < z := ⟨own_ge0 hi0, Int32.lt_iff_toInt_lt.mpr hlz⟩
      obtain ⟨x, hxv⟩ := hI i.toNatClampNeg
      have hin := own_inc hlz
      show own_Go _ _ _ _ T0 (mkF m 9 #[.val (.ref a1), .val (.ref a2), .val (.int i)] [])
      refine own_st (fun _ k => XS.iloadN X0.here hx rfl (hb hby own_d27_9) rfl k) ?_
      refine own_st (fun _ k => XS.aloadN X0.here hx rfl (hb hby own_d27_10) rfl rfl k) ?_
      refine own_st (own_len X0 hx hZ e0 (Va.ext O0) (g := (mkF m 11 #[.val (.ref a1), .val (.ref a2), .val (.int i)] [(.ref a1), (.int i)])) rfl rfl (hb hby own_d27_11)) ?_
      refine own_st (fun _ k => XS.icmpNo X0.here hx rfl (hb hby own_d27_12) rfl (tlt (hj.2 : i < z)).2.1 k) ?_
      refine own_st (fun _ k => XS.aloadN X0.here hx rfl (hb hby own_d27_15) rfl rfl k) ?_
      refine own_st (fun _ k => XS.iloadN X0.here hx rfl (hb hby own_d27_16) rfl k) ?_
      refine own_st (own_ldB X0 hx hZ e0 (Va.ext O0) (j := i) hj (v := (.int x)) hxv (g := (mkF m 17 #[.val (.ref a1), .val (.ref a2), .val (.int i)] [(.int i), (.ref a1)])) rfl rfl (hb hby own_d27_17)) ?_
      refine own_st (fun _ k => XS.aloadN X0.here hx rfl (hb hby own_d27_18) rfl rfl k) ?_
      show own_Go _ _ _ _ T0 (mkF m 19 #[.val (.ref a1), .val (.ref a2), .val (.int i)] [(.ref a2), (.int x)])
      refine own_st (fun _ k => XS.iloadN X0.here hx rfl (hb hby own_d27_19) rfl k) ?_
      refine own_st (own_ldB X0 hx hZ e0 (Vb.ext O0) (j := i) hj (v := (.int x)) hxv (g := (mkF m 20 #[.val (.ref a1), .val (.ref a2), .val (.int i)] [(.int i), (.ref a2), (.int x)])) rfl rfl (hb hby own_d27_20)) ?_
      refine own_st (fun _ k => XS.icmpYes X0.here hx rfl (pc0 := 21) (pc' := 26) rfl (hb hby own_d27_21) rfl (teq (rfl : x = x)).1 (by decide) (by decide) k) ?_
      refine own_st (fun _ k => XS.iinc X0.here hx rfl (hb hby own_d27_26) rfl (l' := #[.val (.ref a1), .val (.ref a2), .val (.int (i + (1 : Int32)))]) rfl k) ?_
      refine own_st (fun _ k => XS.goto X0.here hx rfl (pc0 := 29) (pc' := 9) rfl (hb hby own_d27_29) (by decide) (by decide) k) ?_
      show own_Go _ _ _ _ T0 (mkF m 9 #[.val (.ref a1), .val (.ref a2), .val (.int (i + (1 : Int32)))] [])
      exact ih _ (by omega) (by omega)
  refine own_st (fun _ k => XS.aloadN X0.here hx rfl (hb hby own_d27_0) rfl rfl k) ?_
  refine own_st (own_len X0 hx hZ e0 (Va.ext O0) (g := (mkF m 1 #[.val (.ref a1), .val (.ref a2), .unset] [(.ref a1)])) rfl rfl (hb hby own_d27_1)) ?_
  refine own_st (fun _ k => XS.aloadN X0.here hx rfl (hb hby own_d27_2) rfl rfl k) ?_
  refine own_st (own_len X0 hx hZ e0 (Vb.ext O0) (g := (mkF m 3 #[.val (.ref a1), .val (.ref a2), .unset] [(.ref a2), (.int z)])) rfl rfl (hb hby own_d27_3)) ?_
  refine own_st (fun _ k => XS.icmpNo X0.here hx rfl (hb hby own_d27_4) rfl (teq (rfl : z = z)).2 k) ?_
  refine own_st (fun _ k => XS.iconst X0.here hx rfl (hb hby own_d27_7) k) ?_
  refine own_st (fun _ k => XS.istoreN X0.here hx rfl (hb hby own_d27_8) rfl (l' := #[.val (.ref a1), .val (.ref a2), .val (.int 0)]) rfl k) ?_
  show own_Go _ _ _ _ T0 (mkF m 9 #[.val (.ref a1), .val (.ref a2), .val (.int 0)] [])
  exact lp z.toInt.toNat _ (by rw [own_z00]; omega) (by decide)
def own_eq_Q (Z : State) (sA sV : Addr) (sK : ClassId) (sU : List Value) (tA tV : Addr) (tK : ClassId) (cs sZ : Int32) (h0 : Heap) (n0 : Nat) (v : Option Value) (h : Heap) (L : List Loc) : Prop := v = some (.int 1) ∧ Fr n0 L ∧ h = h0
set_option maxRecDepth 65536 in
set_option maxHeartbeats 40000000 in
theorem own_eq (l : Launch) {Z : State} {a0 : Array Value} (hw : own_W Z a0) (ws : List Jvm.Cond) (sA sV : Addr) (sK : ClassId) (sU : List Value) (tA tV : Addr) (tK : ClassId) (cs sZ : Int32) (h0 : Heap) (n0 : Nat) (Z0 : n0 ≤ h0.size) (zn : Z.heap.size ≤ n0) (OZ : Ext Z.heap h0) (Scs : Sta Z Z.heap "java/lang/String" "COMPACT_STRINGS" "Z" (.int cs)) (hcs : ¬ cs = 0) (hz : 0 ≤ sZ.toInt) (hI : ∀ j : Nat, ∃ x, sU.getD j (.int 0) = .int x) (Es : Exa Z h0 sA "java/lang/String") (Fsv : Fld Z h0 sA "java/lang/String" "value" "[B" (.ref sV)) (Fsc : Fld Z h0 sA "java/lang/String" "coder" "B" (.int 0)) (Vs : Arv Z h0 sV sK .byte sZ sU (.int 0)) (Et : Exa Z h0 tA "java/lang/String") (Ftv : Fld Z h0 tA "java/lang/String" "value" "[B" (.ref tV)) (Ftc : Fld Z h0 tA "java/lang/String" "coder" "B" (.int 0)) (Vt : Arv Z h0 tV tK .byte sZ sU (.int 0)) :
    MetFree l (⟨"java/lang/String", "equals", "(Ljava/lang/Object;)Z"⟩ : MethodName) (head1 (Jvm.Cond.code (⟨"java/lang/String", "equals", "(Ljava/lang/Object;)Z"⟩ : MethodName) jdk_42_method_66_code 3 (some .boolean) :: ws) ({ frames := 1, cells := 0, slots := 0, locals := 14 } : Room)) (fun a U => a = #[(.ref sA), (.ref tA)] ∧ Z.Warmed39 U.vm ∧ U.heap = h0) (fun _ _ _ _ _ => True) (fun _ U o U' => ∃ v L, o = .returned v ∧ own_eq_Q Z sA sV sK sU tA tV tK cs sZ h0 n0 v U'.heap L ∧ FrameEnd U o U' L ({ frames := 1, cells := 0, slots := 0, locals := 14 } : Room).cells ({ frames := 1, cells := 0, slots := 0, locals := 14 } : Room).slots) := by
  refine own_enter (C := ({ frames := 1, cells := 0, slots := 0, locals := 14 } : Room).cells) (S := ({ frames := 1, cells := 0, slots := 0, locals := 14 } : Room).slots) (plainFor_of_name own_pn2) ?_
  intro p e s m below meth c T0 X0 I e0
  obtain ⟨hx, hby, hml, hown, hnm, hret, hlk, hZ⟩ := I
  have N0 := Fr.nil n0
  have O0 := own_extr h0
  refine own_cast (own_ef26 m sA tA) ?_
  show own_Go _ _ _ _ T0 (mkF m 0 #[.val (.ref sA), .val (.ref tA), .unset] [])
  refine own_st (fun _ k => XS.aloadN X0.here hx rfl (hb hby own_d26_0) rfl rfl k) ?_
  refine own_st (fun _ k => XS.aloadN X0.here hx rfl (hb hby own_d26_1) rfl rfl k) ?_
  by_cases hsame : sA = tA
  · refine own_st (fun _ k => Jvm.RoadKit.acmp (g := (mkF m 2 #[.val (.ref sA), .val (.ref tA), .unset] [(.ref tA), (.ref sA)])) X0 hx rfl rfl rfl (pc0 := 2) (pc' := 5) (same := true) rfl (hb hby own_d26_2) rfl (decide_eq_true (congrArg Value.ref hsame)) (by decide) (by decide) k) ?_
    refine own_st (fun _ k => XS.iconst X0.here hx rfl (hb hby own_d26_5) k) ?_
    exact own_retN X0 hx hret (by simp) hlk (hb hby own_d26_6) ⟨rfl, N0, e0⟩ (by decide) (by decide)
  · refine own_st (fun _ k => Jvm.RoadKit.acmp (g := (mkF m 2 #[.val (.ref sA), .val (.ref tA), .unset] [(.ref tA), (.ref sA)])) X0 hx rfl rfl rfl (pc0 := 2) (pc' := 7) (same := false) rfl (hb hby own_d26_2) rfl (decide_eq_false fun q => hsame (Value.ref.inj q)) (by decide) (by decide) k) ?_
    refine own_st (fun _ k => XS.aloadN X0.here hx rfl (hb hby own_d26_7) rfl rfl k) ?_
    obtain ⟨T1, X1, e1, st1⟩ := instY X0 hx hZ hown (own_w151 hw) e0 (Ins.self (Et.ext O0)) (g := (mkF m 8 #[.val (.ref sA), .val (.ref tA), .unset] [(.ref tA)])) rfl rfl (hb hby own_d26_8)
    refine own_st st1 ?_
    refine own_st (fun _ k => XS.ifNo X1.here hx rfl (hb hby own_d26_11) rfl ((if0 _ _).trans (feq (by decide : ¬ ((1 : Int32) = (0 : Int32)))).1) k) ?_
    refine own_st (fun _ k => XS.aloadN X1.here hx rfl (hb hby own_d26_14) rfl rfl k) ?_
    obtain ⟨T2, X2, e2, st2⟩ := castY X1 hx hZ hown (own_w151 hw) e1 (Ins.self (Et.ext O0)) (g := (mkF m 15 #[.val (.ref sA), .val (.ref tA), .unset] [(.ref tA)])) rfl rfl (hb hby own_d26_15)
    refine own_st st2 ?_
    show own_Go _ _ _ _ T2 (mkF m 18 #[.val (.ref sA), .val (.ref tA), .unset] [(.ref tA)])
    refine own_st (fun _ k => XS.astoreN X2.here hx rfl (hb hby own_d26_18) rfl rfl (l' := #[.val (.ref sA), .val (.ref tA), .val (.ref tA)]) rfl k) ?_
    obtain ⟨T3, X3, e3, st3⟩ := getS2 X2 hx hZ hown (host := "") (Or.inl (own_w69 hw)) Via.refl e2 (Scs.ext (own_extt OZ O0)) (g := (mkF m 19 #[.val (.ref sA), .val (.ref tA), .val (.ref tA)] [])) rfl (hb hby own_d26_19)
    refine own_st st3 ?_
    refine own_st (fun _ k => XS.ifNo X3.here hx rfl (hb hby own_d26_22) rfl ((if0 _ _).trans (feq (hcs : ¬ (cs = (0 : Int32)))).1) k) ?_
    refine own_st (fun _ k => XS.aloadN X3.here hx rfl (hb hby own_d26_25) rfl rfl k) ?_
    obtain ⟨T4, X4, e4, st4⟩ := getF X3 hx hZ hown (host := "") (Or.inl (own_w70 hw)) Via.refl e3 (Fsc.ext O0) (g := (mkF m 26 #[.val (.ref sA), .val (.ref tA), .val (.ref tA)] [(.ref sA)])) rfl rfl (hb hby own_d26_26)
    refine own_st st4 ?_
    refine own_st (fun _ k => XS.aloadN X4.here hx rfl (hb hby own_d26_29) rfl rfl k) ?_
    obtain ⟨T5, X5, e5, st5⟩ := getF X4 hx hZ hown (host := "") (Or.inl (own_w70 hw)) Via.refl e4 (Ftc.ext O0) (g := (mkF m 30 #[.val (.ref sA), .val (.ref tA), .val (.ref tA)] [(.ref tA), (.int 0)])) rfl rfl (hb hby own_d26_30)
    refine own_st st5 ?_
    refine own_st (fun _ k => XS.icmpNo X5.here hx rfl (hb hby own_d26_33) rfl (teq (by decide : (0 : Int32) = (0 : Int32))).2 k) ?_
    show own_Go _ _ _ _ T5 (mkF m 36 #[.val (.ref sA), .val (.ref tA), .val (.ref tA)] [])
    refine own_st (fun _ k => XS.aloadN X5.here hx rfl (hb hby own_d26_36) rfl rfl k) ?_
    obtain ⟨T6, X6, e6, st6⟩ := getF X5 hx hZ hown (host := "") (Or.inl (own_w63 hw)) Via.refl e5 (Fsv.ext O0) (g := (mkF m 37 #[.val (.ref sA), .val (.ref tA), .val (.ref tA)] [(.ref sA)])) rfl rfl (hb hby own_d26_37)
    refine own_st st6 ?_
    refine own_st (fun _ k => XS.aloadN X6.here hx rfl (hb hby own_d26_40) rfl rfl k) ?_
    obtain ⟨T7, X7, e7, st7⟩ := getF X6 hx hZ hown (host := "") (Or.inl (own_w63 hw)) Via.refl e6 (Ftv.ext O0) (g := (mkF m 41 #[.val (.ref sA), .val (.ref tA), .val (.ref tA)] [(.ref tA), (.ref sV)])) rfl rfl (hb hby own_d26_41)
    refine own_st st7 ?_
    obtain ⟨v8, T8, L8, hQ8, X8, st8⟩ := own_callS X7 hx hZ (y := (⟨"java/lang/StringLatin1", "equals", "([B[B)Z"⟩ : MethodName)) hown (own_w152 hw) (own_w153 hw) (own_w154 hw) (own_w155 hw) (by decide) (own_le l hw [] sV tV sK tK sU sZ h0 n0 (Nat.le_trans Z0 O0.1) hz hI (Vs.ext O0) (Vt.ext O0)) e7 (g := (mkF m 44 #[.val (.ref sA), .val (.ref tA), .val (.ref tA)] [(.ref tV), (.ref sV)])) rfl (by rw [hml]; rfl) (argsL := [(.ref sV), (.ref tV)]) (rest := []) (lenOf own_pd29 rfl) rfl rfl (W := 0) (Nat.le_of_eq rfl) (hb hby own_d26_44) (by decide) (by decide) (by decide) (by decide)
    obtain ⟨rfl, N8, e8⟩ := hQ8
    have N8' := Fr.app N0 N8
    refine own_st st8 ?_
    refine own_st (fun _ k => XS.ifNo X8.here hx rfl (hb hby own_d26_47) rfl ((if0 _ _).trans (feq (by decide : ¬ ((1 : Int32) = (0 : Int32)))).1) k) ?_
    refine own_st (fun _ k => XS.iconst X8.here hx rfl (hb hby own_d26_50) k) ?_
    refine own_st (fun _ k => XS.goto X8.here hx rfl (pc0 := 51) (pc' := 55) rfl (hb hby own_d26_51) (by decide) (by decide) k) ?_
    show own_Go _ _ _ _ T8 (mkF m 55 #[.val (.ref sA), .val (.ref tA), .val (.ref tA)] [(.int 1)])
    exact own_retN X8 hx hret (by simp) hlk (hb hby own_d26_55) ⟨rfl, N8', e8⟩ (by decide) (by decide)
def own_lc_Q (Z : State) (a1 : Addr) (k1 : ClassId) (us : List Value) (i z x : Int32) (fm : Value) (h0 : Heap) (n0 : Nat) (v : Option Value) (h : Heap) (L : List Loc) : Prop := v = some (.int (nar .char ((x &&& (255 : Int32)).toUInt32.toUInt16.toUInt32.toInt32))) ∧ Fr n0 L ∧ h = h0
set_option maxRecDepth 65536 in
set_option maxHeartbeats 40000000 in
theorem own_lc (l : Launch) {Z : State} {a0 : Array Value} (hw : own_W Z a0) (ws : List Jvm.Cond) (a1 : Addr) (k1 : ClassId) (us : List Value) (i z x : Int32) (fm : Value) (h0 : Heap) (n0 : Nat) (Z0 : n0 ≤ h0.size) (zn : Z.heap.size ≤ n0) (OZ : Ext Z.heap h0) (Sfm : Sta Z Z.heap "jdk/internal/util/Preconditions" "SIOOBE_FORMATTER" "Ljava/util/function/BiFunction;" fm) (hfm : fm.isRef = true) (hi0 : ¬ i < 0) (hi1 : i < z) (hv : us.getD i.toNatClampNeg (.int 0) = .int x) (Va : Arv Z h0 a1 k1 .byte z us (.int 0)) :
    MetFree l (⟨"java/lang/StringLatin1", "charAt", "([BI)C"⟩ : MethodName) (head1 (Jvm.Cond.code (⟨"java/lang/StringLatin1", "charAt", "([BI)C"⟩ : MethodName) jdk_43_method_2_code 2 (some .char) :: ws) ({ frames := 2, cells := 0, slots := 0, locals := 27 } : Room)) (fun a U => a = #[(.ref a1), (.int i)] ∧ Z.Warmed39 U.vm ∧ U.heap = h0) (fun _ _ _ _ _ => True) (fun _ U o U' => ∃ v L, o = .returned v ∧ own_lc_Q Z a1 k1 us i z x fm h0 n0 v U'.heap L ∧ FrameEnd U o U' L ({ frames := 2, cells := 0, slots := 0, locals := 27 } : Room).cells ({ frames := 2, cells := 0, slots := 0, locals := 27 } : Room).slots) := by
  refine own_enter (C := ({ frames := 2, cells := 0, slots := 0, locals := 27 } : Room).cells) (S := ({ frames := 2, cells := 0, slots := 0, locals := 27 } : Room).slots) (plainFor_of_name own_pn7) ?_
  intro p e s m below meth c T0 X0 I e0
  obtain ⟨hx, hby, hml, hown, hnm, hret, hlk, hZ⟩ := I
  have N0 := Fr.nil n0
  have O0 := own_extr h0
  refine own_cast (own_ef35 m a1 i) ?_
  show own_Go _ _ _ _ T0 (mkF m 0 #[.val (.ref a1), .val (.int i)] [])
  refine own_st (fun _ k => XS.iloadN X0.here hx rfl (hb hby own_d35_0) rfl k) ?_
  refine own_st (fun _ k => XS.aloadN X0.here hx rfl (hb hby own_d35_1) rfl rfl k) ?_
  refine own_st (own_len X0 hx hZ e0 (Va.ext O0) (g := (mkF m 2 #[.val (.ref a1), .val (.int i)] [(.ref a1), (.int i)])) rfl rfl (hb hby own_d35_2)) ?_
  obtain ⟨v1, T1, L1, hQ1, X1, st1⟩ := own_callS X0 hx hZ (y := (⟨"java/lang/String", "checkIndex", "(II)V"⟩ : MethodName)) hown (own_w189 hw) (own_w190 hw) (own_w22 hw) (own_w191 hw) (by decide) (own_sk l hw [] i z fm h0 n0 (Nat.le_trans Z0 O0.1) zn (own_extt OZ O0) Sfm hfm hi0 hi1) e0 (g := (mkF m 3 #[.val (.ref a1), .val (.int i)] [(.int z), (.int i)])) rfl (by rw [hml]; rfl) (argsL := [(.int i), (.int z)]) (rest := []) (lenOf own_pd5 rfl) rfl rfl (W := 0) (Nat.le_of_eq rfl) (hb hby own_d35_3) (by decide) (by decide) (by decide) (by decide)
  obtain ⟨rfl, N1, e1⟩ := hQ1
  have N1' := Fr.app N0 N1
  refine own_st st1 ?_
  refine own_st (fun _ k => XS.aloadN X1.here hx rfl (hb hby own_d35_6) rfl rfl k) ?_
  refine own_st (fun _ k => XS.iloadN X1.here hx rfl (hb hby own_d35_7) rfl k) ?_
  refine own_st (own_ldB X1 hx hZ e1 (Va.ext O0) (j := i) ⟨hi0, hi1⟩ (v := (.int x)) hv (g := (mkF m 8 #[.val (.ref a1), .val (.int i)] [(.int i), (.ref a1)])) rfl rfl (hb hby own_d35_8)) ?_
  refine own_st (fun _ k => XS.sipush X1.here hx rfl (hb hby own_d35_9) k) ?_
  show own_Go _ _ _ _ T1 (mkF m 12 #[.val (.ref a1), .val (.int i)] [(.int 255), (.int x)])
  refine own_st (fun _ k => XS.iand X1.here hx rfl (hb hby own_d35_12) rfl k) ?_
  refine own_st (fun _ k => XS.i2c X1.here hx rfl (hb hby own_d35_13) rfl k) ?_
  exact own_retN X1 hx hret (by simp) hlk (hb hby own_d35_14) ⟨rfl, N1', e1⟩ (by decide) (by decide)
def own_cl_Q (Z : State) (sA sV : Addr) (sK : ClassId) (sU : List Value) (i sZ x cs : Int32) (fm : Value) (h0 : Heap) (n0 : Nat) (v : Option Value) (h : Heap) (L : List Loc) : Prop := v = some (.int (own_c1 x)) ∧ Fr n0 L ∧ h = h0
set_option maxRecDepth 65536 in
set_option maxHeartbeats 40000000 in
theorem own_cl (l : Launch) {Z : State} {a0 : Array Value} (hw : own_W Z a0) (ws : List Jvm.Cond) (sA sV : Addr) (sK : ClassId) (sU : List Value) (i sZ x cs : Int32) (fm : Value) (h0 : Heap) (n0 : Nat) (Z0 : n0 ≤ h0.size) (zn : Z.heap.size ≤ n0) (OZ : Ext Z.heap h0) (Scs : Sta Z Z.heap "java/lang/String" "COMPACT_STRINGS" "Z" (.int cs)) (hcs : ¬ cs = 0) (Sfm : Sta Z Z.heap "jdk/internal/util/Preconditions" "SIOOBE_FORMATTER" "Ljava/util/function/BiFunction;" fm) (hfm : fm.isRef = true) (hi0 : ¬ i < 0) (hi1 : i < sZ) (hv : sU.getD i.toNatClampNeg (.int 0) = .int x) (Es : Exa Z h0 sA "java/lang/String") (Fsv : Fld Z h0 sA "java/lang/String" "value" "[B" (.ref sV)) (Fsc : Fld Z h0 sA "java/lang/String" "coder" "B" (.int 0)) (Vs : Arv Z h0 sV sK .byte sZ sU (.int 0)) :
    MetFree l (⟨"java/lang/String", "charAt", "(I)C"⟩ : MethodName) (head1 (Jvm.Cond.code (⟨"java/lang/String", "charAt", "(I)C"⟩ : MethodName) jdk_42_method_56_code 2 (some .char) :: ws) ({ frames := 3, cells := 0, slots := 0, locals := 40 } : Room)) (fun a U => a = #[(.ref sA), (.int i)] ∧ Z.Warmed39 U.vm ∧ U.heap = h0) (fun _ _ _ _ _ => True) (fun _ U o U' => ∃ v L, o = .returned v ∧ own_cl_Q Z sA sV sK sU i sZ x cs fm h0 n0 v U'.heap L ∧ FrameEnd U o U' L ({ frames := 3, cells := 0, slots := 0, locals := 40 } : Room).cells ({ frames := 3, cells := 0, slots := 0, locals := 40 } : Room).slots) := by
  refine own_enter (C := ({ frames := 3, cells := 0, slots := 0, locals := 40 } : Room).cells) (S := ({ frames := 3, cells := 0, slots := 0, locals := 40 } : Room).slots) (plainFor_of_name own_pn2) ?_
  intro p e s m below meth c T0 X0 I e0
  obtain ⟨hx, hby, hml, hown, hnm, hret, hlk, hZ⟩ := I
  have N0 := Fr.nil n0
  have O0 := own_extr h0
  refine own_cast (own_ef33 m sA i) ?_
  show own_Go _ _ _ _ T0 (mkF m 0 #[.val (.ref sA), .val (.int i)] [])
  refine own_st (fun _ k => XS.aloadN X0.here hx rfl (hb hby own_d33_0) rfl rfl k) ?_
  obtain ⟨v1, T1, L1, hQ1, X1, st1⟩ := own_callV X0 hx hZ (y := (⟨"java/lang/String", "isLatin1", "()Z"⟩ : MethodName)) hown (own_w181 hw) (own_w182 hw) (own_w184 hw) (own_w183 hw) (own_w22 hw) (own_w185 hw) (by decide) (own_l10 l hw [] sA cs h0 n0 (Nat.le_trans Z0 O0.1) zn (own_extt OZ O0) Scs hcs (Fsc.ext O0)) e0 (Es.ext O0) (g := (mkF m 1 #[.val (.ref sA), .val (.int i)] [(.ref sA)])) rfl (by rw [hml]; rfl) (argsL := []) (rest := []) (lenOf own_pd23 rfl) rfl rfl (W := 0) (Nat.le_of_eq rfl) (hb hby own_d33_1) (by decide) (by decide) (by decide) (by decide)
  obtain ⟨rfl, N1, e1⟩ := hQ1
  have N1' := Fr.app N0 N1
  refine own_st st1 ?_
  refine own_st (fun _ k => XS.ifNo X1.here hx rfl (hb hby own_d33_4) rfl ((if0 _ _).trans (feq (by decide : ¬ ((1 : Int32) = (0 : Int32)))).1) k) ?_
  refine own_st (fun _ k => XS.aloadN X1.here hx rfl (hb hby own_d33_7) rfl rfl k) ?_
  obtain ⟨T2, X2, e2, st2⟩ := getF X1 hx hZ hown (host := "") (Or.inl (own_w63 hw)) Via.refl e1 (Fsv.ext O0) (g := (mkF m 8 #[.val (.ref sA), .val (.int i)] [(.ref sA)])) rfl rfl (hb hby own_d33_8)
  refine own_st st2 ?_
  refine own_st (fun _ k => XS.iloadN X2.here hx rfl (hb hby own_d33_11) rfl k) ?_
  obtain ⟨v3, T3, L3, hQ3, X3, st3⟩ := own_callS X2 hx hZ (y := (⟨"java/lang/StringLatin1", "charAt", "([BI)C"⟩ : MethodName)) hown (own_w186 hw) (own_w187 hw) (own_w154 hw) (own_w188 hw) (by decide) (own_lc l hw [] sV sK sU i sZ x fm h0 n0 (Nat.le_trans Z0 O0.1) zn (own_extt OZ O0) Sfm hfm hi0 hi1 hv (Vs.ext O0)) e2 (g := (mkF m 12 #[.val (.ref sA), .val (.int i)] [(.int i), (.ref sV)])) rfl (by rw [hml]; rfl) (argsL := [(.ref sV), (.int i)]) (rest := []) (lenOf own_pd30 rfl) rfl rfl (W := 0) (Nat.le_of_eq rfl) (hb hby own_d33_12) (by decide) (by decide) (by decide) (by decide)
  obtain ⟨rfl, N3, e3⟩ := hQ3
  have N3' := Fr.app N1' N3
  refine own_st st3 ?_
  exact own_retN X3 hx hret (by simp) hlk (hb hby own_d33_15) ⟨rfl, N3', e3⟩ (by decide) (by decide)
def own_gch0_Q (Z : State) (a1 : Addr) (k1 : ClassId) (us : List Value) (p1 z x y : Int32) (h0 : Heap) (n0 : Nat) (v : Option Value) (h : Heap) (L : List Loc) : Prop := v = some (.int (nar .char ((((x &&& (255 : Int32)) <<< ((0 : Int32) &&& 31)) ||| ((y &&& (255 : Int32)) <<< ((8 : Int32) &&& 31))).toUInt32.toUInt16.toUInt32.toInt32))) ∧ Fr n0 L ∧ h = h0
set_option maxRecDepth 65536 in
set_option maxHeartbeats 40000000 in
theorem own_gch0 (l : Launch) {Z : State} {a0 : Array Value} (hw : own_W Z a0) (ws : List Jvm.Cond) (a1 : Addr) (k1 : ClassId) (us : List Value) (p1 z x y : Int32) (h0 : Heap) (n0 : Nat) (Z0 : n0 ≤ h0.size) (zn : Z.heap.size ≤ n0) (OZ : Ext Z.heap h0) (Sad : Sta Z Z.heap "java/lang/StringUTF16" "$assertionsDisabled" "Z" (.int 1)) (Shi : Sta Z Z.heap "java/lang/StringUTF16" "HI_BYTE_SHIFT" "I" (.int 0)) (Slo : Sta Z Z.heap "java/lang/StringUTF16" "LO_BYTE_SHIFT" "I" (.int 8)) (hp1 : p1 = 0) (hja : ¬ (0 : Int32) < 0 ∧ (0 : Int32) < z) (hjb : ¬ (1 : Int32) < 0 ∧ (1 : Int32) < z) (hva : us.getD ((0 : Int32)).toNatClampNeg (.int 0) = .int x) (hvb : us.getD ((1 : Int32)).toNatClampNeg (.int 0) = .int y) (Va : Arv Z h0 a1 k1 .byte z us (.int 0)) :
    MetFree l (⟨"java/lang/StringUTF16", "getChar", "([BI)C"⟩ : MethodName) (head1 (Jvm.Cond.code (⟨"java/lang/StringUTF16", "getChar", "([BI)C"⟩ : MethodName) jdk_52_method_5_code 2 (some .char) :: ws) ({ frames := 0, cells := 0, slots := 0, locals := 0 } : Room)) (fun a U => a = #[(.ref a1), (.int p1)] ∧ Z.Warmed39 U.vm ∧ U.heap = h0) (fun _ _ _ _ _ => True) (fun _ U o U' => ∃ v L, o = .returned v ∧ own_gch0_Q Z a1 k1 us p1 z x y h0 n0 v U'.heap L ∧ FrameEnd U o U' L ({ frames := 0, cells := 0, slots := 0, locals := 0 } : Room).cells ({ frames := 0, cells := 0, slots := 0, locals := 0 } : Room).slots) := by
  refine own_enter (C := ({ frames := 0, cells := 0, slots := 0, locals := 0 } : Room).cells) (S := ({ frames := 0, cells := 0, slots := 0, locals := 0 } : Room).slots) (plainFor_of_name own_pn6) ?_
  intro p e s m below meth c T0 X0 I e0
  obtain ⟨hx, hby, hml, hown, hnm, hret, hlk, hZ⟩ := I
  have N0 := Fr.nil n0
  have O0 := own_extr h0
  refine own_cast (own_ef55 m a1 p1) ?_
  show own_Go _ _ _ _ T0 (mkF m 0 #[.val (.ref a1), .val (.int p1)] [])
  rw [hp1]
  show own_Go _ _ _ _ T0 (mkF m 0 #[.val (.ref a1), .val (.int 0)] [])
  obtain ⟨T1, X1, e1, st1⟩ := getS2 X0 hx hZ hown (host := "") (Or.inl (own_w220 hw)) Via.refl e0 (Sad.ext (own_extt OZ O0)) (g := (mkF m 0 #[.val (.ref a1), .val (.int 0)] [])) rfl (hb hby own_d55_0)
  refine own_st st1 ?_
  refine own_st (fun _ k => XS.ifYes X1.here hx rfl (pc0 := 3) (pc' := 28) rfl (hb hby own_d55_3) rfl ((if0 _ _).trans (feq (by decide : ¬ ((1 : Int32) = (0 : Int32)))).2) (by decide) (by decide) k) ?_
  refine own_st (fun _ k => XS.iloadN X1.here hx rfl (hb hby own_d55_28) rfl k) ?_
  refine own_st (fun _ k => XS.iconst X1.here hx rfl (hb hby own_d55_29) k) ?_
  refine own_st (fun _ k => XS.ishl X1.here hx rfl (hb hby own_d55_30) rfl k) ?_
  show own_Go _ _ _ _ T1 (mkF m 31 #[.val (.ref a1), .val (.int 0)] [(.int ((0 : Int32) <<< ((1 : Int32) &&& 31)))])
  rw [show ((0 : Int32) <<< ((1 : Int32) &&& 31)) = (0 : Int32) from by decide]
  refine own_st (fun _ k => XS.istoreN X1.here hx rfl (hb hby own_d55_31) rfl (l' := #[.val (.ref a1), .val (.int 0)]) rfl k) ?_
  refine own_st (fun _ k => XS.aloadN X1.here hx rfl (hb hby own_d55_32) rfl rfl k) ?_
  refine own_st (fun _ k => XS.iloadN X1.here hx rfl (hb hby own_d55_33) rfl k) ?_
  refine own_st (fun _ k => XS.iinc X1.here hx rfl (hb hby own_d55_34) rfl (l' := #[.val (.ref a1), .val (.int ((0 : Int32) + (1 : Int32)))]) rfl k) ?_
  show own_Go _ _ _ _ T1 (mkF m 37 #[.val (.ref a1), .val (.int ((0 : Int32) + (1 : Int32)))] [(.int 0), (.ref a1)])
  rw [show ((0 : Int32) + (1 : Int32)) = (1 : Int32) from by decide]
  refine own_st (own_ldB X1 hx hZ e1 (Va.ext O0) (j := (0 : Int32)) hja (v := (.int x)) hva (g := (mkF m 37 #[.val (.ref a1), .val (.int 1)] [(.int 0), (.ref a1)])) rfl rfl (hb hby own_d55_37)) ?_
  refine own_st (fun _ k => XS.sipush X1.here hx rfl (hb hby own_d55_38) k) ?_
  refine own_st (fun _ k => XS.iand X1.here hx rfl (hb hby own_d55_41) rfl k) ?_
  obtain ⟨T2, X2, e2, st2⟩ := getS2 X1 hx hZ hown (host := "") (Or.inl (own_w221 hw)) Via.refl e1 (Shi.ext (own_extt OZ O0)) (g := (mkF m 42 #[.val (.ref a1), .val (.int 1)] [(.int (x &&& (255 : Int32)))])) rfl (hb hby own_d55_42)
  refine own_st st2 ?_
  refine own_st (fun _ k => XS.ishl X2.here hx rfl (hb hby own_d55_45) rfl k) ?_
  refine own_st (fun _ k => XS.aloadN X2.here hx rfl (hb hby own_d55_46) rfl rfl k) ?_
  refine own_st (fun _ k => XS.iloadN X2.here hx rfl (hb hby own_d55_47) rfl k) ?_
  show own_Go _ _ _ _ T2 (mkF m 48 #[.val (.ref a1), .val (.int 1)] [(.int 1), (.ref a1), (.int ((x &&& (255 : Int32)) <<< ((0 : Int32) &&& 31)))])
  refine own_st (own_ldB X2 hx hZ e2 (Va.ext O0) (j := (1 : Int32)) hjb (v := (.int y)) hvb (g := (mkF m 48 #[.val (.ref a1), .val (.int 1)] [(.int 1), (.ref a1), (.int ((x &&& (255 : Int32)) <<< ((0 : Int32) &&& 31)))])) rfl rfl (hb hby own_d55_48)) ?_
  refine own_st (fun _ k => XS.sipush X2.here hx rfl (hb hby own_d55_49) k) ?_
  refine own_st (fun _ k => XS.iand X2.here hx rfl (hb hby own_d55_52) rfl k) ?_
  obtain ⟨T3, X3, e3, st3⟩ := getS2 X2 hx hZ hown (host := "") (Or.inl (own_w222 hw)) Via.refl e2 (Slo.ext (own_extt OZ O0)) (g := (mkF m 53 #[.val (.ref a1), .val (.int 1)] [(.int (y &&& (255 : Int32))), (.int ((x &&& (255 : Int32)) <<< ((0 : Int32) &&& 31)))])) rfl (hb hby own_d55_53)
  refine own_st st3 ?_
  refine own_st (fun _ k => XS.ishl X3.here hx rfl (hb hby own_d55_56) rfl k) ?_
  refine own_st (fun _ k => XS.ior X3.here hx rfl (hb hby own_d55_57) rfl k) ?_
  refine own_st (fun _ k => XS.i2c X3.here hx rfl (hb hby own_d55_58) rfl k) ?_
  exact own_retN X3 hx hret (by simp) hlk (hb hby own_d55_59) ⟨rfl, N0, e3⟩ (by decide) (by decide)
def own_uch0_Q (Z : State) (a1 : Addr) (k1 : ClassId) (us : List Value) (p1 z x y : Int32) (fm : Value) (h0 : Heap) (n0 : Nat) (v : Option Value) (h : Heap) (L : List Loc) : Prop := v = some (.int (nar .char (nar .char ((((x &&& (255 : Int32)) <<< ((0 : Int32) &&& 31)) ||| ((y &&& (255 : Int32)) <<< ((8 : Int32) &&& 31))).toUInt32.toUInt16.toUInt32.toInt32)))) ∧ Fr n0 L ∧ h = h0
set_option maxRecDepth 65536 in
set_option maxHeartbeats 40000000 in
theorem own_uch0 (l : Launch) {Z : State} {a0 : Array Value} (hw : own_W Z a0) (ws : List Jvm.Cond) (a1 : Addr) (k1 : ClassId) (us : List Value) (p1 z x y : Int32) (fm : Value) (h0 : Heap) (n0 : Nat) (Z0 : n0 ≤ h0.size) (zn : Z.heap.size ≤ n0) (OZ : Ext Z.heap h0) (Sad : Sta Z Z.heap "java/lang/StringUTF16" "$assertionsDisabled" "Z" (.int 1)) (Shi : Sta Z Z.heap "java/lang/StringUTF16" "HI_BYTE_SHIFT" "I" (.int 0)) (Slo : Sta Z Z.heap "java/lang/StringUTF16" "LO_BYTE_SHIFT" "I" (.int 8)) (Sfm : Sta Z Z.heap "jdk/internal/util/Preconditions" "SIOOBE_FORMATTER" "Ljava/util/function/BiFunction;" fm) (hfm : fm.isRef = true) (hp1 : p1 = 0) (hja : ¬ (0 : Int32) < 0 ∧ (0 : Int32) < z) (hjb : ¬ (1 : Int32) < 0 ∧ (1 : Int32) < z) (hva : us.getD ((0 : Int32)).toNatClampNeg (.int 0) = .int x) (hvb : us.getD ((1 : Int32)).toNatClampNeg (.int 0) = .int y) (hlt : (0 : Int32) < (z >>> ((1 : Int32) &&& 31))) (Va : Arv Z h0 a1 k1 .byte z us (.int 0)) :
    MetFree l (⟨"java/lang/StringUTF16", "charAt", "([BI)C"⟩ : MethodName) (head1 (Jvm.Cond.code (⟨"java/lang/StringUTF16", "charAt", "([BI)C"⟩ : MethodName) jdk_52_method_83_code 2 (some .char) :: ws) ({ frames := 3, cells := 0, slots := 0, locals := 40 } : Room)) (fun a U => a = #[(.ref a1), (.int p1)] ∧ Z.Warmed39 U.vm ∧ U.heap = h0) (fun _ _ _ _ _ => True) (fun _ U o U' => ∃ v L, o = .returned v ∧ own_uch0_Q Z a1 k1 us p1 z x y fm h0 n0 v U'.heap L ∧ FrameEnd U o U' L ({ frames := 3, cells := 0, slots := 0, locals := 40 } : Room).cells ({ frames := 3, cells := 0, slots := 0, locals := 40 } : Room).slots) := by
  refine own_enter (C := ({ frames := 3, cells := 0, slots := 0, locals := 40 } : Room).cells) (S := ({ frames := 3, cells := 0, slots := 0, locals := 40 } : Room).slots) (plainFor_of_name own_pn6) ?_
  intro p e s m below meth c T0 X0 I e0
  obtain ⟨hx, hby, hml, hown, hnm, hret, hlk, hZ⟩ := I
  have N0 := Fr.nil n0
  have O0 := own_extr h0
  refine own_cast (own_ef53 m a1 p1) ?_
  show own_Go _ _ _ _ T0 (mkF m 0 #[.val (.ref a1), .val (.int p1)] [])
  rw [hp1]
  show own_Go _ _ _ _ T0 (mkF m 0 #[.val (.ref a1), .val (.int 0)] [])
  refine own_st (fun _ k => XS.iloadN X0.here hx rfl (hb hby own_d53_0) rfl k) ?_
  refine own_st (fun _ k => XS.aloadN X0.here hx rfl (hb hby own_d53_1) rfl rfl k) ?_
  obtain ⟨v1, T1, L1, hQ1, X1, st1⟩ := own_callS X0 hx hZ (y := (⟨"java/lang/StringUTF16", "checkIndex", "(I[B)V"⟩ : MethodName)) hown (own_w265 hw) (own_w266 hw) (own_w211 hw) (own_w267 hw) (by decide) (own_uk l hw [] a1 k1 us (0 : Int32) z fm h0 n0 (Nat.le_trans Z0 O0.1) zn (own_extt OZ O0) Sfm hfm (by decide) hlt (Va.ext O0)) e0 (g := (mkF m 2 #[.val (.ref a1), .val (.int 0)] [(.ref a1), (.int 0)])) rfl (by rw [hml]; rfl) (argsL := [(.int 0), (.ref a1)]) (rest := []) (lenOf own_pd31 rfl) rfl rfl (W := 0) (Nat.le_of_eq rfl) (hb hby own_d53_2) (by decide) (by decide) (by decide) (by decide)
  obtain ⟨rfl, N1, e1⟩ := hQ1
  have N1' := Fr.app N0 N1
  refine own_st st1 ?_
  refine own_st (fun _ k => XS.aloadN X1.here hx rfl (hb hby own_d53_5) rfl rfl k) ?_
  refine own_st (fun _ k => XS.iloadN X1.here hx rfl (hb hby own_d53_6) rfl k) ?_
  obtain ⟨v2, T2, L2, hQ2, X2, st2⟩ := own_callS X1 hx hZ (y := (⟨"java/lang/StringUTF16", "getChar", "([BI)C"⟩ : MethodName)) hown (own_w269 hw) (own_w270 hw) (own_w211 hw) (own_w271 hw) (by decide) (own_gch0 l hw [] a1 k1 us (0 : Int32) z x y h0 n0 (Nat.le_trans Z0 O0.1) zn (own_extt OZ O0) Sad Shi Slo rfl hja hjb hva hvb (Va.ext O0)) e1 (g := (mkF m 7 #[.val (.ref a1), .val (.int 0)] [(.int 0), (.ref a1)])) rfl (by rw [hml]; rfl) (argsL := [(.ref a1), (.int 0)]) (rest := []) (lenOf own_pd30 rfl) rfl rfl (W := 0) (Nat.le_of_eq rfl) (hb hby own_d53_7) (by decide) (by decide) (by decide) (by decide)
  obtain ⟨rfl, N2, e2⟩ := hQ2
  have N2' := Fr.app N1' N2
  refine own_st st2 ?_
  exact own_retN X2 hx hret (by simp) hlk (hb hby own_d53_10) ⟨rfl, N2', e2⟩ (by decide) (by decide)
def own_cu0_Q (Z : State) (sA sV : Addr) (sK : ClassId) (sU : List Value) (p1 sZ x y cs : Int32) (fm : Value) (h0 : Heap) (n0 : Nat) (v : Option Value) (h : Heap) (L : List Loc) : Prop := v = some (.int (own_gc x y)) ∧ Fr n0 L ∧ h = h0
set_option maxRecDepth 65536 in
set_option maxHeartbeats 40000000 in
theorem own_cu0 (l : Launch) {Z : State} {a0 : Array Value} (hw : own_W Z a0) (ws : List Jvm.Cond) (sA sV : Addr) (sK : ClassId) (sU : List Value) (p1 sZ x y cs : Int32) (fm : Value) (h0 : Heap) (n0 : Nat) (Z0 : n0 ≤ h0.size) (zn : Z.heap.size ≤ n0) (OZ : Ext Z.heap h0) (Scs : Sta Z Z.heap "java/lang/String" "COMPACT_STRINGS" "Z" (.int cs)) (hcs : ¬ cs = 0) (Sad : Sta Z Z.heap "java/lang/StringUTF16" "$assertionsDisabled" "Z" (.int 1)) (Shi : Sta Z Z.heap "java/lang/StringUTF16" "HI_BYTE_SHIFT" "I" (.int 0)) (Slo : Sta Z Z.heap "java/lang/StringUTF16" "LO_BYTE_SHIFT" "I" (.int 8)) (Sfm : Sta Z Z.heap "jdk/internal/util/Preconditions" "SIOOBE_FORMATTER" "Ljava/util/function/BiFunction;" fm) (hfm : fm.isRef = true) (hp1 : p1 = 0) (hja : ¬ (0 : Int32) < 0 ∧ (0 : Int32) < sZ) (hjb : ¬ (1 : Int32) < 0 ∧ (1 : Int32) < sZ) (hva : sU.getD ((0 : Int32)).toNatClampNeg (.int 0) = .int x) (hvb : sU.getD ((1 : Int32)).toNatClampNeg (.int 0) = .int y) (hlt : (0 : Int32) < (sZ >>> ((1 : Int32) &&& 31))) (Es : Exa Z h0 sA "java/lang/String") (Fsv : Fld Z h0 sA "java/lang/String" "value" "[B" (.ref sV)) (Fsc : Fld Z h0 sA "java/lang/String" "coder" "B" (.int 1)) (Vs : Arv Z h0 sV sK .byte sZ sU (.int 0)) :
    MetFree l (⟨"java/lang/String", "charAt", "(I)C"⟩ : MethodName) (head1 (Jvm.Cond.code (⟨"java/lang/String", "charAt", "(I)C"⟩ : MethodName) jdk_42_method_56_code 2 (some .char) :: ws) ({ frames := 4, cells := 0, slots := 0, locals := 53 } : Room)) (fun a U => a = #[(.ref sA), (.int p1)] ∧ Z.Warmed39 U.vm ∧ U.heap = h0) (fun _ _ _ _ _ => True) (fun _ U o U' => ∃ v L, o = .returned v ∧ own_cu0_Q Z sA sV sK sU p1 sZ x y cs fm h0 n0 v U'.heap L ∧ FrameEnd U o U' L ({ frames := 4, cells := 0, slots := 0, locals := 53 } : Room).cells ({ frames := 4, cells := 0, slots := 0, locals := 53 } : Room).slots) := by
  refine own_enter (C := ({ frames := 4, cells := 0, slots := 0, locals := 53 } : Room).cells) (S := ({ frames := 4, cells := 0, slots := 0, locals := 53 } : Room).slots) (plainFor_of_name own_pn2) ?_
  intro p e s m below meth c T0 X0 I e0
  obtain ⟨hx, hby, hml, hown, hnm, hret, hlk, hZ⟩ := I
  have N0 := Fr.nil n0
  have O0 := own_extr h0
  refine own_cast (own_ef33 m sA p1) ?_
  show own_Go _ _ _ _ T0 (mkF m 0 #[.val (.ref sA), .val (.int p1)] [])
  rw [hp1]
  show own_Go _ _ _ _ T0 (mkF m 0 #[.val (.ref sA), .val (.int 0)] [])
  refine own_st (fun _ k => XS.aloadN X0.here hx rfl (hb hby own_d33_0) rfl rfl k) ?_
  obtain ⟨v1, T1, L1, hQ1, X1, st1⟩ := own_callV X0 hx hZ (y := (⟨"java/lang/String", "isLatin1", "()Z"⟩ : MethodName)) hown (own_w181 hw) (own_w182 hw) (own_w184 hw) (own_w183 hw) (own_w22 hw) (own_w185 hw) (by decide) (own_l11 l hw [] sA cs h0 n0 (Nat.le_trans Z0 O0.1) zn (own_extt OZ O0) Scs hcs (Fsc.ext O0)) e0 (Es.ext O0) (g := (mkF m 1 #[.val (.ref sA), .val (.int 0)] [(.ref sA)])) rfl (by rw [hml]; rfl) (argsL := []) (rest := []) (lenOf own_pd23 rfl) rfl rfl (W := 0) (Nat.le_of_eq rfl) (hb hby own_d33_1) (by decide) (by decide) (by decide) (by decide)
  obtain ⟨rfl, N1, e1⟩ := hQ1
  have N1' := Fr.app N0 N1
  refine own_st st1 ?_
  refine own_st (fun _ k => XS.ifYes X1.here hx rfl (pc0 := 4) (pc' := 16) rfl (hb hby own_d33_4) rfl ((if0 _ _).trans (teq (by decide : (0 : Int32) = (0 : Int32))).1) (by decide) (by decide) k) ?_
  refine own_st (fun _ k => XS.aloadN X1.here hx rfl (hb hby own_d33_16) rfl rfl k) ?_
  obtain ⟨T2, X2, e2, st2⟩ := getF X1 hx hZ hown (host := "") (Or.inl (own_w63 hw)) Via.refl e1 (Fsv.ext O0) (g := (mkF m 17 #[.val (.ref sA), .val (.int 0)] [(.ref sA)])) rfl rfl (hb hby own_d33_17)
  refine own_st st2 ?_
  refine own_st (fun _ k => XS.iloadN X2.here hx rfl (hb hby own_d33_20) rfl k) ?_
  obtain ⟨v3, T3, L3, hQ3, X3, st3⟩ := own_callS X2 hx hZ (y := (⟨"java/lang/StringUTF16", "charAt", "([BI)C"⟩ : MethodName)) hown (own_w262 hw) (own_w263 hw) (own_w211 hw) (own_w264 hw) (by decide) (own_uch0 l hw [] sV sK sU (0 : Int32) sZ x y fm h0 n0 (Nat.le_trans Z0 O0.1) zn (own_extt OZ O0) Sad Shi Slo Sfm hfm rfl hja hjb hva hvb hlt (Vs.ext O0)) e2 (g := (mkF m 21 #[.val (.ref sA), .val (.int 0)] [(.int 0), (.ref sV)])) rfl (by rw [hml]; rfl) (argsL := [(.ref sV), (.int 0)]) (rest := []) (lenOf own_pd30 rfl) rfl rfl (W := 0) (Nat.le_of_eq rfl) (hb hby own_d33_21) (by decide) (by decide) (by decide) (by decide)
  obtain ⟨rfl, N3, e3⟩ := hQ3
  have N3' := Fr.app N1' N3
  refine own_st st3 ?_
  exact own_retN X3 hx hret (by simp) hlk (hb hby own_d33_24) ⟨rfl, N3', e3⟩ (by decide) (by decide)
def own_gch1_Q (Z : State) (a1 : Addr) (k1 : ClassId) (us : List Value) (p1 z x y : Int32) (h0 : Heap) (n0 : Nat) (v : Option Value) (h : Heap) (L : List Loc) : Prop := v = some (.int (nar .char ((((x &&& (255 : Int32)) <<< ((0 : Int32) &&& 31)) ||| ((y &&& (255 : Int32)) <<< ((8 : Int32) &&& 31))).toUInt32.toUInt16.toUInt32.toInt32))) ∧ Fr n0 L ∧ h = h0
set_option maxRecDepth 65536 in
set_option maxHeartbeats 40000000 in
theorem own_gch1 (l : Launch) {Z : State} {a0 : Array Value} (hw : own_W Z a0) (ws : List Jvm.Cond) (a1 : Addr) (k1 : ClassId) (us : List Value) (p1 z x y : Int32) (h0 : Heap) (n0 : Nat) (Z0 : n0 ≤ h0.size) (zn : Z.heap.size ≤ n0) (OZ : Ext Z.heap h0) (Sad : Sta Z Z.heap "java/lang/StringUTF16" "$assertionsDisabled" "Z" (.int 1)) (Shi : Sta Z Z.heap "java/lang/StringUTF16" "HI_BYTE_SHIFT" "I" (.int 0)) (Slo : Sta Z Z.heap "java/lang/StringUTF16" "LO_BYTE_SHIFT" "I" (.int 8)) (hp1 : p1 = 1) (hja : ¬ (2 : Int32) < 0 ∧ (2 : Int32) < z) (hjb : ¬ (3 : Int32) < 0 ∧ (3 : Int32) < z) (hva : us.getD ((2 : Int32)).toNatClampNeg (.int 0) = .int x) (hvb : us.getD ((3 : Int32)).toNatClampNeg (.int 0) = .int y) (Va : Arv Z h0 a1 k1 .byte z us (.int 0)) :
    MetFree l (⟨"java/lang/StringUTF16", "getChar", "([BI)C"⟩ : MethodName) (head1 (Jvm.Cond.code (⟨"java/lang/StringUTF16", "getChar", "([BI)C"⟩ : MethodName) jdk_52_method_5_code 2 (some .char) :: ws) ({ frames := 0, cells := 0, slots := 0, locals := 0 } : Room)) (fun a U => a = #[(.ref a1), (.int p1)] ∧ Z.Warmed39 U.vm ∧ U.heap = h0) (fun _ _ _ _ _ => True) (fun _ U o U' => ∃ v L, o = .returned v ∧ own_gch1_Q Z a1 k1 us p1 z x y h0 n0 v U'.heap L ∧ FrameEnd U o U' L ({ frames := 0, cells := 0, slots := 0, locals := 0 } : Room).cells ({ frames := 0, cells := 0, slots := 0, locals := 0 } : Room).slots) := by
  refine own_enter (C := ({ frames := 0, cells := 0, slots := 0, locals := 0 } : Room).cells) (S := ({ frames := 0, cells := 0, slots := 0, locals := 0 } : Room).slots) (plainFor_of_name own_pn6) ?_
  intro p e s m below meth c T0 X0 I e0
  obtain ⟨hx, hby, hml, hown, hnm, hret, hlk, hZ⟩ := I
  have N0 := Fr.nil n0
  have O0 := own_extr h0
  refine own_cast (own_ef55 m a1 p1) ?_
  show own_Go _ _ _ _ T0 (mkF m 0 #[.val (.ref a1), .val (.int p1)] [])
  rw [hp1]
  show own_Go _ _ _ _ T0 (mkF m 0 #[.val (.ref a1), .val (.int 1)] [])
  obtain ⟨T1, X1, e1, st1⟩ := getS2 X0 hx hZ hown (host := "") (Or.inl (own_w220 hw)) Via.refl e0 (Sad.ext (own_extt OZ O0)) (g := (mkF m 0 #[.val (.ref a1), .val (.int 1)] [])) rfl (hb hby own_d55_0)
  refine own_st st1 ?_
  refine own_st (fun _ k => XS.ifYes X1.here hx rfl (pc0 := 3) (pc' := 28) rfl (hb hby own_d55_3) rfl ((if0 _ _).trans (feq (by decide : ¬ ((1 : Int32) = (0 : Int32)))).2) (by decide) (by decide) k) ?_
  refine own_st (fun _ k => XS.iloadN X1.here hx rfl (hb hby own_d55_28) rfl k) ?_
  refine own_st (fun _ k => XS.iconst X1.here hx rfl (hb hby own_d55_29) k) ?_
  refine own_st (fun _ k => XS.ishl X1.here hx rfl (hb hby own_d55_30) rfl k) ?_
  show own_Go _ _ _ _ T1 (mkF m 31 #[.val (.ref a1), .val (.int 1)] [(.int ((1 : Int32) <<< ((1 : Int32) &&& 31)))])
  rw [show ((1 : Int32) <<< ((1 : Int32) &&& 31)) = (2 : Int32) from by decide]
  refine own_st (fun _ k => XS.istoreN X1.here hx rfl (hb hby own_d55_31) rfl (l' := #[.val (.ref a1), .val (.int 2)]) rfl k) ?_
  refine own_st (fun _ k => XS.aloadN X1.here hx rfl (hb hby own_d55_32) rfl rfl k) ?_
  refine own_st (fun _ k => XS.iloadN X1.here hx rfl (hb hby own_d55_33) rfl k) ?_
  refine own_st (fun _ k => XS.iinc X1.here hx rfl (hb hby own_d55_34) rfl (l' := #[.val (.ref a1), .val (.int ((2 : Int32) + (1 : Int32)))]) rfl k) ?_
  show own_Go _ _ _ _ T1 (mkF m 37 #[.val (.ref a1), .val (.int ((2 : Int32) + (1 : Int32)))] [(.int 2), (.ref a1)])
  rw [show ((2 : Int32) + (1 : Int32)) = (3 : Int32) from by decide]
  refine own_st (own_ldB X1 hx hZ e1 (Va.ext O0) (j := (2 : Int32)) hja (v := (.int x)) hva (g := (mkF m 37 #[.val (.ref a1), .val (.int 3)] [(.int 2), (.ref a1)])) rfl rfl (hb hby own_d55_37)) ?_
  refine own_st (fun _ k => XS.sipush X1.here hx rfl (hb hby own_d55_38) k) ?_
  refine own_st (fun _ k => XS.iand X1.here hx rfl (hb hby own_d55_41) rfl k) ?_
  obtain ⟨T2, X2, e2, st2⟩ := getS2 X1 hx hZ hown (host := "") (Or.inl (own_w221 hw)) Via.refl e1 (Shi.ext (own_extt OZ O0)) (g := (mkF m 42 #[.val (.ref a1), .val (.int 3)] [(.int (x &&& (255 : Int32)))])) rfl (hb hby own_d55_42)
  refine own_st st2 ?_
  refine own_st (fun _ k => XS.ishl X2.here hx rfl (hb hby own_d55_45) rfl k) ?_
  refine own_st (fun _ k => XS.aloadN X2.here hx rfl (hb hby own_d55_46) rfl rfl k) ?_
  refine own_st (fun _ k => XS.iloadN X2.here hx rfl (hb hby own_d55_47) rfl k) ?_
  show own_Go _ _ _ _ T2 (mkF m 48 #[.val (.ref a1), .val (.int 3)] [(.int 3), (.ref a1), (.int ((x &&& (255 : Int32)) <<< ((0 : Int32) &&& 31)))])
  refine own_st (own_ldB X2 hx hZ e2 (Va.ext O0) (j := (3 : Int32)) hjb (v := (.int y)) hvb (g := (mkF m 48 #[.val (.ref a1), .val (.int 3)] [(.int 3), (.ref a1), (.int ((x &&& (255 : Int32)) <<< ((0 : Int32) &&& 31)))])) rfl rfl (hb hby own_d55_48)) ?_
  refine own_st (fun _ k => XS.sipush X2.here hx rfl (hb hby own_d55_49) k) ?_
  refine own_st (fun _ k => XS.iand X2.here hx rfl (hb hby own_d55_52) rfl k) ?_
  obtain ⟨T3, X3, e3, st3⟩ := getS2 X2 hx hZ hown (host := "") (Or.inl (own_w222 hw)) Via.refl e2 (Slo.ext (own_extt OZ O0)) (g := (mkF m 53 #[.val (.ref a1), .val (.int 3)] [(.int (y &&& (255 : Int32))), (.int ((x &&& (255 : Int32)) <<< ((0 : Int32) &&& 31)))])) rfl (hb hby own_d55_53)
  refine own_st st3 ?_
  refine own_st (fun _ k => XS.ishl X3.here hx rfl (hb hby own_d55_56) rfl k) ?_
  refine own_st (fun _ k => XS.ior X3.here hx rfl (hb hby own_d55_57) rfl k) ?_
  refine own_st (fun _ k => XS.i2c X3.here hx rfl (hb hby own_d55_58) rfl k) ?_
  exact own_retN X3 hx hret (by simp) hlk (hb hby own_d55_59) ⟨rfl, N0, e3⟩ (by decide) (by decide)
def own_uch1_Q (Z : State) (a1 : Addr) (k1 : ClassId) (us : List Value) (p1 z x y : Int32) (fm : Value) (h0 : Heap) (n0 : Nat) (v : Option Value) (h : Heap) (L : List Loc) : Prop := v = some (.int (nar .char (nar .char ((((x &&& (255 : Int32)) <<< ((0 : Int32) &&& 31)) ||| ((y &&& (255 : Int32)) <<< ((8 : Int32) &&& 31))).toUInt32.toUInt16.toUInt32.toInt32)))) ∧ Fr n0 L ∧ h = h0
set_option maxRecDepth 65536 in
set_option maxHeartbeats 40000000 in
theorem own_uch1 (l : Launch) {Z : State} {a0 : Array Value} (hw : own_W Z a0) (ws : List Jvm.Cond) (a1 : Addr) (k1 : ClassId) (us : List Value) (p1 z x y : Int32) (fm : Value) (h0 : Heap) (n0 : Nat) (Z0 : n0 ≤ h0.size) (zn : Z.heap.size ≤ n0) (OZ : Ext Z.heap h0) (Sad : Sta Z Z.heap "java/lang/StringUTF16" "$assertionsDisabled" "Z" (.int 1)) (Shi : Sta Z Z.heap "java/lang/StringUTF16" "HI_BYTE_SHIFT" "I" (.int 0)) (Slo : Sta Z Z.heap "java/lang/StringUTF16" "LO_BYTE_SHIFT" "I" (.int 8)) (Sfm : Sta Z Z.heap "jdk/internal/util/Preconditions" "SIOOBE_FORMATTER" "Ljava/util/function/BiFunction;" fm) (hfm : fm.isRef = true) (hp1 : p1 = 1) (hja : ¬ (2 : Int32) < 0 ∧ (2 : Int32) < z) (hjb : ¬ (3 : Int32) < 0 ∧ (3 : Int32) < z) (hva : us.getD ((2 : Int32)).toNatClampNeg (.int 0) = .int x) (hvb : us.getD ((3 : Int32)).toNatClampNeg (.int 0) = .int y) (hlt : (1 : Int32) < (z >>> ((1 : Int32) &&& 31))) (Va : Arv Z h0 a1 k1 .byte z us (.int 0)) :
    MetFree l (⟨"java/lang/StringUTF16", "charAt", "([BI)C"⟩ : MethodName) (head1 (Jvm.Cond.code (⟨"java/lang/StringUTF16", "charAt", "([BI)C"⟩ : MethodName) jdk_52_method_83_code 2 (some .char) :: ws) ({ frames := 3, cells := 0, slots := 0, locals := 40 } : Room)) (fun a U => a = #[(.ref a1), (.int p1)] ∧ Z.Warmed39 U.vm ∧ U.heap = h0) (fun _ _ _ _ _ => True) (fun _ U o U' => ∃ v L, o = .returned v ∧ own_uch1_Q Z a1 k1 us p1 z x y fm h0 n0 v U'.heap L ∧ FrameEnd U o U' L ({ frames := 3, cells := 0, slots := 0, locals := 40 } : Room).cells ({ frames := 3, cells := 0, slots := 0, locals := 40 } : Room).slots) := by
  refine own_enter (C := ({ frames := 3, cells := 0, slots := 0, locals := 40 } : Room).cells) (S := ({ frames := 3, cells := 0, slots := 0, locals := 40 } : Room).slots) (plainFor_of_name own_pn6) ?_
  intro p e s m below meth c T0 X0 I e0
  obtain ⟨hx, hby, hml, hown, hnm, hret, hlk, hZ⟩ := I
  have N0 := Fr.nil n0
  have O0 := own_extr h0
  refine own_cast (own_ef53 m a1 p1) ?_
  show own_Go _ _ _ _ T0 (mkF m 0 #[.val (.ref a1), .val (.int p1)] [])
  rw [hp1]
  show own_Go _ _ _ _ T0 (mkF m 0 #[.val (.ref a1), .val (.int 1)] [])
  refine own_st (fun _ k => XS.iloadN X0.here hx rfl (hb hby own_d53_0) rfl k) ?_
  refine own_st (fun _ k => XS.aloadN X0.here hx rfl (hb hby own_d53_1) rfl rfl k) ?_
  obtain ⟨v1, T1, L1, hQ1, X1, st1⟩ := own_callS X0 hx hZ (y := (⟨"java/lang/StringUTF16", "checkIndex", "(I[B)V"⟩ : MethodName)) hown (own_w265 hw) (own_w266 hw) (own_w211 hw) (own_w267 hw) (by decide) (own_uk l hw [] a1 k1 us (1 : Int32) z fm h0 n0 (Nat.le_trans Z0 O0.1) zn (own_extt OZ O0) Sfm hfm (by decide) hlt (Va.ext O0)) e0 (g := (mkF m 2 #[.val (.ref a1), .val (.int 1)] [(.ref a1), (.int 1)])) rfl (by rw [hml]; rfl) (argsL := [(.int 1), (.ref a1)]) (rest := []) (lenOf own_pd31 rfl) rfl rfl (W := 0) (Nat.le_of_eq rfl) (hb hby own_d53_2) (by decide) (by decide) (by decide) (by decide)
  obtain ⟨rfl, N1, e1⟩ := hQ1
  have N1' := Fr.app N0 N1
  refine own_st st1 ?_
  refine own_st (fun _ k => XS.aloadN X1.here hx rfl (hb hby own_d53_5) rfl rfl k) ?_
  refine own_st (fun _ k => XS.iloadN X1.here hx rfl (hb hby own_d53_6) rfl k) ?_
  obtain ⟨v2, T2, L2, hQ2, X2, st2⟩ := own_callS X1 hx hZ (y := (⟨"java/lang/StringUTF16", "getChar", "([BI)C"⟩ : MethodName)) hown (own_w269 hw) (own_w270 hw) (own_w211 hw) (own_w271 hw) (by decide) (own_gch1 l hw [] a1 k1 us (1 : Int32) z x y h0 n0 (Nat.le_trans Z0 O0.1) zn (own_extt OZ O0) Sad Shi Slo rfl hja hjb hva hvb (Va.ext O0)) e1 (g := (mkF m 7 #[.val (.ref a1), .val (.int 1)] [(.int 1), (.ref a1)])) rfl (by rw [hml]; rfl) (argsL := [(.ref a1), (.int 1)]) (rest := []) (lenOf own_pd30 rfl) rfl rfl (W := 0) (Nat.le_of_eq rfl) (hb hby own_d53_7) (by decide) (by decide) (by decide) (by decide)
  obtain ⟨rfl, N2, e2⟩ := hQ2
  have N2' := Fr.app N1' N2
  refine own_st st2 ?_
  exact own_retN X2 hx hret (by simp) hlk (hb hby own_d53_10) ⟨rfl, N2', e2⟩ (by decide) (by decide)
def own_cu1_Q (Z : State) (sA sV : Addr) (sK : ClassId) (sU : List Value) (p1 sZ x y cs : Int32) (fm : Value) (h0 : Heap) (n0 : Nat) (v : Option Value) (h : Heap) (L : List Loc) : Prop := v = some (.int (own_gc x y)) ∧ Fr n0 L ∧ h = h0
set_option maxRecDepth 65536 in
set_option maxHeartbeats 40000000 in
theorem own_cu1 (l : Launch) {Z : State} {a0 : Array Value} (hw : own_W Z a0) (ws : List Jvm.Cond) (sA sV : Addr) (sK : ClassId) (sU : List Value) (p1 sZ x y cs : Int32) (fm : Value) (h0 : Heap) (n0 : Nat) (Z0 : n0 ≤ h0.size) (zn : Z.heap.size ≤ n0) (OZ : Ext Z.heap h0) (Scs : Sta Z Z.heap "java/lang/String" "COMPACT_STRINGS" "Z" (.int cs)) (hcs : ¬ cs = 0) (Sad : Sta Z Z.heap "java/lang/StringUTF16" "$assertionsDisabled" "Z" (.int 1)) (Shi : Sta Z Z.heap "java/lang/StringUTF16" "HI_BYTE_SHIFT" "I" (.int 0)) (Slo : Sta Z Z.heap "java/lang/StringUTF16" "LO_BYTE_SHIFT" "I" (.int 8)) (Sfm : Sta Z Z.heap "jdk/internal/util/Preconditions" "SIOOBE_FORMATTER" "Ljava/util/function/BiFunction;" fm) (hfm : fm.isRef = true) (hp1 : p1 = 1) (hja : ¬ (2 : Int32) < 0 ∧ (2 : Int32) < sZ) (hjb : ¬ (3 : Int32) < 0 ∧ (3 : Int32) < sZ) (hva : sU.getD ((2 : Int32)).toNatClampNeg (.int 0) = .int x) (hvb : sU.getD ((3 : Int32)).toNatClampNeg (.int 0) = .int y) (hlt : (1 : Int32) < (sZ >>> ((1 : Int32) &&& 31))) (Es : Exa Z h0 sA "java/lang/String") (Fsv : Fld Z h0 sA "java/lang/String" "value" "[B" (.ref sV)) (Fsc : Fld Z h0 sA "java/lang/String" "coder" "B" (.int 1)) (Vs : Arv Z h0 sV sK .byte sZ sU (.int 0)) :
    MetFree l (⟨"java/lang/String", "charAt", "(I)C"⟩ : MethodName) (head1 (Jvm.Cond.code (⟨"java/lang/String", "charAt", "(I)C"⟩ : MethodName) jdk_42_method_56_code 2 (some .char) :: ws) ({ frames := 4, cells := 0, slots := 0, locals := 53 } : Room)) (fun a U => a = #[(.ref sA), (.int p1)] ∧ Z.Warmed39 U.vm ∧ U.heap = h0) (fun _ _ _ _ _ => True) (fun _ U o U' => ∃ v L, o = .returned v ∧ own_cu1_Q Z sA sV sK sU p1 sZ x y cs fm h0 n0 v U'.heap L ∧ FrameEnd U o U' L ({ frames := 4, cells := 0, slots := 0, locals := 53 } : Room).cells ({ frames := 4, cells := 0, slots := 0, locals := 53 } : Room).slots) := by
  refine own_enter (C := ({ frames := 4, cells := 0, slots := 0, locals := 53 } : Room).cells) (S := ({ frames := 4, cells := 0, slots := 0, locals := 53 } : Room).slots) (plainFor_of_name own_pn2) ?_
  intro p e s m below meth c T0 X0 I e0
  obtain ⟨hx, hby, hml, hown, hnm, hret, hlk, hZ⟩ := I
  have N0 := Fr.nil n0
  have O0 := own_extr h0
  refine own_cast (own_ef33 m sA p1) ?_
  show own_Go _ _ _ _ T0 (mkF m 0 #[.val (.ref sA), .val (.int p1)] [])
  rw [hp1]
  show own_Go _ _ _ _ T0 (mkF m 0 #[.val (.ref sA), .val (.int 1)] [])
  refine own_st (fun _ k => XS.aloadN X0.here hx rfl (hb hby own_d33_0) rfl rfl k) ?_
  obtain ⟨v1, T1, L1, hQ1, X1, st1⟩ := own_callV X0 hx hZ (y := (⟨"java/lang/String", "isLatin1", "()Z"⟩ : MethodName)) hown (own_w181 hw) (own_w182 hw) (own_w184 hw) (own_w183 hw) (own_w22 hw) (own_w185 hw) (by decide) (own_l11 l hw [] sA cs h0 n0 (Nat.le_trans Z0 O0.1) zn (own_extt OZ O0) Scs hcs (Fsc.ext O0)) e0 (Es.ext O0) (g := (mkF m 1 #[.val (.ref sA), .val (.int 1)] [(.ref sA)])) rfl (by rw [hml]; rfl) (argsL := []) (rest := []) (lenOf own_pd23 rfl) rfl rfl (W := 0) (Nat.le_of_eq rfl) (hb hby own_d33_1) (by decide) (by decide) (by decide) (by decide)
  obtain ⟨rfl, N1, e1⟩ := hQ1
  have N1' := Fr.app N0 N1
  refine own_st st1 ?_
  refine own_st (fun _ k => XS.ifYes X1.here hx rfl (pc0 := 4) (pc' := 16) rfl (hb hby own_d33_4) rfl ((if0 _ _).trans (teq (by decide : (0 : Int32) = (0 : Int32))).1) (by decide) (by decide) k) ?_
  refine own_st (fun _ k => XS.aloadN X1.here hx rfl (hb hby own_d33_16) rfl rfl k) ?_
  obtain ⟨T2, X2, e2, st2⟩ := getF X1 hx hZ hown (host := "") (Or.inl (own_w63 hw)) Via.refl e1 (Fsv.ext O0) (g := (mkF m 17 #[.val (.ref sA), .val (.int 1)] [(.ref sA)])) rfl rfl (hb hby own_d33_17)
  refine own_st st2 ?_
  refine own_st (fun _ k => XS.iloadN X2.here hx rfl (hb hby own_d33_20) rfl k) ?_
  obtain ⟨v3, T3, L3, hQ3, X3, st3⟩ := own_callS X2 hx hZ (y := (⟨"java/lang/StringUTF16", "charAt", "([BI)C"⟩ : MethodName)) hown (own_w262 hw) (own_w263 hw) (own_w211 hw) (own_w264 hw) (by decide) (own_uch1 l hw [] sV sK sU (1 : Int32) sZ x y fm h0 n0 (Nat.le_trans Z0 O0.1) zn (own_extt OZ O0) Sad Shi Slo Sfm hfm rfl hja hjb hva hvb hlt (Vs.ext O0)) e2 (g := (mkF m 21 #[.val (.ref sA), .val (.int 1)] [(.int 1), (.ref sV)])) rfl (by rw [hml]; rfl) (argsL := [(.ref sV), (.int 1)]) (rest := []) (lenOf own_pd30 rfl) rfl rfl (W := 0) (Nat.le_of_eq rfl) (hb hby own_d33_21) (by decide) (by decide) (by decide) (by decide)
  obtain ⟨rfl, N3, e3⟩ := hQ3
  have N3' := Fr.app N1' N3
  refine own_st st3 ?_
  exact own_retN X3 hx hret (by simp) hlk (hb hby own_d33_24) ⟨rfl, N3', e3⟩ (by decide) (by decide)
def own_gch2_Q (Z : State) (a1 : Addr) (k1 : ClassId) (us : List Value) (p1 z x y : Int32) (h0 : Heap) (n0 : Nat) (v : Option Value) (h : Heap) (L : List Loc) : Prop := v = some (.int (nar .char ((((x &&& (255 : Int32)) <<< ((0 : Int32) &&& 31)) ||| ((y &&& (255 : Int32)) <<< ((8 : Int32) &&& 31))).toUInt32.toUInt16.toUInt32.toInt32))) ∧ Fr n0 L ∧ h = h0
set_option maxRecDepth 65536 in
set_option maxHeartbeats 40000000 in
theorem own_gch2 (l : Launch) {Z : State} {a0 : Array Value} (hw : own_W Z a0) (ws : List Jvm.Cond) (a1 : Addr) (k1 : ClassId) (us : List Value) (p1 z x y : Int32) (h0 : Heap) (n0 : Nat) (Z0 : n0 ≤ h0.size) (zn : Z.heap.size ≤ n0) (OZ : Ext Z.heap h0) (Sad : Sta Z Z.heap "java/lang/StringUTF16" "$assertionsDisabled" "Z" (.int 1)) (Shi : Sta Z Z.heap "java/lang/StringUTF16" "HI_BYTE_SHIFT" "I" (.int 0)) (Slo : Sta Z Z.heap "java/lang/StringUTF16" "LO_BYTE_SHIFT" "I" (.int 8)) (hp1 : p1 = 2) (hja : ¬ (4 : Int32) < 0 ∧ (4 : Int32) < z) (hjb : ¬ (5 : Int32) < 0 ∧ (5 : Int32) < z) (hva : us.getD ((4 : Int32)).toNatClampNeg (.int 0) = .int x) (hvb : us.getD ((5 : Int32)).toNatClampNeg (.int 0) = .int y) (Va : Arv Z h0 a1 k1 .byte z us (.int 0)) :
    MetFree l (⟨"java/lang/StringUTF16", "getChar", "([BI)C"⟩ : MethodName) (head1 (Jvm.Cond.code (⟨"java/lang/StringUTF16", "getChar", "([BI)C"⟩ : MethodName) jdk_52_method_5_code 2 (some .char) :: ws) ({ frames := 0, cells := 0, slots := 0, locals := 0 } : Room)) (fun a U => a = #[(.ref a1), (.int p1)] ∧ Z.Warmed39 U.vm ∧ U.heap = h0) (fun _ _ _ _ _ => True) (fun _ U o U' => ∃ v L, o = .returned v ∧ own_gch2_Q Z a1 k1 us p1 z x y h0 n0 v U'.heap L ∧ FrameEnd U o U' L ({ frames := 0, cells := 0, slots := 0, locals := 0 } : Room).cells ({ frames := 0, cells := 0, slots := 0, locals := 0 } : Room).slots) := by
  refine own_enter (C := ({ frames := 0, cells := 0, slots := 0, locals := 0 } : Room).cells) (S := ({ frames := 0, cells := 0, slots := 0, locals := 0 } : Room).slots) (plainFor_of_name own_pn6) ?_
  intro p e s m below meth c T0 X0 I e0
  obtain ⟨hx, hby, hml, hown, hnm, hret, hlk, hZ⟩ := I
  have N0 := Fr.nil n0
  have O0 := own_extr h0
  refine own_cast (own_ef55 m a1 p1) ?_
  show own_Go _ _ _ _ T0 (mkF m 0 #[.val (.ref a1), .val (.int p1)] [])
  rw [hp1]
  show own_Go _ _ _ _ T0 (mkF m 0 #[.val (.ref a1), .val (.int 2)] [])
  obtain ⟨T1, X1, e1, st1⟩ := getS2 X0 hx hZ hown (host := "") (Or.inl (own_w220 hw)) Via.refl e0 (Sad.ext (own_extt OZ O0)) (g := (mkF m 0 #[.val (.ref a1), .val (.int 2)] [])) rfl (hb hby own_d55_0)
  refine own_st st1 ?_
  refine own_st (fun _ k => XS.ifYes X1.here hx rfl (pc0 := 3) (pc' := 28) rfl (hb hby own_d55_3) rfl ((if0 _ _).trans (feq (by decide : ¬ ((1 : Int32) = (0 : Int32)))).2) (by decide) (by decide) k) ?_
  refine own_st (fun _ k => XS.iloadN X1.here hx rfl (hb hby own_d55_28) rfl k) ?_
  refine own_st (fun _ k => XS.iconst X1.here hx rfl (hb hby own_d55_29) k) ?_
  refine own_st (fun _ k => XS.ishl X1.here hx rfl (hb hby own_d55_30) rfl k) ?_
  show own_Go _ _ _ _ T1 (mkF m 31 #[.val (.ref a1), .val (.int 2)] [(.int ((2 : Int32) <<< ((1 : Int32) &&& 31)))])
  rw [show ((2 : Int32) <<< ((1 : Int32) &&& 31)) = (4 : Int32) from by decide]
  refine own_st (fun _ k => XS.istoreN X1.here hx rfl (hb hby own_d55_31) rfl (l' := #[.val (.ref a1), .val (.int 4)]) rfl k) ?_
  refine own_st (fun _ k => XS.aloadN X1.here hx rfl (hb hby own_d55_32) rfl rfl k) ?_
  refine own_st (fun _ k => XS.iloadN X1.here hx rfl (hb hby own_d55_33) rfl k) ?_
  refine own_st (fun _ k => XS.iinc X1.here hx rfl (hb hby own_d55_34) rfl (l' := #[.val (.ref a1), .val (.int ((4 : Int32) + (1 : Int32)))]) rfl k) ?_
  show own_Go _ _ _ _ T1 (mkF m 37 #[.val (.ref a1), .val (.int ((4 : Int32) + (1 : Int32)))] [(.int 4), (.ref a1)])
  rw [show ((4 : Int32) + (1 : Int32)) = (5 : Int32) from by decide]
  refine own_st (own_ldB X1 hx hZ e1 (Va.ext O0) (j := (4 : Int32)) hja (v := (.int x)) hva (g := (mkF m 37 #[.val (.ref a1), .val (.int 5)] [(.int 4), (.ref a1)])) rfl rfl (hb hby own_d55_37)) ?_
  refine own_st (fun _ k => XS.sipush X1.here hx rfl (hb hby own_d55_38) k) ?_
  refine own_st (fun _ k => XS.iand X1.here hx rfl (hb hby own_d55_41) rfl k) ?_
  obtain ⟨T2, X2, e2, st2⟩ := getS2 X1 hx hZ hown (host := "") (Or.inl (own_w221 hw)) Via.refl e1 (Shi.ext (own_extt OZ O0)) (g := (mkF m 42 #[.val (.ref a1), .val (.int 5)] [(.int (x &&& (255 : Int32)))])) rfl (hb hby own_d55_42)
  refine own_st st2 ?_
  refine own_st (fun _ k => XS.ishl X2.here hx rfl (hb hby own_d55_45) rfl k) ?_
  refine own_st (fun _ k => XS.aloadN X2.here hx rfl (hb hby own_d55_46) rfl rfl k) ?_
  refine own_st (fun _ k => XS.iloadN X2.here hx rfl (hb hby own_d55_47) rfl k) ?_
  show own_Go _ _ _ _ T2 (mkF m 48 #[.val (.ref a1), .val (.int 5)] [(.int 5), (.ref a1), (.int ((x &&& (255 : Int32)) <<< ((0 : Int32) &&& 31)))])
  refine own_st (own_ldB X2 hx hZ e2 (Va.ext O0) (j := (5 : Int32)) hjb (v := (.int y)) hvb (g := (mkF m 48 #[.val (.ref a1), .val (.int 5)] [(.int 5), (.ref a1), (.int ((x &&& (255 : Int32)) <<< ((0 : Int32) &&& 31)))])) rfl rfl (hb hby own_d55_48)) ?_
  refine own_st (fun _ k => XS.sipush X2.here hx rfl (hb hby own_d55_49) k) ?_
  refine own_st (fun _ k => XS.iand X2.here hx rfl (hb hby own_d55_52) rfl k) ?_
  obtain ⟨T3, X3, e3, st3⟩ := getS2 X2 hx hZ hown (host := "") (Or.inl (own_w222 hw)) Via.refl e2 (Slo.ext (own_extt OZ O0)) (g := (mkF m 53 #[.val (.ref a1), .val (.int 5)] [(.int (y &&& (255 : Int32))), (.int ((x &&& (255 : Int32)) <<< ((0 : Int32) &&& 31)))])) rfl (hb hby own_d55_53)
  refine own_st st3 ?_
  refine own_st (fun _ k => XS.ishl X3.here hx rfl (hb hby own_d55_56) rfl k) ?_
  refine own_st (fun _ k => XS.ior X3.here hx rfl (hb hby own_d55_57) rfl k) ?_
  refine own_st (fun _ k => XS.i2c X3.here hx rfl (hb hby own_d55_58) rfl k) ?_
  exact own_retN X3 hx hret (by simp) hlk (hb hby own_d55_59) ⟨rfl, N0, e3⟩ (by decide) (by decide)
def own_uch2_Q (Z : State) (a1 : Addr) (k1 : ClassId) (us : List Value) (p1 z x y : Int32) (fm : Value) (h0 : Heap) (n0 : Nat) (v : Option Value) (h : Heap) (L : List Loc) : Prop := v = some (.int (nar .char (nar .char ((((x &&& (255 : Int32)) <<< ((0 : Int32) &&& 31)) ||| ((y &&& (255 : Int32)) <<< ((8 : Int32) &&& 31))).toUInt32.toUInt16.toUInt32.toInt32)))) ∧ Fr n0 L ∧ h = h0
set_option maxRecDepth 65536 in
set_option maxHeartbeats 40000000 in
theorem own_uch2 (l : Launch) {Z : State} {a0 : Array Value} (hw : own_W Z a0) (ws : List Jvm.Cond) (a1 : Addr) (k1 : ClassId) (us : List Value) (p1 z x y : Int32) (fm : Value) (h0 : Heap) (n0 : Nat) (Z0 : n0 ≤ h0.size) (zn : Z.heap.size ≤ n0) (OZ : Ext Z.heap h0) (Sad : Sta Z Z.heap "java/lang/StringUTF16" "$assertionsDisabled" "Z" (.int 1)) (Shi : Sta Z Z.heap "java/lang/StringUTF16" "HI_BYTE_SHIFT" "I" (.int 0)) (Slo : Sta Z Z.heap "java/lang/StringUTF16" "LO_BYTE_SHIFT" "I" (.int 8)) (Sfm : Sta Z Z.heap "jdk/internal/util/Preconditions" "SIOOBE_FORMATTER" "Ljava/util/function/BiFunction;" fm) (hfm : fm.isRef = true) (hp1 : p1 = 2) (hja : ¬ (4 : Int32) < 0 ∧ (4 : Int32) < z) (hjb : ¬ (5 : Int32) < 0 ∧ (5 : Int32) < z) (hva : us.getD ((4 : Int32)).toNatClampNeg (.int 0) = .int x) (hvb : us.getD ((5 : Int32)).toNatClampNeg (.int 0) = .int y) (hlt : (2 : Int32) < (z >>> ((1 : Int32) &&& 31))) (Va : Arv Z h0 a1 k1 .byte z us (.int 0)) :
    MetFree l (⟨"java/lang/StringUTF16", "charAt", "([BI)C"⟩ : MethodName) (head1 (Jvm.Cond.code (⟨"java/lang/StringUTF16", "charAt", "([BI)C"⟩ : MethodName) jdk_52_method_83_code 2 (some .char) :: ws) ({ frames := 3, cells := 0, slots := 0, locals := 40 } : Room)) (fun a U => a = #[(.ref a1), (.int p1)] ∧ Z.Warmed39 U.vm ∧ U.heap = h0) (fun _ _ _ _ _ => True) (fun _ U o U' => ∃ v L, o = .returned v ∧ own_uch2_Q Z a1 k1 us p1 z x y fm h0 n0 v U'.heap L ∧ FrameEnd U o U' L ({ frames := 3, cells := 0, slots := 0, locals := 40 } : Room).cells ({ frames := 3, cells := 0, slots := 0, locals := 40 } : Room).slots) := by
  refine own_enter (C := ({ frames := 3, cells := 0, slots := 0, locals := 40 } : Room).cells) (S := ({ frames := 3, cells := 0, slots := 0, locals := 40 } : Room).slots) (plainFor_of_name own_pn6) ?_
  intro p e s m below meth c T0 X0 I e0
  obtain ⟨hx, hby, hml, hown, hnm, hret, hlk, hZ⟩ := I
  have N0 := Fr.nil n0
  have O0 := own_extr h0
  refine own_cast (own_ef53 m a1 p1) ?_
  show own_Go _ _ _ _ T0 (mkF m 0 #[.val (.ref a1), .val (.int p1)] [])
  rw [hp1]
  show own_Go _ _ _ _ T0 (mkF m 0 #[.val (.ref a1), .val (.int 2)] [])
  refine own_st (fun _ k => XS.iloadN X0.here hx rfl (hb hby own_d53_0) rfl k) ?_
  refine own_st (fun _ k => XS.aloadN X0.here hx rfl (hb hby own_d53_1) rfl rfl k) ?_
  obtain ⟨v1, T1, L1, hQ1, X1, st1⟩ := own_callS X0 hx hZ (y := (⟨"java/lang/StringUTF16", "checkIndex", "(I[B)V"⟩ : MethodName)) hown (own_w265 hw) (own_w266 hw) (own_w211 hw) (own_w267 hw) (by decide) (own_uk l hw [] a1 k1 us (2 : Int32) z fm h0 n0 (Nat.le_trans Z0 O0.1) zn (own_extt OZ O0) Sfm hfm (by decide) hlt (Va.ext O0)) e0 (g := (mkF m 2 #[.val (.ref a1), .val (.int 2)] [(.ref a1), (.int 2)])) rfl (by rw [hml]; rfl) (argsL := [(.int 2), (.ref a1)]) (rest := []) (lenOf own_pd31 rfl) rfl rfl (W := 0) (Nat.le_of_eq rfl) (hb hby own_d53_2) (by decide) (by decide) (by decide) (by decide)
  obtain ⟨rfl, N1, e1⟩ := hQ1
  have N1' := Fr.app N0 N1
  refine own_st st1 ?_
  refine own_st (fun _ k => XS.aloadN X1.here hx rfl (hb hby own_d53_5) rfl rfl k) ?_
  refine own_st (fun _ k => XS.iloadN X1.here hx rfl (hb hby own_d53_6) rfl k) ?_
  obtain ⟨v2, T2, L2, hQ2, X2, st2⟩ := own_callS X1 hx hZ (y := (⟨"java/lang/StringUTF16", "getChar", "([BI)C"⟩ : MethodName)) hown (own_w269 hw) (own_w270 hw) (own_w211 hw) (own_w271 hw) (by decide) (own_gch2 l hw [] a1 k1 us (2 : Int32) z x y h0 n0 (Nat.le_trans Z0 O0.1) zn (own_extt OZ O0) Sad Shi Slo rfl hja hjb hva hvb (Va.ext O0)) e1 (g := (mkF m 7 #[.val (.ref a1), .val (.int 2)] [(.int 2), (.ref a1)])) rfl (by rw [hml]; rfl) (argsL := [(.ref a1), (.int 2)]) (rest := []) (lenOf own_pd30 rfl) rfl rfl (W := 0) (Nat.le_of_eq rfl) (hb hby own_d53_7) (by decide) (by decide) (by decide) (by decide)
  obtain ⟨rfl, N2, e2⟩ := hQ2
  have N2' := Fr.app N1' N2
  refine own_st st2 ?_
  exact own_retN X2 hx hret (by simp) hlk (hb hby own_d53_10) ⟨rfl, N2', e2⟩ (by decide) (by decide)
def own_cu2_Q (Z : State) (sA sV : Addr) (sK : ClassId) (sU : List Value) (p1 sZ x y cs : Int32) (fm : Value) (h0 : Heap) (n0 : Nat) (v : Option Value) (h : Heap) (L : List Loc) : Prop := v = some (.int (own_gc x y)) ∧ Fr n0 L ∧ h = h0
set_option maxRecDepth 65536 in
set_option maxHeartbeats 40000000 in
theorem own_cu2 (l : Launch) {Z : State} {a0 : Array Value} (hw : own_W Z a0) (ws : List Jvm.Cond) (sA sV : Addr) (sK : ClassId) (sU : List Value) (p1 sZ x y cs : Int32) (fm : Value) (h0 : Heap) (n0 : Nat) (Z0 : n0 ≤ h0.size) (zn : Z.heap.size ≤ n0) (OZ : Ext Z.heap h0) (Scs : Sta Z Z.heap "java/lang/String" "COMPACT_STRINGS" "Z" (.int cs)) (hcs : ¬ cs = 0) (Sad : Sta Z Z.heap "java/lang/StringUTF16" "$assertionsDisabled" "Z" (.int 1)) (Shi : Sta Z Z.heap "java/lang/StringUTF16" "HI_BYTE_SHIFT" "I" (.int 0)) (Slo : Sta Z Z.heap "java/lang/StringUTF16" "LO_BYTE_SHIFT" "I" (.int 8)) (Sfm : Sta Z Z.heap "jdk/internal/util/Preconditions" "SIOOBE_FORMATTER" "Ljava/util/function/BiFunction;" fm) (hfm : fm.isRef = true) (hp1 : p1 = 2) (hja : ¬ (4 : Int32) < 0 ∧ (4 : Int32) < sZ) (hjb : ¬ (5 : Int32) < 0 ∧ (5 : Int32) < sZ) (hva : sU.getD ((4 : Int32)).toNatClampNeg (.int 0) = .int x) (hvb : sU.getD ((5 : Int32)).toNatClampNeg (.int 0) = .int y) (hlt : (2 : Int32) < (sZ >>> ((1 : Int32) &&& 31))) (Es : Exa Z h0 sA "java/lang/String") (Fsv : Fld Z h0 sA "java/lang/String" "value" "[B" (.ref sV)) (Fsc : Fld Z h0 sA "java/lang/String" "coder" "B" (.int 1)) (Vs : Arv Z h0 sV sK .byte sZ sU (.int 0)) :
    MetFree l (⟨"java/lang/String", "charAt", "(I)C"⟩ : MethodName) (head1 (Jvm.Cond.code (⟨"java/lang/String", "charAt", "(I)C"⟩ : MethodName) jdk_42_method_56_code 2 (some .char) :: ws) ({ frames := 4, cells := 0, slots := 0, locals := 53 } : Room)) (fun a U => a = #[(.ref sA), (.int p1)] ∧ Z.Warmed39 U.vm ∧ U.heap = h0) (fun _ _ _ _ _ => True) (fun _ U o U' => ∃ v L, o = .returned v ∧ own_cu2_Q Z sA sV sK sU p1 sZ x y cs fm h0 n0 v U'.heap L ∧ FrameEnd U o U' L ({ frames := 4, cells := 0, slots := 0, locals := 53 } : Room).cells ({ frames := 4, cells := 0, slots := 0, locals := 53 } : Room).slots) := by
  refine own_enter (C := ({ frames := 4, cells := 0, slots := 0, locals := 53 } : Room).cells) (S := ({ frames := 4, cells := 0, slots := 0, locals := 53 } : Room).slots) (plainFor_of_name own_pn2) ?_
  intro p e s m below meth c T0 X0 I e0
  obtain ⟨hx, hby, hml, hown, hnm, hret, hlk, hZ⟩ := I
  have N0 := Fr.nil n0
  have O0 := own_extr h0
  refine own_cast (own_ef33 m sA p1) ?_
  show own_Go _ _ _ _ T0 (mkF m 0 #[.val (.ref sA), .val (.int p1)] [])
  rw [hp1]
  show own_Go _ _ _ _ T0 (mkF m 0 #[.val (.ref sA), .val (.int 2)] [])
  refine own_st (fun _ k => XS.aloadN X0.here hx rfl (hb hby own_d33_0) rfl rfl k) ?_
  obtain ⟨v1, T1, L1, hQ1, X1, st1⟩ := own_callV X0 hx hZ (y := (⟨"java/lang/String", "isLatin1", "()Z"⟩ : MethodName)) hown (own_w181 hw) (own_w182 hw) (own_w184 hw) (own_w183 hw) (own_w22 hw) (own_w185 hw) (by decide) (own_l11 l hw [] sA cs h0 n0 (Nat.le_trans Z0 O0.1) zn (own_extt OZ O0) Scs hcs (Fsc.ext O0)) e0 (Es.ext O0) (g := (mkF m 1 #[.val (.ref sA), .val (.int 2)] [(.ref sA)])) rfl (by rw [hml]; rfl) (argsL := []) (rest := []) (lenOf own_pd23 rfl) rfl rfl (W := 0) (Nat.le_of_eq rfl) (hb hby own_d33_1) (by decide) (by decide) (by decide) (by decide)
  obtain ⟨rfl, N1, e1⟩ := hQ1
  have N1' := Fr.app N0 N1
  refine own_st st1 ?_
  refine own_st (fun _ k => XS.ifYes X1.here hx rfl (pc0 := 4) (pc' := 16) rfl (hb hby own_d33_4) rfl ((if0 _ _).trans (teq (by decide : (0 : Int32) = (0 : Int32))).1) (by decide) (by decide) k) ?_
  refine own_st (fun _ k => XS.aloadN X1.here hx rfl (hb hby own_d33_16) rfl rfl k) ?_
  obtain ⟨T2, X2, e2, st2⟩ := getF X1 hx hZ hown (host := "") (Or.inl (own_w63 hw)) Via.refl e1 (Fsv.ext O0) (g := (mkF m 17 #[.val (.ref sA), .val (.int 2)] [(.ref sA)])) rfl rfl (hb hby own_d33_17)
  refine own_st st2 ?_
  refine own_st (fun _ k => XS.iloadN X2.here hx rfl (hb hby own_d33_20) rfl k) ?_
  obtain ⟨v3, T3, L3, hQ3, X3, st3⟩ := own_callS X2 hx hZ (y := (⟨"java/lang/StringUTF16", "charAt", "([BI)C"⟩ : MethodName)) hown (own_w262 hw) (own_w263 hw) (own_w211 hw) (own_w264 hw) (by decide) (own_uch2 l hw [] sV sK sU (2 : Int32) sZ x y fm h0 n0 (Nat.le_trans Z0 O0.1) zn (own_extt OZ O0) Sad Shi Slo Sfm hfm rfl hja hjb hva hvb hlt (Vs.ext O0)) e2 (g := (mkF m 21 #[.val (.ref sA), .val (.int 2)] [(.int 2), (.ref sV)])) rfl (by rw [hml]; rfl) (argsL := [(.ref sV), (.int 2)]) (rest := []) (lenOf own_pd30 rfl) rfl rfl (W := 0) (Nat.le_of_eq rfl) (hb hby own_d33_21) (by decide) (by decide) (by decide) (by decide)
  obtain ⟨rfl, N3, e3⟩ := hQ3
  have N3' := Fr.app N1' N3
  refine own_st st3 ?_
  exact own_retN X3 hx hret (by simp) hlk (hb hby own_d33_24) ⟨rfl, N3', e3⟩ (by decide) (by decide)
theorem own_wS {Z : State} {a0 : Array Value} (hw : own_W Z a0) : ∀ a ∈ Bundle.stringAtoms, a.before a0 Z = true := by
  intro d hd
  simp only [Bundle.stringAtoms, List.mem_cons, List.not_mem_nil, or_false] at hd
  rcases hd with rfl | rfl | rfl | rfl | rfl | rfl | rfl
  · exact (own_w22 hw)
  · exact (own_w23 hw)
  · exact (own_w24 hw)
  · exact (own_w25 hw)
  · exact (own_w26 hw)
  · exact (own_w27 hw)
  · exact (own_w28 hw)
def own_tA10_Q (Z : State) (a1 : Addr) (cs : Int32) (fm : Value) (h0 : Heap) (n0 : Nat) (v : Option Value) (h : Heap) (vm : Vm) (L : List Loc) : Prop := ∃ b bv k, v = some (.ref b) ∧ Fr n0 L ∧ Ext h0 h ∧ Exa Z h b "java/lang/String" ∧ Fld Z h b "java/lang/String" "value" "[B" (.ref bv) ∧ Fld Z h b "java/lang/String" "coder" "B" (.int 0) ∧ Arv Z h bv k .byte (8 : Int32) [(.int 92), (.int 110), (.int 101), (.int 119), (.int 108), (.int 105), (.int 110), (.int 101)] (.int 0) ∧ IB Z vm ["\\", "newline"]
set_option maxRecDepth 65536 in
set_option maxHeartbeats 40000000 in
theorem own_tA10 (l : Launch) {Z : State} {a0 : Array Value} (hw : own_W Z a0) (ws : List Jvm.Cond) (a1 : Addr) (cs : Int32) (fm : Value) (h0 : Heap) (n0 : Nat) (Z0 : n0 ≤ h0.size) (hn0 : n0 = h0.size) (hcw : Jvm.Lit.compactW.before a0 Z = true) (hh13 : Jvm.Lit.constHeld Z "com/example/isoscope/isoscope/Edn$Char" 13) (hh34 : Jvm.Lit.constHeld Z "com/example/isoscope/isoscope/Edn$Char" 34) (zn : Z.heap.size ≤ n0) (OZ : Ext Z.heap h0) (Scs : Sta Z Z.heap "java/lang/String" "COMPACT_STRINGS" "Z" (.int cs)) (hcs : ¬ cs = 0) (Sad : Sta Z Z.heap "java/lang/StringUTF16" "$assertionsDisabled" "Z" (.int 1)) (Shi : Sta Z Z.heap "java/lang/StringUTF16" "HI_BYTE_SHIFT" "I" (.int 0)) (Slo : Sta Z Z.heap "java/lang/StringUTF16" "LO_BYTE_SHIFT" "I" (.int 8)) (Sfm : Sta Z Z.heap "jdk/internal/util/Preconditions" "SIOOBE_FORMATTER" "Ljava/util/function/BiFunction;" fm) (hfm : fm.isRef = true) (Ec : Exa Z h0 a1 "com/example/isoscope/isoscope/Edn$Char") (Fp : Fld Z h0 a1 "com/example/isoscope/isoscope/Edn$Char" "codePoint" "I" (.int 10)) :
    MetFree l (⟨"com/example/isoscope/isoscope/Edn$Char", "toString", "()Ljava/lang/String;"⟩ : MethodName) (head1 (Jvm.Cond.code (⟨"com/example/isoscope/isoscope/Edn$Char", "toString", "()Ljava/lang/String;"⟩ : MethodName) prog_8_method_2_code 2 (some (.object "java/lang/String")) :: ws) ({ frames := 6, cells := 8, slots := 80, locals := 91 } : Room)) (fun a U => a = #[(.ref a1)] ∧ Z.Warmed39 U.vm ∧ U.heap = h0 ∧ (fun vm => IB Z vm []) U.vm) (fun _ _ _ _ _ => True) (fun _ U o U' => ∃ v L, o = .returned v ∧ own_tA10_Q Z a1 cs fm h0 n0 v U'.heap U'.vm L ∧ ReturnedEndW U o U' L ({ frames := 6, cells := 8, slots := 80, locals := 91 } : Room).cells ({ frames := 6, cells := 8, slots := 80, locals := 91 } : Room).slots) := by
  refine own_enterW (J := fun vm => IB Z vm []) (C := ({ frames := 6, cells := 8, slots := 80, locals := 91 } : Room).cells) (S := ({ frames := 6, cells := 8, slots := 80, locals := 91 } : Room).slots) (plainFor_of_name own_pn1) ?_
  intro p e s m below meth c T0 X0 I e0 es hJ hS
  obtain ⟨hx, hby, hml, hown, hnm, hret, hlk, hZ⟩ := I
  have N0 := Fr.nil n0
  have O0 := own_extr h0
  have hk0 : 0 ≤ h0.size := Nat.zero_le _
  refine own_cast (own_ef4 m a1) ?_
  show own_Go _ _ _ _ T0 (mkF m 0 #[.val (.ref a1), .unset] [])
  refine own_st (fun _ k => XS.aloadN X0.here hx rfl (hb hby own_d4_0) rfl rfl k) ?_
  obtain ⟨T1, X1, e1, st1⟩ := getF X0 hx hZ hown (host := "") (Or.inl (own_w14 hw)) Via.refl e0 (Fp.ext O0) (g := (mkF m 1 #[.val (.ref a1), .unset] [(.ref a1)])) rfl rfl (hb hby own_d4_1)
  refine own_st st1 ?_
  refine own_st (Stand.lookupswitchHit X1 hx (g := (mkF m 4 #[.val (.ref a1), .unset] [(.int 10)])) rfl rfl (hb hby own_d4_4) (by decide) (a := 10) (off := 60) (by decide) (by show (0 : Int) ≤ ((4 : Nat) : Int) + 60; decide)) ?_
  show own_Go _ _ _ _ T1 (mkF m 64 #[.val (.ref a1), .unset] [])
  obtain ⟨sa2, T2, hp2, ks2, sb2, kb2, X2, e2, Et2, hS, hkx2, hZ, hown, Es2, Fc2, Fv2, Vs2, la2, lb2, hI2, hL2, st2⟩ := ldcSVL X1 hx hZ hown (own_w21 hw) (own_wS hw) e1 hS hk0 (by rw [es, ← hn0]; exact N0) (fun b cl q => by rw [es]; exact OZ.2 b cl q) hJ (by decide) hh13 hcw (vs := [(.int 110), (.int 101), (.int 119), (.int 108), (.int 105), (.int 110), (.int 101)]) (z := (7 : Int32)) ⟨by decide, rfl⟩ (by decide) (by decide) (g := (mkF m 64 #[.val (.ref a1), .unset] [])) rfl (hb hby own_d4_64) (n := 28) (by decide) (by decide) (by decide) (by decide)
  have hk2 := Nat.le_trans hk0 Et2.1
  have O2 := own_extt O0 Et2
  refine own_st st2 ?_
  refine own_st (fun _ k => XS.goto X2.here hx rfl (pc0 := 66) (pc' := 101) rfl (hb hby own_d4_66) (by decide) (by decide) k) ?_
  refine own_st (fun _ k => XS.astoreN X2.here hx rfl (hb hby own_d4_101) rfl rfl (l' := #[.val (.ref a1), .val (.ref sa2)]) rfl k) ?_
  obtain ⟨T3, hp3, X3, e3, Et3, A3, D3, -, st3⟩ := newO X2 hx hZ hown (own_w29 hw) (own_w30 hw) (own_w31 hw) e2 (g := (mkF m 102 #[.val (.ref a1), .val (.ref sa2)] [])) rfl (hb hby own_d4_102) (by decide) (by decide)
  obtain ⟨b3, g3⟩ : ∃ z, z = hp2.size := ⟨_, rfl⟩
  rw [← g3] at A3 D3 st3
  have s_b3 : h0.size ≤ b3 := Nat.le_trans O2.1 (Nat.le_of_eq g3.symm)
  have g_b3 : n0 ≤ b3 := Nat.le_trans Z0 s_b3
  have lt_sa2_b3 : sa2 < b3 := Nat.lt_of_lt_of_le Es2.lt (Nat.le_of_eq g3.symm)
  have lt_sb2_b3 : sb2 < b3 := Nat.lt_of_lt_of_le Vs2.lt (Nat.le_of_eq g3.symm)
  have hk3 := Nat.le_trans hkx2 Et3.1
  have O3 := own_extt O2 Et3
  have V_sb2_3 := Vs2.ext Et3
  have Ex_sa2_3 := Es2.ext Et3
  have F_value_sa2_3 := Fv2.ext Et3
  have F_coder_sa2_3 := Fc2.ext Et3
  have F_value_b3 : Fld Z hp3 b3 "java/lang/AbstractStringBuilder" "value" "[B" .null := D3 (Or.inl (own_w44 hw)) (ty := (.array .byte)) (by decide)
  have F_coder_b3 : Fld Z hp3 b3 "java/lang/AbstractStringBuilder" "coder" "B" (.int 0) := D3 (Or.inl (own_w46 hw)) (ty := .byte) (by decide)
  have F_count_b3 : Fld Z hp3 b3 "java/lang/AbstractStringBuilder" "count" "I" (.int 0) := D3 (Or.inl (own_w72 hw)) (ty := .int) (by decide)
  have F_maybeLatin1_b3 : Fld Z hp3 b3 "java/lang/AbstractStringBuilder" "maybeLatin1" "Z" (.int 0) := D3 (Or.inl (own_w259 hw)) (ty := .boolean) (by decide)
  refine own_st st3 ?_
  refine own_st (fun _ k => XS.dup X3.here hx rfl (hb hby own_d4_105) rfl rfl k) ?_
  obtain ⟨v4, T4, L4, hQ4, X4, st4⟩ := own_callI X3 hx hZ (y := (⟨"java/lang/StringBuilder", "<init>", "()V"⟩ : MethodName)) rfl hown (own_w32 hw) (own_w33 hw) (own_w31 hw) (own_w34 hw) (by decide) (own_bi l hw [] b3 cs hp3 n0 (Nat.le_trans Z0 O3.1) zn (own_extt OZ O3) Scs hcs g_b3 A3 F_value_b3 F_coder_b3 F_count_b3 F_maybeLatin1_b3) e3 (g := (mkF m 106 #[.val (.ref a1), .val (.ref sa2)] [(.ref b3), (.ref b3)])) rfl (by rw [hml]; rfl) (argsL := []) (rest := [(.ref b3)]) (lenOf own_pd0 rfl) rfl rfl (W := 1) (Nat.le_of_eq rfl) (hb hby own_d4_106) (by decide) (by decide) (by decide) (by decide)
  obtain ⟨rfl, N4, K4, bV, bK, g_bV, sbv, G1, G2, G3, G4, Vb⟩ := hQ4
  have s_bV : h0.size ≤ bV := Nat.le_trans O3.1 sbv
  have ne_sa2_bV : sa2 ≠ bV := Nat.ne_of_lt (Nat.lt_of_lt_of_le Ex_sa2_3.lt sbv)
  have ne_sb2_bV : sb2 ≠ bV := Nat.ne_of_lt (Nat.lt_of_lt_of_le V_sb2_3.lt sbv)
  have ne_b3_bV : b3 ≠ bV := Nat.ne_of_lt (Nat.lt_of_lt_of_le A3.lt sbv)
  have O4 := own_extk O3 K4 s_b3
  have hk4 := Nat.le_trans hk3 K4.1
  have V_sb2_4 := V_sb2_3.keep K4 (ninS (Nat.ne_of_lt lt_sb2_b3) nin0)
  have Ex_sa2_4 := Ex_sa2_3.keep K4
  have Ex_b3_4 := A3.keep K4
  have F_value_sa2_4 := F_value_sa2_3.keep K4 (ninS (Nat.ne_of_lt lt_sa2_b3) nin0)
  have F_coder_sa2_4 := F_coder_sa2_3.keep K4 (ninS (Nat.ne_of_lt lt_sa2_b3) nin0)
  have N4' := Fr.app N0 N4
  refine own_st st4 ?_
  obtain ⟨sa5, T5, hp5, ks5, sb5, kb5, X5, e5, Et5, hS, hkx5, hZ, hown, Es5, Fc5, Fv5, Vs5, la5, lb5, hI5, hL5, st5⟩ := ldcSVL X4 hx hZ hown (own_w47 hw) (own_wS hw) rfl hS hk4 (by rw [es, ← hn0]; exact N4') (fun b cl q => by rw [es]; exact OZ.2 b cl q) hI2 (by decide) hh34 hcw (vs := [(.int 92)]) (z := (1 : Int32)) ⟨by decide, rfl⟩ (by decide) (by decide) (g := (mkF m 109 #[.val (.ref a1), .val (.ref sa2)] [(.ref b3)])) rfl (hb hby own_d4_109) (n := 4) (by decide) (by decide) (by decide) (by decide)
  have hk5 := Nat.le_trans hk4 Et5.1
  have O5 := own_extt O4 Et5
  have V_sb2_5 := V_sb2_4.ext Et5
  have V_bV_5 := Vb.ext Et5
  have Ex_sa2_5 := Ex_sa2_4.ext Et5
  have Ex_b3_5 := Ex_b3_4.ext Et5
  have F_value_sa2_5 := F_value_sa2_4.ext Et5
  have F_coder_sa2_5 := F_coder_sa2_4.ext Et5
  have F_value_b3_5 := G1.ext Et5
  have F_coder_b3_5 := G2.ext Et5
  have F_count_b3_5 := G3.ext Et5
  have F_maybeLatin1_b3_5 := G4.ext Et5
  refine own_st st5 ?_
  obtain ⟨v6, T6, L6, hQ6, X6, st6⟩ := own_callV X5 hx hZ (y := (⟨"java/lang/StringBuilder", "append", "(Ljava/lang/String;)Ljava/lang/StringBuilder;"⟩ : MethodName)) hown (own_w48 hw) (own_w49 hw) (own_w51 hw) (own_w50 hw) (own_w31 hw) (own_w52 hw) (by decide) (own_sap0 l hw [] b3 bV bK [(.int 0), (.int 0), (.int 0), (.int 0), (.int 0), (.int 0), (.int 0), (.int 0), (.int 0), (.int 0), (.int 0), (.int 0), (.int 0), (.int 0), (.int 0), (.int 0)] sa5 sb5 kb5 [(.int 92)] [(.int 92), (.int 0), (.int 0), (.int 0), (.int 0), (.int 0), (.int 0), (.int 0), (.int 0), (.int 0), (.int 0), (.int 0), (.int 0), (.int 0), (.int 0), (.int 0)] (0 : Int32) (0 : Int32) cs (1 : Int32) (1 : Int32) hp5 n0 (Nat.le_trans Z0 O5.1) (by decide) (by decide) zn (own_extt OZ O5) Scs hcs (by decide) g_b3 g_bV Ex_b3_5 F_value_b3_5 F_coder_b3_5 F_count_b3_5 F_maybeLatin1_b3_5 V_bV_5 Es5 Fv5 Fc5 Vs5 (by decide) (by decide) (by decide) (by decide) rfl) e5 Ex_b3_5 (g := (mkF m 111 #[.val (.ref a1), .val (.ref sa2)] [(.ref sa5), (.ref b3)])) rfl (by rw [hml]; rfl) (argsL := [(.ref sa5)]) (rest := []) (lenOf own_pd32 rfl) rfl rfl (W := 0) (Nat.le_of_eq rfl) (hb hby own_d4_111) (by decide) (by decide) (by decide) (by decide)
  obtain ⟨rfl, N6, K6, P1, P2, P3, P4, Vb2⟩ := hQ6
  have O6 := own_extkl O5 K6 (allS s_b3 (allS s_bV all0))
  have hk6 := Nat.le_trans hkx5 K6.1
  have V_sb2_6 := V_sb2_5.keep K6 (ninS (Nat.ne_of_lt lt_sb2_b3) (ninS ne_sb2_bV nin0))
  have Ex_sa2_6 := Ex_sa2_5.keep K6
  have Ex_b3_6 := Ex_b3_5.keep K6
  have F_value_sa2_6 := F_value_sa2_5.keep K6 (ninS (Nat.ne_of_lt lt_sa2_b3) (ninS ne_sa2_bV nin0))
  have F_coder_sa2_6 := F_coder_sa2_5.keep K6 (ninS (Nat.ne_of_lt lt_sa2_b3) (ninS ne_sa2_bV nin0))
  have N6' := Fr.app N4' N6
  refine own_st st6 ?_
  show own_Go _ _ _ _ T6 (mkF m 114 #[.val (.ref a1), .val (.ref sa2)] [(.ref b3)])
  refine own_st (fun _ k => XS.aloadN X6.here hx rfl (hb hby own_d4_114) rfl rfl k) ?_
  have P3 : Fld Z T6.heap b3 "java/lang/AbstractStringBuilder" "count" "I" (.int 1) := P3
  obtain ⟨v7, T7, L7, hQ7, X7, st7⟩ := own_callV X6 hx hZ (y := (⟨"java/lang/StringBuilder", "append", "(Ljava/lang/String;)Ljava/lang/StringBuilder;"⟩ : MethodName)) hown (own_w48 hw) (own_w49 hw) (own_w51 hw) (own_w50 hw) (own_w31 hw) (own_w52 hw) (by decide) (own_sap0 l hw [] b3 bV bK [(.int 92), (.int 0), (.int 0), (.int 0), (.int 0), (.int 0), (.int 0), (.int 0), (.int 0), (.int 0), (.int 0), (.int 0), (.int 0), (.int 0), (.int 0), (.int 0)] sa2 sb2 kb2 [(.int 110), (.int 101), (.int 119), (.int 108), (.int 105), (.int 110), (.int 101)] [(.int 92), (.int 110), (.int 101), (.int 119), (.int 108), (.int 105), (.int 110), (.int 101), (.int 0), (.int 0), (.int 0), (.int 0), (.int 0), (.int 0), (.int 0), (.int 0)] (1 : Int32) (1 : Int32) cs (7 : Int32) (7 : Int32) T6.heap n0 (Nat.le_trans Z0 O6.1) (by decide) (by decide) zn (own_extt OZ O6) Scs hcs (by decide) g_b3 g_bV Ex_b3_6 P1 P2 P3 P4 Vb2 Ex_sa2_6 F_value_sa2_6 F_coder_sa2_6 V_sb2_6 (by decide) (by decide) (by decide) (by decide) rfl) rfl Ex_b3_6 (g := (mkF m 115 #[.val (.ref a1), .val (.ref sa2)] [(.ref sa2), (.ref b3)])) rfl (by rw [hml]; rfl) (argsL := [(.ref sa2)]) (rest := []) (lenOf own_pd32 rfl) rfl rfl (W := 0) (Nat.le_of_eq rfl) (hb hby own_d4_115) (by decide) (by decide) (by decide) (by decide)
  obtain ⟨rfl, N7, K7, R1, R2, R3, R4, Vb3⟩ := hQ7
  have O7 := own_extkl O6 K7 (allS s_b3 (allS s_bV all0))
  have hk7 := Nat.le_trans hk6 K7.1
  have Ex_b3_7 := Ex_b3_6.keep K7
  have N7' := Fr.app N6' N7
  refine own_st st7 ?_
  have R3 : Fld Z T7.heap b3 "java/lang/AbstractStringBuilder" "count" "I" (.int 8) := R3
  show own_Go _ _ _ _ T7 (mkF m 118 #[.val (.ref a1), .val (.ref sa2)] [(.ref b3)])
  obtain ⟨v8, T8, L8, hQ8, X8, st8⟩ := own_callV X7 hx hZ (y := (⟨"java/lang/StringBuilder", "toString", "()Ljava/lang/String;"⟩ : MethodName)) hown (own_w98 hw) (own_w99 hw) (own_w101 hw) (own_w100 hw) (own_w31 hw) (own_w102 hw) (by decide) (own_tos0 l hw [] b3 bV bK [(.int 92), (.int 110), (.int 101), (.int 119), (.int 108), (.int 105), (.int 110), (.int 101), (.int 0), (.int 0), (.int 0), (.int 0), (.int 0), (.int 0), (.int 0), (.int 0)] (8 : Int32) (8 : Int32) cs T7.heap n0 (Nat.le_trans Z0 O7.1) zn (own_extt OZ O7) Scs hcs rfl (by decide) (by decide) (by decide) (by decide) Ex_b3_7 R1 R2 R3 R4 Vb3) rfl Ex_b3_7 (g := (mkF m 118 #[.val (.ref a1), .val (.ref sa2)] [(.ref b3)])) rfl (by rw [hml]; rfl) (argsL := []) (rest := []) (lenOf own_pd33 rfl) rfl rfl (W := 0) (Nat.le_of_eq rfl) (hb hby own_d4_118) (by decide) (by decide) (by decide) (by decide)
  obtain ⟨rs, rv, rk, rfl, N8, Et8, Er, Fv_, Fc_, Vr⟩ := hQ8
  have hk8 := Nat.le_trans hk7 Et8.1
  have O8 := own_extt O7 Et8
  have V_bV_8 := Vb3.ext Et8
  have Ex_b3_8 := Ex_b3_7.ext Et8
  have F_value_b3_8 := R1.ext Et8
  have F_coder_b3_8 := R2.ext Et8
  have F_count_b3_8 := R3.ext Et8
  have F_maybeLatin1_b3_8 := R4.ext Et8
  have N8' := Fr.app N7' N8
  refine own_st st8 ?_
  exact own_retAW X8 hS hk8 hx hret rfl hlk rfl (hb hby own_d4_121) ⟨rs, rv, rk, rfl, N8', O8, Er, Fv_, Fc_, Vr, own_ibw (s := s) hI5 X8.warmed⟩ (by decide) (by decide)
def own_tA13_Q (Z : State) (a1 : Addr) (cs : Int32) (fm : Value) (h0 : Heap) (n0 : Nat) (v : Option Value) (h : Heap) (vm : Vm) (L : List Loc) : Prop := ∃ b bv k, v = some (.ref b) ∧ Fr n0 L ∧ Ext h0 h ∧ Exa Z h b "java/lang/String" ∧ Fld Z h b "java/lang/String" "value" "[B" (.ref bv) ∧ Fld Z h b "java/lang/String" "coder" "B" (.int 0) ∧ Arv Z h bv k .byte (7 : Int32) [(.int 92), (.int 114), (.int 101), (.int 116), (.int 117), (.int 114), (.int 110)] (.int 0) ∧ IB Z vm ["\\", "return"]
set_option maxRecDepth 65536 in
set_option maxHeartbeats 40000000 in
theorem own_tA13 (l : Launch) {Z : State} {a0 : Array Value} (hw : own_W Z a0) (ws : List Jvm.Cond) (a1 : Addr) (cs : Int32) (fm : Value) (h0 : Heap) (n0 : Nat) (Z0 : n0 ≤ h0.size) (hn0 : n0 = h0.size) (hcw : Jvm.Lit.compactW.before a0 Z = true) (hh15 : Jvm.Lit.constHeld Z "com/example/isoscope/isoscope/Edn$Char" 15) (hh34 : Jvm.Lit.constHeld Z "com/example/isoscope/isoscope/Edn$Char" 34) (zn : Z.heap.size ≤ n0) (OZ : Ext Z.heap h0) (Scs : Sta Z Z.heap "java/lang/String" "COMPACT_STRINGS" "Z" (.int cs)) (hcs : ¬ cs = 0) (Sad : Sta Z Z.heap "java/lang/StringUTF16" "$assertionsDisabled" "Z" (.int 1)) (Shi : Sta Z Z.heap "java/lang/StringUTF16" "HI_BYTE_SHIFT" "I" (.int 0)) (Slo : Sta Z Z.heap "java/lang/StringUTF16" "LO_BYTE_SHIFT" "I" (.int 8)) (Sfm : Sta Z Z.heap "jdk/internal/util/Preconditions" "SIOOBE_FORMATTER" "Ljava/util/function/BiFunction;" fm) (hfm : fm.isRef = true) (Ec : Exa Z h0 a1 "com/example/isoscope/isoscope/Edn$Char") (Fp : Fld Z h0 a1 "com/example/isoscope/isoscope/Edn$Char" "codePoint" "I" (.int 13)) :
    MetFree l (⟨"com/example/isoscope/isoscope/Edn$Char", "toString", "()Ljava/lang/String;"⟩ : MethodName) (head1 (Jvm.Cond.code (⟨"com/example/isoscope/isoscope/Edn$Char", "toString", "()Ljava/lang/String;"⟩ : MethodName) prog_8_method_2_code 2 (some (.object "java/lang/String")) :: ws) ({ frames := 6, cells := 8, slots := 76, locals := 91 } : Room)) (fun a U => a = #[(.ref a1)] ∧ Z.Warmed39 U.vm ∧ U.heap = h0 ∧ (fun vm => IB Z vm []) U.vm) (fun _ _ _ _ _ => True) (fun _ U o U' => ∃ v L, o = .returned v ∧ own_tA13_Q Z a1 cs fm h0 n0 v U'.heap U'.vm L ∧ ReturnedEndW U o U' L ({ frames := 6, cells := 8, slots := 76, locals := 91 } : Room).cells ({ frames := 6, cells := 8, slots := 76, locals := 91 } : Room).slots) := by
  refine own_enterW (J := fun vm => IB Z vm []) (C := ({ frames := 6, cells := 8, slots := 76, locals := 91 } : Room).cells) (S := ({ frames := 6, cells := 8, slots := 76, locals := 91 } : Room).slots) (plainFor_of_name own_pn1) ?_
  intro p e s m below meth c T0 X0 I e0 es hJ hS
  obtain ⟨hx, hby, hml, hown, hnm, hret, hlk, hZ⟩ := I
  have N0 := Fr.nil n0
  have O0 := own_extr h0
  have hk0 : 0 ≤ h0.size := Nat.zero_le _
  refine own_cast (own_ef4 m a1) ?_
  show own_Go _ _ _ _ T0 (mkF m 0 #[.val (.ref a1), .unset] [])
  refine own_st (fun _ k => XS.aloadN X0.here hx rfl (hb hby own_d4_0) rfl rfl k) ?_
  obtain ⟨T1, X1, e1, st1⟩ := getF X0 hx hZ hown (host := "") (Or.inl (own_w14 hw)) Via.refl e0 (Fp.ext O0) (g := (mkF m 1 #[.val (.ref a1), .unset] [(.ref a1)])) rfl rfl (hb hby own_d4_1)
  refine own_st st1 ?_
  refine own_st (Stand.lookupswitchHit X1 hx (g := (mkF m 4 #[.val (.ref a1), .unset] [(.int 13)])) rfl rfl (hb hby own_d4_4) (by decide) (a := 13) (off := 65) (by decide) (by show (0 : Int) ≤ ((4 : Nat) : Int) + 65; decide)) ?_
  show own_Go _ _ _ _ T1 (mkF m 69 #[.val (.ref a1), .unset] [])
  obtain ⟨sa2, T2, hp2, ks2, sb2, kb2, X2, e2, Et2, hS, hkx2, hZ, hown, Es2, Fc2, Fv2, Vs2, la2, lb2, hI2, hL2, st2⟩ := ldcSVL X1 hx hZ hown (own_w274 hw) (own_wS hw) e1 hS hk0 (by rw [es, ← hn0]; exact N0) (fun b cl q => by rw [es]; exact OZ.2 b cl q) hJ (by decide) hh15 hcw (vs := [(.int 114), (.int 101), (.int 116), (.int 117), (.int 114), (.int 110)]) (z := (6 : Int32)) ⟨by decide, rfl⟩ (by decide) (by decide) (g := (mkF m 69 #[.val (.ref a1), .unset] [])) rfl (hb hby own_d4_69) (n := 24) (by decide) (by decide) (by decide) (by decide)
  have hk2 := Nat.le_trans hk0 Et2.1
  have O2 := own_extt O0 Et2
  refine own_st st2 ?_
  refine own_st (fun _ k => XS.goto X2.here hx rfl (pc0 := 71) (pc' := 101) rfl (hb hby own_d4_71) (by decide) (by decide) k) ?_
  refine own_st (fun _ k => XS.astoreN X2.here hx rfl (hb hby own_d4_101) rfl rfl (l' := #[.val (.ref a1), .val (.ref sa2)]) rfl k) ?_
  obtain ⟨T3, hp3, X3, e3, Et3, A3, D3, -, st3⟩ := newO X2 hx hZ hown (own_w29 hw) (own_w30 hw) (own_w31 hw) e2 (g := (mkF m 102 #[.val (.ref a1), .val (.ref sa2)] [])) rfl (hb hby own_d4_102) (by decide) (by decide)
  obtain ⟨b3, g3⟩ : ∃ z, z = hp2.size := ⟨_, rfl⟩
  rw [← g3] at A3 D3 st3
  have s_b3 : h0.size ≤ b3 := Nat.le_trans O2.1 (Nat.le_of_eq g3.symm)
  have g_b3 : n0 ≤ b3 := Nat.le_trans Z0 s_b3
  have lt_sa2_b3 : sa2 < b3 := Nat.lt_of_lt_of_le Es2.lt (Nat.le_of_eq g3.symm)
  have lt_sb2_b3 : sb2 < b3 := Nat.lt_of_lt_of_le Vs2.lt (Nat.le_of_eq g3.symm)
  have hk3 := Nat.le_trans hkx2 Et3.1
  have O3 := own_extt O2 Et3
  have V_sb2_3 := Vs2.ext Et3
  have Ex_sa2_3 := Es2.ext Et3
  have F_value_sa2_3 := Fv2.ext Et3
  have F_coder_sa2_3 := Fc2.ext Et3
  have F_value_b3 : Fld Z hp3 b3 "java/lang/AbstractStringBuilder" "value" "[B" .null := D3 (Or.inl (own_w44 hw)) (ty := (.array .byte)) (by decide)
  have F_coder_b3 : Fld Z hp3 b3 "java/lang/AbstractStringBuilder" "coder" "B" (.int 0) := D3 (Or.inl (own_w46 hw)) (ty := .byte) (by decide)
  have F_count_b3 : Fld Z hp3 b3 "java/lang/AbstractStringBuilder" "count" "I" (.int 0) := D3 (Or.inl (own_w72 hw)) (ty := .int) (by decide)
  have F_maybeLatin1_b3 : Fld Z hp3 b3 "java/lang/AbstractStringBuilder" "maybeLatin1" "Z" (.int 0) := D3 (Or.inl (own_w259 hw)) (ty := .boolean) (by decide)
  refine own_st st3 ?_
  refine own_st (fun _ k => XS.dup X3.here hx rfl (hb hby own_d4_105) rfl rfl k) ?_
  obtain ⟨v4, T4, L4, hQ4, X4, st4⟩ := own_callI X3 hx hZ (y := (⟨"java/lang/StringBuilder", "<init>", "()V"⟩ : MethodName)) rfl hown (own_w32 hw) (own_w33 hw) (own_w31 hw) (own_w34 hw) (by decide) (own_bi l hw [] b3 cs hp3 n0 (Nat.le_trans Z0 O3.1) zn (own_extt OZ O3) Scs hcs g_b3 A3 F_value_b3 F_coder_b3 F_count_b3 F_maybeLatin1_b3) e3 (g := (mkF m 106 #[.val (.ref a1), .val (.ref sa2)] [(.ref b3), (.ref b3)])) rfl (by rw [hml]; rfl) (argsL := []) (rest := [(.ref b3)]) (lenOf own_pd0 rfl) rfl rfl (W := 1) (Nat.le_of_eq rfl) (hb hby own_d4_106) (by decide) (by decide) (by decide) (by decide)
  obtain ⟨rfl, N4, K4, bV, bK, g_bV, sbv, G1, G2, G3, G4, Vb⟩ := hQ4
  have s_bV : h0.size ≤ bV := Nat.le_trans O3.1 sbv
  have ne_sa2_bV : sa2 ≠ bV := Nat.ne_of_lt (Nat.lt_of_lt_of_le Ex_sa2_3.lt sbv)
  have ne_sb2_bV : sb2 ≠ bV := Nat.ne_of_lt (Nat.lt_of_lt_of_le V_sb2_3.lt sbv)
  have ne_b3_bV : b3 ≠ bV := Nat.ne_of_lt (Nat.lt_of_lt_of_le A3.lt sbv)
  have O4 := own_extk O3 K4 s_b3
  have hk4 := Nat.le_trans hk3 K4.1
  have V_sb2_4 := V_sb2_3.keep K4 (ninS (Nat.ne_of_lt lt_sb2_b3) nin0)
  have Ex_sa2_4 := Ex_sa2_3.keep K4
  have Ex_b3_4 := A3.keep K4
  have F_value_sa2_4 := F_value_sa2_3.keep K4 (ninS (Nat.ne_of_lt lt_sa2_b3) nin0)
  have F_coder_sa2_4 := F_coder_sa2_3.keep K4 (ninS (Nat.ne_of_lt lt_sa2_b3) nin0)
  have N4' := Fr.app N0 N4
  refine own_st st4 ?_
  obtain ⟨sa5, T5, hp5, ks5, sb5, kb5, X5, e5, Et5, hS, hkx5, hZ, hown, Es5, Fc5, Fv5, Vs5, la5, lb5, hI5, hL5, st5⟩ := ldcSVL X4 hx hZ hown (own_w47 hw) (own_wS hw) rfl hS hk4 (by rw [es, ← hn0]; exact N4') (fun b cl q => by rw [es]; exact OZ.2 b cl q) hI2 (by decide) hh34 hcw (vs := [(.int 92)]) (z := (1 : Int32)) ⟨by decide, rfl⟩ (by decide) (by decide) (g := (mkF m 109 #[.val (.ref a1), .val (.ref sa2)] [(.ref b3)])) rfl (hb hby own_d4_109) (n := 4) (by decide) (by decide) (by decide) (by decide)
  have hk5 := Nat.le_trans hk4 Et5.1
  have O5 := own_extt O4 Et5
  have V_sb2_5 := V_sb2_4.ext Et5
  have V_bV_5 := Vb.ext Et5
  have Ex_sa2_5 := Ex_sa2_4.ext Et5
  have Ex_b3_5 := Ex_b3_4.ext Et5
  have F_value_sa2_5 := F_value_sa2_4.ext Et5
  have F_coder_sa2_5 := F_coder_sa2_4.ext Et5
  have F_value_b3_5 := G1.ext Et5
  have F_coder_b3_5 := G2.ext Et5
  have F_count_b3_5 := G3.ext Et5
  have F_maybeLatin1_b3_5 := G4.ext Et5
  refine own_st st5 ?_
  obtain ⟨v6, T6, L6, hQ6, X6, st6⟩ := own_callV X5 hx hZ (y := (⟨"java/lang/StringBuilder", "append", "(Ljava/lang/String;)Ljava/lang/StringBuilder;"⟩ : MethodName)) hown (own_w48 hw) (own_w49 hw) (own_w51 hw) (own_w50 hw) (own_w31 hw) (own_w52 hw) (by decide) (own_sap0 l hw [] b3 bV bK [(.int 0), (.int 0), (.int 0), (.int 0), (.int 0), (.int 0), (.int 0), (.int 0), (.int 0), (.int 0), (.int 0), (.int 0), (.int 0), (.int 0), (.int 0), (.int 0)] sa5 sb5 kb5 [(.int 92)] [(.int 92), (.int 0), (.int 0), (.int 0), (.int 0), (.int 0), (.int 0), (.int 0), (.int 0), (.int 0), (.int 0), (.int 0), (.int 0), (.int 0), (.int 0), (.int 0)] (0 : Int32) (0 : Int32) cs (1 : Int32) (1 : Int32) hp5 n0 (Nat.le_trans Z0 O5.1) (by decide) (by decide) zn (own_extt OZ O5) Scs hcs (by decide) g_b3 g_bV Ex_b3_5 F_value_b3_5 F_coder_b3_5 F_count_b3_5 F_maybeLatin1_b3_5 V_bV_5 Es5 Fv5 Fc5 Vs5 (by decide) (by decide) (by decide) (by decide) rfl) e5 Ex_b3_5 (g := (mkF m 111 #[.val (.ref a1), .val (.ref sa2)] [(.ref sa5), (.ref b3)])) rfl (by rw [hml]; rfl) (argsL := [(.ref sa5)]) (rest := []) (lenOf own_pd32 rfl) rfl rfl (W := 0) (Nat.le_of_eq rfl) (hb hby own_d4_111) (by decide) (by decide) (by decide) (by decide)
  obtain ⟨rfl, N6, K6, P1, P2, P3, P4, Vb2⟩ := hQ6
  have O6 := own_extkl O5 K6 (allS s_b3 (allS s_bV all0))
  have hk6 := Nat.le_trans hkx5 K6.1
  have V_sb2_6 := V_sb2_5.keep K6 (ninS (Nat.ne_of_lt lt_sb2_b3) (ninS ne_sb2_bV nin0))
  have Ex_sa2_6 := Ex_sa2_5.keep K6
  have Ex_b3_6 := Ex_b3_5.keep K6
  have F_value_sa2_6 := F_value_sa2_5.keep K6 (ninS (Nat.ne_of_lt lt_sa2_b3) (ninS ne_sa2_bV nin0))
  have F_coder_sa2_6 := F_coder_sa2_5.keep K6 (ninS (Nat.ne_of_lt lt_sa2_b3) (ninS ne_sa2_bV nin0))
  have N6' := Fr.app N4' N6
  refine own_st st6 ?_
  show own_Go _ _ _ _ T6 (mkF m 114 #[.val (.ref a1), .val (.ref sa2)] [(.ref b3)])
  refine own_st (fun _ k => XS.aloadN X6.here hx rfl (hb hby own_d4_114) rfl rfl k) ?_
  have P3 : Fld Z T6.heap b3 "java/lang/AbstractStringBuilder" "count" "I" (.int 1) := P3
  obtain ⟨v7, T7, L7, hQ7, X7, st7⟩ := own_callV X6 hx hZ (y := (⟨"java/lang/StringBuilder", "append", "(Ljava/lang/String;)Ljava/lang/StringBuilder;"⟩ : MethodName)) hown (own_w48 hw) (own_w49 hw) (own_w51 hw) (own_w50 hw) (own_w31 hw) (own_w52 hw) (by decide) (own_sap0 l hw [] b3 bV bK [(.int 92), (.int 0), (.int 0), (.int 0), (.int 0), (.int 0), (.int 0), (.int 0), (.int 0), (.int 0), (.int 0), (.int 0), (.int 0), (.int 0), (.int 0), (.int 0)] sa2 sb2 kb2 [(.int 114), (.int 101), (.int 116), (.int 117), (.int 114), (.int 110)] [(.int 92), (.int 114), (.int 101), (.int 116), (.int 117), (.int 114), (.int 110), (.int 0), (.int 0), (.int 0), (.int 0), (.int 0), (.int 0), (.int 0), (.int 0), (.int 0)] (1 : Int32) (1 : Int32) cs (6 : Int32) (6 : Int32) T6.heap n0 (Nat.le_trans Z0 O6.1) (by decide) (by decide) zn (own_extt OZ O6) Scs hcs (by decide) g_b3 g_bV Ex_b3_6 P1 P2 P3 P4 Vb2 Ex_sa2_6 F_value_sa2_6 F_coder_sa2_6 V_sb2_6 (by decide) (by decide) (by decide) (by decide) rfl) rfl Ex_b3_6 (g := (mkF m 115 #[.val (.ref a1), .val (.ref sa2)] [(.ref sa2), (.ref b3)])) rfl (by rw [hml]; rfl) (argsL := [(.ref sa2)]) (rest := []) (lenOf own_pd32 rfl) rfl rfl (W := 0) (Nat.le_of_eq rfl) (hb hby own_d4_115) (by decide) (by decide) (by decide) (by decide)
  obtain ⟨rfl, N7, K7, R1, R2, R3, R4, Vb3⟩ := hQ7
  have O7 := own_extkl O6 K7 (allS s_b3 (allS s_bV all0))
  have hk7 := Nat.le_trans hk6 K7.1
  have Ex_b3_7 := Ex_b3_6.keep K7
  have N7' := Fr.app N6' N7
  refine own_st st7 ?_
  have R3 : Fld Z T7.heap b3 "java/lang/AbstractStringBuilder" "count" "I" (.int 7) := R3
  show own_Go _ _ _ _ T7 (mkF m 118 #[.val (.ref a1), .val (.ref sa2)] [(.ref b3)])
  obtain ⟨v8, T8, L8, hQ8, X8, st8⟩ := own_callV X7 hx hZ (y := (⟨"java/lang/StringBuilder", "toString", "()Ljava/lang/String;"⟩ : MethodName)) hown (own_w98 hw) (own_w99 hw) (own_w101 hw) (own_w100 hw) (own_w31 hw) (own_w102 hw) (by decide) (own_tos0 l hw [] b3 bV bK [(.int 92), (.int 114), (.int 101), (.int 116), (.int 117), (.int 114), (.int 110), (.int 0), (.int 0), (.int 0), (.int 0), (.int 0), (.int 0), (.int 0), (.int 0), (.int 0)] (7 : Int32) (7 : Int32) cs T7.heap n0 (Nat.le_trans Z0 O7.1) zn (own_extt OZ O7) Scs hcs rfl (by decide) (by decide) (by decide) (by decide) Ex_b3_7 R1 R2 R3 R4 Vb3) rfl Ex_b3_7 (g := (mkF m 118 #[.val (.ref a1), .val (.ref sa2)] [(.ref b3)])) rfl (by rw [hml]; rfl) (argsL := []) (rest := []) (lenOf own_pd33 rfl) rfl rfl (W := 0) (Nat.le_of_eq rfl) (hb hby own_d4_118) (by decide) (by decide) (by decide) (by decide)
  obtain ⟨rs, rv, rk, rfl, N8, Et8, Er, Fv_, Fc_, Vr⟩ := hQ8
  have hk8 := Nat.le_trans hk7 Et8.1
  have O8 := own_extt O7 Et8
  have V_bV_8 := Vb3.ext Et8
  have Ex_b3_8 := Ex_b3_7.ext Et8
  have F_value_b3_8 := R1.ext Et8
  have F_coder_b3_8 := R2.ext Et8
  have F_count_b3_8 := R3.ext Et8
  have F_maybeLatin1_b3_8 := R4.ext Et8
  have N8' := Fr.app N7' N8
  refine own_st st8 ?_
  exact own_retAW X8 hS hk8 hx hret rfl hlk rfl (hb hby own_d4_121) ⟨rs, rv, rk, rfl, N8', O8, Er, Fv_, Fc_, Vr, own_ibw (s := s) hI5 X8.warmed⟩ (by decide) (by decide)
def own_tA32_Q (Z : State) (a1 : Addr) (cs : Int32) (fm : Value) (h0 : Heap) (n0 : Nat) (v : Option Value) (h : Heap) (vm : Vm) (L : List Loc) : Prop := ∃ b bv k, v = some (.ref b) ∧ Fr n0 L ∧ Ext h0 h ∧ Exa Z h b "java/lang/String" ∧ Fld Z h b "java/lang/String" "value" "[B" (.ref bv) ∧ Fld Z h b "java/lang/String" "coder" "B" (.int 0) ∧ Arv Z h bv k .byte (6 : Int32) [(.int 92), (.int 115), (.int 112), (.int 97), (.int 99), (.int 101)] (.int 0) ∧ IB Z vm ["\\", "space"]
set_option maxRecDepth 65536 in
set_option maxHeartbeats 40000000 in
theorem own_tA32 (l : Launch) {Z : State} {a0 : Array Value} (hw : own_W Z a0) (ws : List Jvm.Cond) (a1 : Addr) (cs : Int32) (fm : Value) (h0 : Heap) (n0 : Nat) (Z0 : n0 ≤ h0.size) (hn0 : n0 = h0.size) (hcw : Jvm.Lit.compactW.before a0 Z = true) (hh17 : Jvm.Lit.constHeld Z "com/example/isoscope/isoscope/Edn$Char" 17) (hh34 : Jvm.Lit.constHeld Z "com/example/isoscope/isoscope/Edn$Char" 34) (zn : Z.heap.size ≤ n0) (OZ : Ext Z.heap h0) (Scs : Sta Z Z.heap "java/lang/String" "COMPACT_STRINGS" "Z" (.int cs)) (hcs : ¬ cs = 0) (Sad : Sta Z Z.heap "java/lang/StringUTF16" "$assertionsDisabled" "Z" (.int 1)) (Shi : Sta Z Z.heap "java/lang/StringUTF16" "HI_BYTE_SHIFT" "I" (.int 0)) (Slo : Sta Z Z.heap "java/lang/StringUTF16" "LO_BYTE_SHIFT" "I" (.int 8)) (Sfm : Sta Z Z.heap "jdk/internal/util/Preconditions" "SIOOBE_FORMATTER" "Ljava/util/function/BiFunction;" fm) (hfm : fm.isRef = true) (Ec : Exa Z h0 a1 "com/example/isoscope/isoscope/Edn$Char") (Fp : Fld Z h0 a1 "com/example/isoscope/isoscope/Edn$Char" "codePoint" "I" (.int 32)) :
    MetFree l (⟨"com/example/isoscope/isoscope/Edn$Char", "toString", "()Ljava/lang/String;"⟩ : MethodName) (head1 (Jvm.Cond.code (⟨"com/example/isoscope/isoscope/Edn$Char", "toString", "()Ljava/lang/String;"⟩ : MethodName) prog_8_method_2_code 2 (some (.object "java/lang/String")) :: ws) ({ frames := 6, cells := 8, slots := 72, locals := 91 } : Room)) (fun a U => a = #[(.ref a1)] ∧ Z.Warmed39 U.vm ∧ U.heap = h0 ∧ (fun vm => IB Z vm []) U.vm) (fun _ _ _ _ _ => True) (fun _ U o U' => ∃ v L, o = .returned v ∧ own_tA32_Q Z a1 cs fm h0 n0 v U'.heap U'.vm L ∧ ReturnedEndW U o U' L ({ frames := 6, cells := 8, slots := 72, locals := 91 } : Room).cells ({ frames := 6, cells := 8, slots := 72, locals := 91 } : Room).slots) := by
  refine own_enterW (J := fun vm => IB Z vm []) (C := ({ frames := 6, cells := 8, slots := 72, locals := 91 } : Room).cells) (S := ({ frames := 6, cells := 8, slots := 72, locals := 91 } : Room).slots) (plainFor_of_name own_pn1) ?_
  intro p e s m below meth c T0 X0 I e0 es hJ hS
  obtain ⟨hx, hby, hml, hown, hnm, hret, hlk, hZ⟩ := I
  have N0 := Fr.nil n0
  have O0 := own_extr h0
  have hk0 : 0 ≤ h0.size := Nat.zero_le _
  refine own_cast (own_ef4 m a1) ?_
  show own_Go _ _ _ _ T0 (mkF m 0 #[.val (.ref a1), .unset] [])
  refine own_st (fun _ k => XS.aloadN X0.here hx rfl (hb hby own_d4_0) rfl rfl k) ?_
  obtain ⟨T1, X1, e1, st1⟩ := getF X0 hx hZ hown (host := "") (Or.inl (own_w14 hw)) Via.refl e0 (Fp.ext O0) (g := (mkF m 1 #[.val (.ref a1), .unset] [(.ref a1)])) rfl rfl (hb hby own_d4_1)
  refine own_st st1 ?_
  refine own_st (Stand.lookupswitchHit X1 hx (g := (mkF m 4 #[.val (.ref a1), .unset] [(.int 32)])) rfl rfl (hb hby own_d4_4) (by decide) (a := 32) (off := 70) (by decide) (by show (0 : Int) ≤ ((4 : Nat) : Int) + 70; decide)) ?_
  show own_Go _ _ _ _ T1 (mkF m 74 #[.val (.ref a1), .unset] [])
  obtain ⟨sa2, T2, hp2, ks2, sb2, kb2, X2, e2, Et2, hS, hkx2, hZ, hown, Es2, Fc2, Fv2, Vs2, la2, lb2, hI2, hL2, st2⟩ := ldcSVL X1 hx hZ hown (own_w276 hw) (own_wS hw) e1 hS hk0 (by rw [es, ← hn0]; exact N0) (fun b cl q => by rw [es]; exact OZ.2 b cl q) hJ (by decide) hh17 hcw (vs := [(.int 115), (.int 112), (.int 97), (.int 99), (.int 101)]) (z := (5 : Int32)) ⟨by decide, rfl⟩ (by decide) (by decide) (g := (mkF m 74 #[.val (.ref a1), .unset] [])) rfl (hb hby own_d4_74) (n := 20) (by decide) (by decide) (by decide) (by decide)
  have hk2 := Nat.le_trans hk0 Et2.1
  have O2 := own_extt O0 Et2
  refine own_st st2 ?_
  refine own_st (fun _ k => XS.goto X2.here hx rfl (pc0 := 76) (pc' := 101) rfl (hb hby own_d4_76) (by decide) (by decide) k) ?_
  refine own_st (fun _ k => XS.astoreN X2.here hx rfl (hb hby own_d4_101) rfl rfl (l' := #[.val (.ref a1), .val (.ref sa2)]) rfl k) ?_
  obtain ⟨T3, hp3, X3, e3, Et3, A3, D3, -, st3⟩ := newO X2 hx hZ hown (own_w29 hw) (own_w30 hw) (own_w31 hw) e2 (g := (mkF m 102 #[.val (.ref a1), .val (.ref sa2)] [])) rfl (hb hby own_d4_102) (by decide) (by decide)
  obtain ⟨b3, g3⟩ : ∃ z, z = hp2.size := ⟨_, rfl⟩
  rw [← g3] at A3 D3 st3
  have s_b3 : h0.size ≤ b3 := Nat.le_trans O2.1 (Nat.le_of_eq g3.symm)
  have g_b3 : n0 ≤ b3 := Nat.le_trans Z0 s_b3
  have lt_sa2_b3 : sa2 < b3 := Nat.lt_of_lt_of_le Es2.lt (Nat.le_of_eq g3.symm)
  have lt_sb2_b3 : sb2 < b3 := Nat.lt_of_lt_of_le Vs2.lt (Nat.le_of_eq g3.symm)
  have hk3 := Nat.le_trans hkx2 Et3.1
  have O3 := own_extt O2 Et3
  have V_sb2_3 := Vs2.ext Et3
  have Ex_sa2_3 := Es2.ext Et3
  have F_value_sa2_3 := Fv2.ext Et3
  have F_coder_sa2_3 := Fc2.ext Et3
  have F_value_b3 : Fld Z hp3 b3 "java/lang/AbstractStringBuilder" "value" "[B" .null := D3 (Or.inl (own_w44 hw)) (ty := (.array .byte)) (by decide)
  have F_coder_b3 : Fld Z hp3 b3 "java/lang/AbstractStringBuilder" "coder" "B" (.int 0) := D3 (Or.inl (own_w46 hw)) (ty := .byte) (by decide)
  have F_count_b3 : Fld Z hp3 b3 "java/lang/AbstractStringBuilder" "count" "I" (.int 0) := D3 (Or.inl (own_w72 hw)) (ty := .int) (by decide)
  have F_maybeLatin1_b3 : Fld Z hp3 b3 "java/lang/AbstractStringBuilder" "maybeLatin1" "Z" (.int 0) := D3 (Or.inl (own_w259 hw)) (ty := .boolean) (by decide)
  refine own_st st3 ?_
  refine own_st (fun _ k => XS.dup X3.here hx rfl (hb hby own_d4_105) rfl rfl k) ?_
  obtain ⟨v4, T4, L4, hQ4, X4, st4⟩ := own_callI X3 hx hZ (y := (⟨"java/lang/StringBuilder", "<init>", "()V"⟩ : MethodName)) rfl hown (own_w32 hw) (own_w33 hw) (own_w31 hw) (own_w34 hw) (by decide) (own_bi l hw [] b3 cs hp3 n0 (Nat.le_trans Z0 O3.1) zn (own_extt OZ O3) Scs hcs g_b3 A3 F_value_b3 F_coder_b3 F_count_b3 F_maybeLatin1_b3) e3 (g := (mkF m 106 #[.val (.ref a1), .val (.ref sa2)] [(.ref b3), (.ref b3)])) rfl (by rw [hml]; rfl) (argsL := []) (rest := [(.ref b3)]) (lenOf own_pd0 rfl) rfl rfl (W := 1) (Nat.le_of_eq rfl) (hb hby own_d4_106) (by decide) (by decide) (by decide) (by decide)
  obtain ⟨rfl, N4, K4, bV, bK, g_bV, sbv, G1, G2, G3, G4, Vb⟩ := hQ4
  have s_bV : h0.size ≤ bV := Nat.le_trans O3.1 sbv
  have ne_sa2_bV : sa2 ≠ bV := Nat.ne_of_lt (Nat.lt_of_lt_of_le Ex_sa2_3.lt sbv)
  have ne_sb2_bV : sb2 ≠ bV := Nat.ne_of_lt (Nat.lt_of_lt_of_le V_sb2_3.lt sbv)
  have ne_b3_bV : b3 ≠ bV := Nat.ne_of_lt (Nat.lt_of_lt_of_le A3.lt sbv)
  have O4 := own_extk O3 K4 s_b3
  have hk4 := Nat.le_trans hk3 K4.1
  have V_sb2_4 := V_sb2_3.keep K4 (ninS (Nat.ne_of_lt lt_sb2_b3) nin0)
  have Ex_sa2_4 := Ex_sa2_3.keep K4
  have Ex_b3_4 := A3.keep K4
  have F_value_sa2_4 := F_value_sa2_3.keep K4 (ninS (Nat.ne_of_lt lt_sa2_b3) nin0)
  have F_coder_sa2_4 := F_coder_sa2_3.keep K4 (ninS (Nat.ne_of_lt lt_sa2_b3) nin0)
  have N4' := Fr.app N0 N4
  refine own_st st4 ?_
  obtain ⟨sa5, T5, hp5, ks5, sb5, kb5, X5, e5, Et5, hS, hkx5, hZ, hown, Es5, Fc5, Fv5, Vs5, la5, lb5, hI5, hL5, st5⟩ := ldcSVL X4 hx hZ hown (own_w47 hw) (own_wS hw) rfl hS hk4 (by rw [es, ← hn0]; exact N4') (fun b cl q => by rw [es]; exact OZ.2 b cl q) hI2 (by decide) hh34 hcw (vs := [(.int 92)]) (z := (1 : Int32)) ⟨by decide, rfl⟩ (by decide) (by decide) (g := (mkF m 109 #[.val (.ref a1), .val (.ref sa2)] [(.ref b3)])) rfl (hb hby own_d4_109) (n := 4) (by decide) (by decide) (by decide) (by decide)
  have hk5 := Nat.le_trans hk4 Et5.1
  have O5 := own_extt O4 Et5
  have V_sb2_5 := V_sb2_4.ext Et5
  have V_bV_5 := Vb.ext Et5
  have Ex_sa2_5 := Ex_sa2_4.ext Et5
  have Ex_b3_5 := Ex_b3_4.ext Et5
  have F_value_sa2_5 := F_value_sa2_4.ext Et5
  have F_coder_sa2_5 := F_coder_sa2_4.ext Et5
  have F_value_b3_5 := G1.ext Et5
  have F_coder_b3_5 := G2.ext Et5
  have F_count_b3_5 := G3.ext Et5
  have F_maybeLatin1_b3_5 := G4.ext Et5
  refine own_st st5 ?_
  obtain ⟨v6, T6, L6, hQ6, X6, st6⟩ := own_callV X5 hx hZ (y := (⟨"java/lang/StringBuilder", "append", "(Ljava/lang/String;)Ljava/lang/StringBuilder;"⟩ : MethodName)) hown (own_w48 hw) (own_w49 hw) (own_w51 hw) (own_w50 hw) (own_w31 hw) (own_w52 hw) (by decide) (own_sap0 l hw [] b3 bV bK [(.int 0), (.int 0), (.int 0), (.int 0), (.int 0), (.int 0), (.int 0), (.int 0), (.int 0), (.int 0), (.int 0), (.int 0), (.int 0), (.int 0), (.int 0), (.int 0)] sa5 sb5 kb5 [(.int 92)] [(.int 92), (.int 0), (.int 0), (.int 0), (.int 0), (.int 0), (.int 0), (.int 0), (.int 0), (.int 0), (.int 0), (.int 0), (.int 0), (.int 0), (.int 0), (.int 0)] (0 : Int32) (0 : Int32) cs (1 : Int32) (1 : Int32) hp5 n0 (Nat.le_trans Z0 O5.1) (by decide) (by decide) zn (own_extt OZ O5) Scs hcs (by decide) g_b3 g_bV Ex_b3_5 F_value_b3_5 F_coder_b3_5 F_count_b3_5 F_maybeLatin1_b3_5 V_bV_5 Es5 Fv5 Fc5 Vs5 (by decide) (by decide) (by decide) (by decide) rfl) e5 Ex_b3_5 (g := (mkF m 111 #[.val (.ref a1), .val (.ref sa2)] [(.ref sa5), (.ref b3)])) rfl (by rw [hml]; rfl) (argsL := [(.ref sa5)]) (rest := []) (lenOf own_pd32 rfl) rfl rfl (W := 0) (Nat.le_of_eq rfl) (hb hby own_d4_111) (by decide) (by decide) (by decide) (by decide)
  obtain ⟨rfl, N6, K6, P1, P2, P3, P4, Vb2⟩ := hQ6
  have O6 := own_extkl O5 K6 (allS s_b3 (allS s_bV all0))
  have hk6 := Nat.le_trans hkx5 K6.1
  have V_sb2_6 := V_sb2_5.keep K6 (ninS (Nat.ne_of_lt lt_sb2_b3) (ninS ne_sb2_bV nin0))
  have Ex_sa2_6 := Ex_sa2_5.keep K6
  have Ex_b3_6 := Ex_b3_5.keep K6
  have F_value_sa2_6 := F_value_sa2_5.keep K6 (ninS (Nat.ne_of_lt lt_sa2_b3) (ninS ne_sa2_bV nin0))
  have F_coder_sa2_6 := F_coder_sa2_5.keep K6 (ninS (Nat.ne_of_lt lt_sa2_b3) (ninS ne_sa2_bV nin0))
  have N6' := Fr.app N4' N6
  refine own_st st6 ?_
  show own_Go _ _ _ _ T6 (mkF m 114 #[.val (.ref a1), .val (.ref sa2)] [(.ref b3)])
  refine own_st (fun _ k => XS.aloadN X6.here hx rfl (hb hby own_d4_114) rfl rfl k) ?_
  have P3 : Fld Z T6.heap b3 "java/lang/AbstractStringBuilder" "count" "I" (.int 1) := P3
  obtain ⟨v7, T7, L7, hQ7, X7, st7⟩ := own_callV X6 hx hZ (y := (⟨"java/lang/StringBuilder", "append", "(Ljava/lang/String;)Ljava/lang/StringBuilder;"⟩ : MethodName)) hown (own_w48 hw) (own_w49 hw) (own_w51 hw) (own_w50 hw) (own_w31 hw) (own_w52 hw) (by decide) (own_sap0 l hw [] b3 bV bK [(.int 92), (.int 0), (.int 0), (.int 0), (.int 0), (.int 0), (.int 0), (.int 0), (.int 0), (.int 0), (.int 0), (.int 0), (.int 0), (.int 0), (.int 0), (.int 0)] sa2 sb2 kb2 [(.int 115), (.int 112), (.int 97), (.int 99), (.int 101)] [(.int 92), (.int 115), (.int 112), (.int 97), (.int 99), (.int 101), (.int 0), (.int 0), (.int 0), (.int 0), (.int 0), (.int 0), (.int 0), (.int 0), (.int 0), (.int 0)] (1 : Int32) (1 : Int32) cs (5 : Int32) (5 : Int32) T6.heap n0 (Nat.le_trans Z0 O6.1) (by decide) (by decide) zn (own_extt OZ O6) Scs hcs (by decide) g_b3 g_bV Ex_b3_6 P1 P2 P3 P4 Vb2 Ex_sa2_6 F_value_sa2_6 F_coder_sa2_6 V_sb2_6 (by decide) (by decide) (by decide) (by decide) rfl) rfl Ex_b3_6 (g := (mkF m 115 #[.val (.ref a1), .val (.ref sa2)] [(.ref sa2), (.ref b3)])) rfl (by rw [hml]; rfl) (argsL := [(.ref sa2)]) (rest := []) (lenOf own_pd32 rfl) rfl rfl (W := 0) (Nat.le_of_eq rfl) (hb hby own_d4_115) (by decide) (by decide) (by decide) (by decide)
  obtain ⟨rfl, N7, K7, R1, R2, R3, R4, Vb3⟩ := hQ7
  have O7 := own_extkl O6 K7 (allS s_b3 (allS s_bV all0))
  have hk7 := Nat.le_trans hk6 K7.1
  have Ex_b3_7 := Ex_b3_6.keep K7
  have N7' := Fr.app N6' N7
  refine own_st st7 ?_
  have R3 : Fld Z T7.heap b3 "java/lang/AbstractStringBuilder" "count" "I" (.int 6) := R3
  show own_Go _ _ _ _ T7 (mkF m 118 #[.val (.ref a1), .val (.ref sa2)] [(.ref b3)])
  obtain ⟨v8, T8, L8, hQ8, X8, st8⟩ := own_callV X7 hx hZ (y := (⟨"java/lang/StringBuilder", "toString", "()Ljava/lang/String;"⟩ : MethodName)) hown (own_w98 hw) (own_w99 hw) (own_w101 hw) (own_w100 hw) (own_w31 hw) (own_w102 hw) (by decide) (own_tos0 l hw [] b3 bV bK [(.int 92), (.int 115), (.int 112), (.int 97), (.int 99), (.int 101), (.int 0), (.int 0), (.int 0), (.int 0), (.int 0), (.int 0), (.int 0), (.int 0), (.int 0), (.int 0)] (6 : Int32) (6 : Int32) cs T7.heap n0 (Nat.le_trans Z0 O7.1) zn (own_extt OZ O7) Scs hcs rfl (by decide) (by decide) (by decide) (by decide) Ex_b3_7 R1 R2 R3 R4 Vb3) rfl Ex_b3_7 (g := (mkF m 118 #[.val (.ref a1), .val (.ref sa2)] [(.ref b3)])) rfl (by rw [hml]; rfl) (argsL := []) (rest := []) (lenOf own_pd33 rfl) rfl rfl (W := 0) (Nat.le_of_eq rfl) (hb hby own_d4_118) (by decide) (by decide) (by decide) (by decide)
  obtain ⟨rs, rv, rk, rfl, N8, Et8, Er, Fv_, Fc_, Vr⟩ := hQ8
  have hk8 := Nat.le_trans hk7 Et8.1
  have O8 := own_extt O7 Et8
  have V_bV_8 := Vb3.ext Et8
  have Ex_b3_8 := Ex_b3_7.ext Et8
  have F_value_b3_8 := R1.ext Et8
  have F_coder_b3_8 := R2.ext Et8
  have F_count_b3_8 := R3.ext Et8
  have F_maybeLatin1_b3_8 := R4.ext Et8
  have N8' := Fr.app N7' N8
  refine own_st st8 ?_
  exact own_retAW X8 hS hk8 hx hret rfl hlk rfl (hb hby own_d4_121) ⟨rs, rv, rk, rfl, N8', O8, Er, Fv_, Fc_, Vr, own_ibw (s := s) hI5 X8.warmed⟩ (by decide) (by decide)
def own_tA9_Q (Z : State) (a1 : Addr) (cs : Int32) (fm : Value) (h0 : Heap) (n0 : Nat) (v : Option Value) (h : Heap) (vm : Vm) (L : List Loc) : Prop := ∃ b bv k, v = some (.ref b) ∧ Fr n0 L ∧ Ext h0 h ∧ Exa Z h b "java/lang/String" ∧ Fld Z h b "java/lang/String" "value" "[B" (.ref bv) ∧ Fld Z h b "java/lang/String" "coder" "B" (.int 0) ∧ Arv Z h bv k .byte (4 : Int32) [(.int 92), (.int 116), (.int 97), (.int 98)] (.int 0) ∧ IB Z vm ["\\", "tab"]
set_option maxRecDepth 65536 in
set_option maxHeartbeats 40000000 in
theorem own_tA9 (l : Launch) {Z : State} {a0 : Array Value} (hw : own_W Z a0) (ws : List Jvm.Cond) (a1 : Addr) (cs : Int32) (fm : Value) (h0 : Heap) (n0 : Nat) (Z0 : n0 ≤ h0.size) (hn0 : n0 = h0.size) (hcw : Jvm.Lit.compactW.before a0 Z = true) (hh19 : Jvm.Lit.constHeld Z "com/example/isoscope/isoscope/Edn$Char" 19) (hh34 : Jvm.Lit.constHeld Z "com/example/isoscope/isoscope/Edn$Char" 34) (zn : Z.heap.size ≤ n0) (OZ : Ext Z.heap h0) (Scs : Sta Z Z.heap "java/lang/String" "COMPACT_STRINGS" "Z" (.int cs)) (hcs : ¬ cs = 0) (Sad : Sta Z Z.heap "java/lang/StringUTF16" "$assertionsDisabled" "Z" (.int 1)) (Shi : Sta Z Z.heap "java/lang/StringUTF16" "HI_BYTE_SHIFT" "I" (.int 0)) (Slo : Sta Z Z.heap "java/lang/StringUTF16" "LO_BYTE_SHIFT" "I" (.int 8)) (Sfm : Sta Z Z.heap "jdk/internal/util/Preconditions" "SIOOBE_FORMATTER" "Ljava/util/function/BiFunction;" fm) (hfm : fm.isRef = true) (Ec : Exa Z h0 a1 "com/example/isoscope/isoscope/Edn$Char") (Fp : Fld Z h0 a1 "com/example/isoscope/isoscope/Edn$Char" "codePoint" "I" (.int 9)) :
    MetFree l (⟨"com/example/isoscope/isoscope/Edn$Char", "toString", "()Ljava/lang/String;"⟩ : MethodName) (head1 (Jvm.Cond.code (⟨"com/example/isoscope/isoscope/Edn$Char", "toString", "()Ljava/lang/String;"⟩ : MethodName) prog_8_method_2_code 2 (some (.object "java/lang/String")) :: ws) ({ frames := 6, cells := 8, slots := 64, locals := 91 } : Room)) (fun a U => a = #[(.ref a1)] ∧ Z.Warmed39 U.vm ∧ U.heap = h0 ∧ (fun vm => IB Z vm []) U.vm) (fun _ _ _ _ _ => True) (fun _ U o U' => ∃ v L, o = .returned v ∧ own_tA9_Q Z a1 cs fm h0 n0 v U'.heap U'.vm L ∧ ReturnedEndW U o U' L ({ frames := 6, cells := 8, slots := 64, locals := 91 } : Room).cells ({ frames := 6, cells := 8, slots := 64, locals := 91 } : Room).slots) := by
  refine own_enterW (J := fun vm => IB Z vm []) (C := ({ frames := 6, cells := 8, slots := 64, locals := 91 } : Room).cells) (S := ({ frames := 6, cells := 8, slots := 64, locals := 91 } : Room).slots) (plainFor_of_name own_pn1) ?_
  intro p e s m below meth c T0 X0 I e0 es hJ hS
  obtain ⟨hx, hby, hml, hown, hnm, hret, hlk, hZ⟩ := I
  have N0 := Fr.nil n0
  have O0 := own_extr h0
  have hk0 : 0 ≤ h0.size := Nat.zero_le _
  refine own_cast (own_ef4 m a1) ?_
  show own_Go _ _ _ _ T0 (mkF m 0 #[.val (.ref a1), .unset] [])
  refine own_st (fun _ k => XS.aloadN X0.here hx rfl (hb hby own_d4_0) rfl rfl k) ?_
  obtain ⟨T1, X1, e1, st1⟩ := getF X0 hx hZ hown (host := "") (Or.inl (own_w14 hw)) Via.refl e0 (Fp.ext O0) (g := (mkF m 1 #[.val (.ref a1), .unset] [(.ref a1)])) rfl rfl (hb hby own_d4_1)
  refine own_st st1 ?_
  refine own_st (Stand.lookupswitchHit X1 hx (g := (mkF m 4 #[.val (.ref a1), .unset] [(.int 9)])) rfl rfl (hb hby own_d4_4) (by decide) (a := 9) (off := 75) (by decide) (by show (0 : Int) ≤ ((4 : Nat) : Int) + 75; decide)) ?_
  show own_Go _ _ _ _ T1 (mkF m 79 #[.val (.ref a1), .unset] [])
  obtain ⟨sa2, T2, hp2, ks2, sb2, kb2, X2, e2, Et2, hS, hkx2, hZ, hown, Es2, Fc2, Fv2, Vs2, la2, lb2, hI2, hL2, st2⟩ := ldcSVL X1 hx hZ hown (own_w272 hw) (own_wS hw) e1 hS hk0 (by rw [es, ← hn0]; exact N0) (fun b cl q => by rw [es]; exact OZ.2 b cl q) hJ (by decide) hh19 hcw (vs := [(.int 116), (.int 97), (.int 98)]) (z := (3 : Int32)) ⟨by decide, rfl⟩ (by decide) (by decide) (g := (mkF m 79 #[.val (.ref a1), .unset] [])) rfl (hb hby own_d4_79) (n := 12) (by decide) (by decide) (by decide) (by decide)
  have hk2 := Nat.le_trans hk0 Et2.1
  have O2 := own_extt O0 Et2
  refine own_st st2 ?_
  refine own_st (fun _ k => XS.goto X2.here hx rfl (pc0 := 81) (pc' := 101) rfl (hb hby own_d4_81) (by decide) (by decide) k) ?_
  refine own_st (fun _ k => XS.astoreN X2.here hx rfl (hb hby own_d4_101) rfl rfl (l' := #[.val (.ref a1), .val (.ref sa2)]) rfl k) ?_
  obtain ⟨T3, hp3, X3, e3, Et3, A3, D3, -, st3⟩ := newO X2 hx hZ hown (own_w29 hw) (own_w30 hw) (own_w31 hw) e2 (g := (mkF m 102 #[.val (.ref a1), .val (.ref sa2)] [])) rfl (hb hby own_d4_102) (by decide) (by decide)
  obtain ⟨b3, g3⟩ : ∃ z, z = hp2.size := ⟨_, rfl⟩
  rw [← g3] at A3 D3 st3
  have s_b3 : h0.size ≤ b3 := Nat.le_trans O2.1 (Nat.le_of_eq g3.symm)
  have g_b3 : n0 ≤ b3 := Nat.le_trans Z0 s_b3
  have lt_sa2_b3 : sa2 < b3 := Nat.lt_of_lt_of_le Es2.lt (Nat.le_of_eq g3.symm)
  have lt_sb2_b3 : sb2 < b3 := Nat.lt_of_lt_of_le Vs2.lt (Nat.le_of_eq g3.symm)
  have hk3 := Nat.le_trans hkx2 Et3.1
  have O3 := own_extt O2 Et3
  have V_sb2_3 := Vs2.ext Et3
  have Ex_sa2_3 := Es2.ext Et3
  have F_value_sa2_3 := Fv2.ext Et3
  have F_coder_sa2_3 := Fc2.ext Et3
  have F_value_b3 : Fld Z hp3 b3 "java/lang/AbstractStringBuilder" "value" "[B" .null := D3 (Or.inl (own_w44 hw)) (ty := (.array .byte)) (by decide)
  have F_coder_b3 : Fld Z hp3 b3 "java/lang/AbstractStringBuilder" "coder" "B" (.int 0) := D3 (Or.inl (own_w46 hw)) (ty := .byte) (by decide)
  have F_count_b3 : Fld Z hp3 b3 "java/lang/AbstractStringBuilder" "count" "I" (.int 0) := D3 (Or.inl (own_w72 hw)) (ty := .int) (by decide)
  have F_maybeLatin1_b3 : Fld Z hp3 b3 "java/lang/AbstractStringBuilder" "maybeLatin1" "Z" (.int 0) := D3 (Or.inl (own_w259 hw)) (ty := .boolean) (by decide)
  refine own_st st3 ?_
  refine own_st (fun _ k => XS.dup X3.here hx rfl (hb hby own_d4_105) rfl rfl k) ?_
  obtain ⟨v4, T4, L4, hQ4, X4, st4⟩ := own_callI X3 hx hZ (y := (⟨"java/lang/StringBuilder", "<init>", "()V"⟩ : MethodName)) rfl hown (own_w32 hw) (own_w33 hw) (own_w31 hw) (own_w34 hw) (by decide) (own_bi l hw [] b3 cs hp3 n0 (Nat.le_trans Z0 O3.1) zn (own_extt OZ O3) Scs hcs g_b3 A3 F_value_b3 F_coder_b3 F_count_b3 F_maybeLatin1_b3) e3 (g := (mkF m 106 #[.val (.ref a1), .val (.ref sa2)] [(.ref b3), (.ref b3)])) rfl (by rw [hml]; rfl) (argsL := []) (rest := [(.ref b3)]) (lenOf own_pd0 rfl) rfl rfl (W := 1) (Nat.le_of_eq rfl) (hb hby own_d4_106) (by decide) (by decide) (by decide) (by decide)
  obtain ⟨rfl, N4, K4, bV, bK, g_bV, sbv, G1, G2, G3, G4, Vb⟩ := hQ4
  have s_bV : h0.size ≤ bV := Nat.le_trans O3.1 sbv
  have ne_sa2_bV : sa2 ≠ bV := Nat.ne_of_lt (Nat.lt_of_lt_of_le Ex_sa2_3.lt sbv)
  have ne_sb2_bV : sb2 ≠ bV := Nat.ne_of_lt (Nat.lt_of_lt_of_le V_sb2_3.lt sbv)
  have ne_b3_bV : b3 ≠ bV := Nat.ne_of_lt (Nat.lt_of_lt_of_le A3.lt sbv)
  have O4 := own_extk O3 K4 s_b3
  have hk4 := Nat.le_trans hk3 K4.1
  have V_sb2_4 := V_sb2_3.keep K4 (ninS (Nat.ne_of_lt lt_sb2_b3) nin0)
  have Ex_sa2_4 := Ex_sa2_3.keep K4
  have Ex_b3_4 := A3.keep K4
  have F_value_sa2_4 := F_value_sa2_3.keep K4 (ninS (Nat.ne_of_lt lt_sa2_b3) nin0)
  have F_coder_sa2_4 := F_coder_sa2_3.keep K4 (ninS (Nat.ne_of_lt lt_sa2_b3) nin0)
  have N4' := Fr.app N0 N4
  refine own_st st4 ?_
  obtain ⟨sa5, T5, hp5, ks5, sb5, kb5, X5, e5, Et5, hS, hkx5, hZ, hown, Es5, Fc5, Fv5, Vs5, la5, lb5, hI5, hL5, st5⟩ := ldcSVL X4 hx hZ hown (own_w47 hw) (own_wS hw) rfl hS hk4 (by rw [es, ← hn0]; exact N4') (fun b cl q => by rw [es]; exact OZ.2 b cl q) hI2 (by decide) hh34 hcw (vs := [(.int 92)]) (z := (1 : Int32)) ⟨by decide, rfl⟩ (by decide) (by decide) (g := (mkF m 109 #[.val (.ref a1), .val (.ref sa2)] [(.ref b3)])) rfl (hb hby own_d4_109) (n := 4) (by decide) (by decide) (by decide) (by decide)
  have hk5 := Nat.le_trans hk4 Et5.1
  have O5 := own_extt O4 Et5
  have V_sb2_5 := V_sb2_4.ext Et5
  have V_bV_5 := Vb.ext Et5
  have Ex_sa2_5 := Ex_sa2_4.ext Et5
  have Ex_b3_5 := Ex_b3_4.ext Et5
  have F_value_sa2_5 := F_value_sa2_4.ext Et5
  have F_coder_sa2_5 := F_coder_sa2_4.ext Et5
  have F_value_b3_5 := G1.ext Et5
  have F_coder_b3_5 := G2.ext Et5
  have F_count_b3_5 := G3.ext Et5
  have F_maybeLatin1_b3_5 := G4.ext Et5
  refine own_st st5 ?_
  obtain ⟨v6, T6, L6, hQ6, X6, st6⟩ := own_callV X5 hx hZ (y := (⟨"java/lang/StringBuilder", "append", "(Ljava/lang/String;)Ljava/lang/StringBuilder;"⟩ : MethodName)) hown (own_w48 hw) (own_w49 hw) (own_w51 hw) (own_w50 hw) (own_w31 hw) (own_w52 hw) (by decide) (own_sap0 l hw [] b3 bV bK [(.int 0), (.int 0), (.int 0), (.int 0), (.int 0), (.int 0), (.int 0), (.int 0), (.int 0), (.int 0), (.int 0), (.int 0), (.int 0), (.int 0), (.int 0), (.int 0)] sa5 sb5 kb5 [(.int 92)] [(.int 92), (.int 0), (.int 0), (.int 0), (.int 0), (.int 0), (.int 0), (.int 0), (.int 0), (.int 0), (.int 0), (.int 0), (.int 0), (.int 0), (.int 0), (.int 0)] (0 : Int32) (0 : Int32) cs (1 : Int32) (1 : Int32) hp5 n0 (Nat.le_trans Z0 O5.1) (by decide) (by decide) zn (own_extt OZ O5) Scs hcs (by decide) g_b3 g_bV Ex_b3_5 F_value_b3_5 F_coder_b3_5 F_count_b3_5 F_maybeLatin1_b3_5 V_bV_5 Es5 Fv5 Fc5 Vs5 (by decide) (by decide) (by decide) (by decide) rfl) e5 Ex_b3_5 (g := (mkF m 111 #[.val (.ref a1), .val (.ref sa2)] [(.ref sa5), (.ref b3)])) rfl (by rw [hml]; rfl) (argsL := [(.ref sa5)]) (rest := []) (lenOf own_pd32 rfl) rfl rfl (W := 0) (Nat.le_of_eq rfl) (hb hby own_d4_111) (by decide) (by decide) (by decide) (by decide)
  obtain ⟨rfl, N6, K6, P1, P2, P3, P4, Vb2⟩ := hQ6
  have O6 := own_extkl O5 K6 (allS s_b3 (allS s_bV all0))
  have hk6 := Nat.le_trans hkx5 K6.1
  have V_sb2_6 := V_sb2_5.keep K6 (ninS (Nat.ne_of_lt lt_sb2_b3) (ninS ne_sb2_bV nin0))
  have Ex_sa2_6 := Ex_sa2_5.keep K6
  have Ex_b3_6 := Ex_b3_5.keep K6
  have F_value_sa2_6 := F_value_sa2_5.keep K6 (ninS (Nat.ne_of_lt lt_sa2_b3) (ninS ne_sa2_bV nin0))
  have F_coder_sa2_6 := F_coder_sa2_5.keep K6 (ninS (Nat.ne_of_lt lt_sa2_b3) (ninS ne_sa2_bV nin0))
  have N6' := Fr.app N4' N6
  refine own_st st6 ?_
  show own_Go _ _ _ _ T6 (mkF m 114 #[.val (.ref a1), .val (.ref sa2)] [(.ref b3)])
  refine own_st (fun _ k => XS.aloadN X6.here hx rfl (hb hby own_d4_114) rfl rfl k) ?_
  have P3 : Fld Z T6.heap b3 "java/lang/AbstractStringBuilder" "count" "I" (.int 1) := P3
  obtain ⟨v7, T7, L7, hQ7, X7, st7⟩ := own_callV X6 hx hZ (y := (⟨"java/lang/StringBuilder", "append", "(Ljava/lang/String;)Ljava/lang/StringBuilder;"⟩ : MethodName)) hown (own_w48 hw) (own_w49 hw) (own_w51 hw) (own_w50 hw) (own_w31 hw) (own_w52 hw) (by decide) (own_sap0 l hw [] b3 bV bK [(.int 92), (.int 0), (.int 0), (.int 0), (.int 0), (.int 0), (.int 0), (.int 0), (.int 0), (.int 0), (.int 0), (.int 0), (.int 0), (.int 0), (.int 0), (.int 0)] sa2 sb2 kb2 [(.int 116), (.int 97), (.int 98)] [(.int 92), (.int 116), (.int 97), (.int 98), (.int 0), (.int 0), (.int 0), (.int 0), (.int 0), (.int 0), (.int 0), (.int 0), (.int 0), (.int 0), (.int 0), (.int 0)] (1 : Int32) (1 : Int32) cs (3 : Int32) (3 : Int32) T6.heap n0 (Nat.le_trans Z0 O6.1) (by decide) (by decide) zn (own_extt OZ O6) Scs hcs (by decide) g_b3 g_bV Ex_b3_6 P1 P2 P3 P4 Vb2 Ex_sa2_6 F_value_sa2_6 F_coder_sa2_6 V_sb2_6 (by decide) (by decide) (by decide) (by decide) rfl) rfl Ex_b3_6 (g := (mkF m 115 #[.val (.ref a1), .val (.ref sa2)] [(.ref sa2), (.ref b3)])) rfl (by rw [hml]; rfl) (argsL := [(.ref sa2)]) (rest := []) (lenOf own_pd32 rfl) rfl rfl (W := 0) (Nat.le_of_eq rfl) (hb hby own_d4_115) (by decide) (by decide) (by decide) (by decide)
  obtain ⟨rfl, N7, K7, R1, R2, R3, R4, Vb3⟩ := hQ7
  have O7 := own_extkl O6 K7 (allS s_b3 (allS s_bV all0))
  have hk7 := Nat.le_trans hk6 K7.1
  have Ex_b3_7 := Ex_b3_6.keep K7
  have N7' := Fr.app N6' N7
  refine own_st st7 ?_
  have R3 : Fld Z T7.heap b3 "java/lang/AbstractStringBuilder" "count" "I" (.int 4) := R3
  show own_Go _ _ _ _ T7 (mkF m 118 #[.val (.ref a1), .val (.ref sa2)] [(.ref b3)])
  obtain ⟨v8, T8, L8, hQ8, X8, st8⟩ := own_callV X7 hx hZ (y := (⟨"java/lang/StringBuilder", "toString", "()Ljava/lang/String;"⟩ : MethodName)) hown (own_w98 hw) (own_w99 hw) (own_w101 hw) (own_w100 hw) (own_w31 hw) (own_w102 hw) (by decide) (own_tos0 l hw [] b3 bV bK [(.int 92), (.int 116), (.int 97), (.int 98), (.int 0), (.int 0), (.int 0), (.int 0), (.int 0), (.int 0), (.int 0), (.int 0), (.int 0), (.int 0), (.int 0), (.int 0)] (4 : Int32) (4 : Int32) cs T7.heap n0 (Nat.le_trans Z0 O7.1) zn (own_extt OZ O7) Scs hcs rfl (by decide) (by decide) (by decide) (by decide) Ex_b3_7 R1 R2 R3 R4 Vb3) rfl Ex_b3_7 (g := (mkF m 118 #[.val (.ref a1), .val (.ref sa2)] [(.ref b3)])) rfl (by rw [hml]; rfl) (argsL := []) (rest := []) (lenOf own_pd33 rfl) rfl rfl (W := 0) (Nat.le_of_eq rfl) (hb hby own_d4_118) (by decide) (by decide) (by decide) (by decide)
  obtain ⟨rs, rv, rk, rfl, N8, Et8, Er, Fv_, Fc_, Vr⟩ := hQ8
  have hk8 := Nat.le_trans hk7 Et8.1
  have O8 := own_extt O7 Et8
  have V_bV_8 := Vb3.ext Et8
  have Ex_b3_8 := Ex_b3_7.ext Et8
  have F_value_b3_8 := R1.ext Et8
  have F_coder_b3_8 := R2.ext Et8
  have F_count_b3_8 := R3.ext Et8
  have F_maybeLatin1_b3_8 := R4.ext Et8
  have N8' := Fr.app N7' N8
  refine own_st st8 ?_
  exact own_retAW X8 hS hk8 hx hret rfl hlk rfl (hb hby own_d4_121) ⟨rs, rv, rk, rfl, N8', O8, Er, Fv_, Fc_, Vr, own_ibw (s := s) hI5 X8.warmed⟩ (by decide) (by decide)
def own_tA12_Q (Z : State) (a1 : Addr) (cs : Int32) (fm : Value) (h0 : Heap) (n0 : Nat) (v : Option Value) (h : Heap) (vm : Vm) (L : List Loc) : Prop := ∃ b bv k, v = some (.ref b) ∧ Fr n0 L ∧ Ext h0 h ∧ Exa Z h b "java/lang/String" ∧ Fld Z h b "java/lang/String" "value" "[B" (.ref bv) ∧ Fld Z h b "java/lang/String" "coder" "B" (.int 0) ∧ Arv Z h bv k .byte (9 : Int32) [(.int 92), (.int 102), (.int 111), (.int 114), (.int 109), (.int 102), (.int 101), (.int 101), (.int 100)] (.int 0) ∧ IB Z vm ["\\", "formfeed"]
set_option maxRecDepth 65536 in
set_option maxHeartbeats 40000000 in
theorem own_tA12 (l : Launch) {Z : State} {a0 : Array Value} (hw : own_W Z a0) (ws : List Jvm.Cond) (a1 : Addr) (cs : Int32) (fm : Value) (h0 : Heap) (n0 : Nat) (Z0 : n0 ≤ h0.size) (hn0 : n0 = h0.size) (hcw : Jvm.Lit.compactW.before a0 Z = true) (hh21 : Jvm.Lit.constHeld Z "com/example/isoscope/isoscope/Edn$Char" 21) (hh34 : Jvm.Lit.constHeld Z "com/example/isoscope/isoscope/Edn$Char" 34) (zn : Z.heap.size ≤ n0) (OZ : Ext Z.heap h0) (Scs : Sta Z Z.heap "java/lang/String" "COMPACT_STRINGS" "Z" (.int cs)) (hcs : ¬ cs = 0) (Sad : Sta Z Z.heap "java/lang/StringUTF16" "$assertionsDisabled" "Z" (.int 1)) (Shi : Sta Z Z.heap "java/lang/StringUTF16" "HI_BYTE_SHIFT" "I" (.int 0)) (Slo : Sta Z Z.heap "java/lang/StringUTF16" "LO_BYTE_SHIFT" "I" (.int 8)) (Sfm : Sta Z Z.heap "jdk/internal/util/Preconditions" "SIOOBE_FORMATTER" "Ljava/util/function/BiFunction;" fm) (hfm : fm.isRef = true) (Ec : Exa Z h0 a1 "com/example/isoscope/isoscope/Edn$Char") (Fp : Fld Z h0 a1 "com/example/isoscope/isoscope/Edn$Char" "codePoint" "I" (.int 12)) :
    MetFree l (⟨"com/example/isoscope/isoscope/Edn$Char", "toString", "()Ljava/lang/String;"⟩ : MethodName) (head1 (Jvm.Cond.code (⟨"com/example/isoscope/isoscope/Edn$Char", "toString", "()Ljava/lang/String;"⟩ : MethodName) prog_8_method_2_code 2 (some (.object "java/lang/String")) :: ws) ({ frames := 6, cells := 8, slots := 84, locals := 91 } : Room)) (fun a U => a = #[(.ref a1)] ∧ Z.Warmed39 U.vm ∧ U.heap = h0 ∧ (fun vm => IB Z vm []) U.vm) (fun _ _ _ _ _ => True) (fun _ U o U' => ∃ v L, o = .returned v ∧ own_tA12_Q Z a1 cs fm h0 n0 v U'.heap U'.vm L ∧ ReturnedEndW U o U' L ({ frames := 6, cells := 8, slots := 84, locals := 91 } : Room).cells ({ frames := 6, cells := 8, slots := 84, locals := 91 } : Room).slots) := by
  refine own_enterW (J := fun vm => IB Z vm []) (C := ({ frames := 6, cells := 8, slots := 84, locals := 91 } : Room).cells) (S := ({ frames := 6, cells := 8, slots := 84, locals := 91 } : Room).slots) (plainFor_of_name own_pn1) ?_
  intro p e s m below meth c T0 X0 I e0 es hJ hS
  obtain ⟨hx, hby, hml, hown, hnm, hret, hlk, hZ⟩ := I
  have N0 := Fr.nil n0
  have O0 := own_extr h0
  have hk0 : 0 ≤ h0.size := Nat.zero_le _
  refine own_cast (own_ef4 m a1) ?_
  show own_Go _ _ _ _ T0 (mkF m 0 #[.val (.ref a1), .unset] [])
  refine own_st (fun _ k => XS.aloadN X0.here hx rfl (hb hby own_d4_0) rfl rfl k) ?_
  obtain ⟨T1, X1, e1, st1⟩ := getF X0 hx hZ hown (host := "") (Or.inl (own_w14 hw)) Via.refl e0 (Fp.ext O0) (g := (mkF m 1 #[.val (.ref a1), .unset] [(.ref a1)])) rfl rfl (hb hby own_d4_1)
  refine own_st st1 ?_
  refine own_st (Stand.lookupswitchHit X1 hx (g := (mkF m 4 #[.val (.ref a1), .unset] [(.int 12)])) rfl rfl (hb hby own_d4_4) (by decide) (a := 12) (off := 80) (by decide) (by show (0 : Int) ≤ ((4 : Nat) : Int) + 80; decide)) ?_
  show own_Go _ _ _ _ T1 (mkF m 84 #[.val (.ref a1), .unset] [])
  obtain ⟨sa2, T2, hp2, ks2, sb2, kb2, X2, e2, Et2, hS, hkx2, hZ, hown, Es2, Fc2, Fv2, Vs2, la2, lb2, hI2, hL2, st2⟩ := ldcSVL X1 hx hZ hown (own_w197 hw) (own_wS hw) e1 hS hk0 (by rw [es, ← hn0]; exact N0) (fun b cl q => by rw [es]; exact OZ.2 b cl q) hJ (by decide) hh21 hcw (vs := [(.int 102), (.int 111), (.int 114), (.int 109), (.int 102), (.int 101), (.int 101), (.int 100)]) (z := (8 : Int32)) ⟨by decide, rfl⟩ (by decide) (by decide) (g := (mkF m 84 #[.val (.ref a1), .unset] [])) rfl (hb hby own_d4_84) (n := 32) (by decide) (by decide) (by decide) (by decide)
  have hk2 := Nat.le_trans hk0 Et2.1
  have O2 := own_extt O0 Et2
  refine own_st st2 ?_
  refine own_st (fun _ k => XS.goto X2.here hx rfl (pc0 := 86) (pc' := 101) rfl (hb hby own_d4_86) (by decide) (by decide) k) ?_
  refine own_st (fun _ k => XS.astoreN X2.here hx rfl (hb hby own_d4_101) rfl rfl (l' := #[.val (.ref a1), .val (.ref sa2)]) rfl k) ?_
  obtain ⟨T3, hp3, X3, e3, Et3, A3, D3, -, st3⟩ := newO X2 hx hZ hown (own_w29 hw) (own_w30 hw) (own_w31 hw) e2 (g := (mkF m 102 #[.val (.ref a1), .val (.ref sa2)] [])) rfl (hb hby own_d4_102) (by decide) (by decide)
  obtain ⟨b3, g3⟩ : ∃ z, z = hp2.size := ⟨_, rfl⟩
  rw [← g3] at A3 D3 st3
  have s_b3 : h0.size ≤ b3 := Nat.le_trans O2.1 (Nat.le_of_eq g3.symm)
  have g_b3 : n0 ≤ b3 := Nat.le_trans Z0 s_b3
  have lt_sa2_b3 : sa2 < b3 := Nat.lt_of_lt_of_le Es2.lt (Nat.le_of_eq g3.symm)
  have lt_sb2_b3 : sb2 < b3 := Nat.lt_of_lt_of_le Vs2.lt (Nat.le_of_eq g3.symm)
  have hk3 := Nat.le_trans hkx2 Et3.1
  have O3 := own_extt O2 Et3
  have V_sb2_3 := Vs2.ext Et3
  have Ex_sa2_3 := Es2.ext Et3
  have F_value_sa2_3 := Fv2.ext Et3
  have F_coder_sa2_3 := Fc2.ext Et3
  have F_value_b3 : Fld Z hp3 b3 "java/lang/AbstractStringBuilder" "value" "[B" .null := D3 (Or.inl (own_w44 hw)) (ty := (.array .byte)) (by decide)
  have F_coder_b3 : Fld Z hp3 b3 "java/lang/AbstractStringBuilder" "coder" "B" (.int 0) := D3 (Or.inl (own_w46 hw)) (ty := .byte) (by decide)
  have F_count_b3 : Fld Z hp3 b3 "java/lang/AbstractStringBuilder" "count" "I" (.int 0) := D3 (Or.inl (own_w72 hw)) (ty := .int) (by decide)
  have F_maybeLatin1_b3 : Fld Z hp3 b3 "java/lang/AbstractStringBuilder" "maybeLatin1" "Z" (.int 0) := D3 (Or.inl (own_w259 hw)) (ty := .boolean) (by decide)
  refine own_st st3 ?_
  refine own_st (fun _ k => XS.dup X3.here hx rfl (hb hby own_d4_105) rfl rfl k) ?_
  obtain ⟨v4, T4, L4, hQ4, X4, st4⟩ := own_callI X3 hx hZ (y := (⟨"java/lang/StringBuilder", "<init>", "()V"⟩ : MethodName)) rfl hown (own_w32 hw) (own_w33 hw) (own_w31 hw) (own_w34 hw) (by decide) (own_bi l hw [] b3 cs hp3 n0 (Nat.le_trans Z0 O3.1) zn (own_extt OZ O3) Scs hcs g_b3 A3 F_value_b3 F_coder_b3 F_count_b3 F_maybeLatin1_b3) e3 (g := (mkF m 106 #[.val (.ref a1), .val (.ref sa2)] [(.ref b3), (.ref b3)])) rfl (by rw [hml]; rfl) (argsL := []) (rest := [(.ref b3)]) (lenOf own_pd0 rfl) rfl rfl (W := 1) (Nat.le_of_eq rfl) (hb hby own_d4_106) (by decide) (by decide) (by decide) (by decide)
  obtain ⟨rfl, N4, K4, bV, bK, g_bV, sbv, G1, G2, G3, G4, Vb⟩ := hQ4
  have s_bV : h0.size ≤ bV := Nat.le_trans O3.1 sbv
  have ne_sa2_bV : sa2 ≠ bV := Nat.ne_of_lt (Nat.lt_of_lt_of_le Ex_sa2_3.lt sbv)
  have ne_sb2_bV : sb2 ≠ bV := Nat.ne_of_lt (Nat.lt_of_lt_of_le V_sb2_3.lt sbv)
  have ne_b3_bV : b3 ≠ bV := Nat.ne_of_lt (Nat.lt_of_lt_of_le A3.lt sbv)
  have O4 := own_extk O3 K4 s_b3
  have hk4 := Nat.le_trans hk3 K4.1
  have V_sb2_4 := V_sb2_3.keep K4 (ninS (Nat.ne_of_lt lt_sb2_b3) nin0)
  have Ex_sa2_4 := Ex_sa2_3.keep K4
  have Ex_b3_4 := A3.keep K4
  have F_value_sa2_4 := F_value_sa2_3.keep K4 (ninS (Nat.ne_of_lt lt_sa2_b3) nin0)
  have F_coder_sa2_4 := F_coder_sa2_3.keep K4 (ninS (Nat.ne_of_lt lt_sa2_b3) nin0)
  have N4' := Fr.app N0 N4
  refine own_st st4 ?_
  obtain ⟨sa5, T5, hp5, ks5, sb5, kb5, X5, e5, Et5, hS, hkx5, hZ, hown, Es5, Fc5, Fv5, Vs5, la5, lb5, hI5, hL5, st5⟩ := ldcSVL X4 hx hZ hown (own_w47 hw) (own_wS hw) rfl hS hk4 (by rw [es, ← hn0]; exact N4') (fun b cl q => by rw [es]; exact OZ.2 b cl q) hI2 (by decide) hh34 hcw (vs := [(.int 92)]) (z := (1 : Int32)) ⟨by decide, rfl⟩ (by decide) (by decide) (g := (mkF m 109 #[.val (.ref a1), .val (.ref sa2)] [(.ref b3)])) rfl (hb hby own_d4_109) (n := 4) (by decide) (by decide) (by decide) (by decide)
  have hk5 := Nat.le_trans hk4 Et5.1
  have O5 := own_extt O4 Et5
  have V_sb2_5 := V_sb2_4.ext Et5
  have V_bV_5 := Vb.ext Et5
  have Ex_sa2_5 := Ex_sa2_4.ext Et5
  have Ex_b3_5 := Ex_b3_4.ext Et5
  have F_value_sa2_5 := F_value_sa2_4.ext Et5
  have F_coder_sa2_5 := F_coder_sa2_4.ext Et5
  have F_value_b3_5 := G1.ext Et5
  have F_coder_b3_5 := G2.ext Et5
  have F_count_b3_5 := G3.ext Et5
  have F_maybeLatin1_b3_5 := G4.ext Et5
  refine own_st st5 ?_
  obtain ⟨v6, T6, L6, hQ6, X6, st6⟩ := own_callV X5 hx hZ (y := (⟨"java/lang/StringBuilder", "append", "(Ljava/lang/String;)Ljava/lang/StringBuilder;"⟩ : MethodName)) hown (own_w48 hw) (own_w49 hw) (own_w51 hw) (own_w50 hw) (own_w31 hw) (own_w52 hw) (by decide) (own_sap0 l hw [] b3 bV bK [(.int 0), (.int 0), (.int 0), (.int 0), (.int 0), (.int 0), (.int 0), (.int 0), (.int 0), (.int 0), (.int 0), (.int 0), (.int 0), (.int 0), (.int 0), (.int 0)] sa5 sb5 kb5 [(.int 92)] [(.int 92), (.int 0), (.int 0), (.int 0), (.int 0), (.int 0), (.int 0), (.int 0), (.int 0), (.int 0), (.int 0), (.int 0), (.int 0), (.int 0), (.int 0), (.int 0)] (0 : Int32) (0 : Int32) cs (1 : Int32) (1 : Int32) hp5 n0 (Nat.le_trans Z0 O5.1) (by decide) (by decide) zn (own_extt OZ O5) Scs hcs (by decide) g_b3 g_bV Ex_b3_5 F_value_b3_5 F_coder_b3_5 F_count_b3_5 F_maybeLatin1_b3_5 V_bV_5 Es5 Fv5 Fc5 Vs5 (by decide) (by decide) (by decide) (by decide) rfl) e5 Ex_b3_5 (g := (mkF m 111 #[.val (.ref a1), .val (.ref sa2)] [(.ref sa5), (.ref b3)])) rfl (by rw [hml]; rfl) (argsL := [(.ref sa5)]) (rest := []) (lenOf own_pd32 rfl) rfl rfl (W := 0) (Nat.le_of_eq rfl) (hb hby own_d4_111) (by decide) (by decide) (by decide) (by decide)
  obtain ⟨rfl, N6, K6, P1, P2, P3, P4, Vb2⟩ := hQ6
  have O6 := own_extkl O5 K6 (allS s_b3 (allS s_bV all0))
  have hk6 := Nat.le_trans hkx5 K6.1
  have V_sb2_6 := V_sb2_5.keep K6 (ninS (Nat.ne_of_lt lt_sb2_b3) (ninS ne_sb2_bV nin0))
  have Ex_sa2_6 := Ex_sa2_5.keep K6
  have Ex_b3_6 := Ex_b3_5.keep K6
  have F_value_sa2_6 := F_value_sa2_5.keep K6 (ninS (Nat.ne_of_lt lt_sa2_b3) (ninS ne_sa2_bV nin0))
  have F_coder_sa2_6 := F_coder_sa2_5.keep K6 (ninS (Nat.ne_of_lt lt_sa2_b3) (ninS ne_sa2_bV nin0))
  have N6' := Fr.app N4' N6
  refine own_st st6 ?_
  show own_Go _ _ _ _ T6 (mkF m 114 #[.val (.ref a1), .val (.ref sa2)] [(.ref b3)])
  refine own_st (fun _ k => XS.aloadN X6.here hx rfl (hb hby own_d4_114) rfl rfl k) ?_
  have P3 : Fld Z T6.heap b3 "java/lang/AbstractStringBuilder" "count" "I" (.int 1) := P3
  obtain ⟨v7, T7, L7, hQ7, X7, st7⟩ := own_callV X6 hx hZ (y := (⟨"java/lang/StringBuilder", "append", "(Ljava/lang/String;)Ljava/lang/StringBuilder;"⟩ : MethodName)) hown (own_w48 hw) (own_w49 hw) (own_w51 hw) (own_w50 hw) (own_w31 hw) (own_w52 hw) (by decide) (own_sap0 l hw [] b3 bV bK [(.int 92), (.int 0), (.int 0), (.int 0), (.int 0), (.int 0), (.int 0), (.int 0), (.int 0), (.int 0), (.int 0), (.int 0), (.int 0), (.int 0), (.int 0), (.int 0)] sa2 sb2 kb2 [(.int 102), (.int 111), (.int 114), (.int 109), (.int 102), (.int 101), (.int 101), (.int 100)] [(.int 92), (.int 102), (.int 111), (.int 114), (.int 109), (.int 102), (.int 101), (.int 101), (.int 100), (.int 0), (.int 0), (.int 0), (.int 0), (.int 0), (.int 0), (.int 0)] (1 : Int32) (1 : Int32) cs (8 : Int32) (8 : Int32) T6.heap n0 (Nat.le_trans Z0 O6.1) (by decide) (by decide) zn (own_extt OZ O6) Scs hcs (by decide) g_b3 g_bV Ex_b3_6 P1 P2 P3 P4 Vb2 Ex_sa2_6 F_value_sa2_6 F_coder_sa2_6 V_sb2_6 (by decide) (by decide) (by decide) (by decide) rfl) rfl Ex_b3_6 (g := (mkF m 115 #[.val (.ref a1), .val (.ref sa2)] [(.ref sa2), (.ref b3)])) rfl (by rw [hml]; rfl) (argsL := [(.ref sa2)]) (rest := []) (lenOf own_pd32 rfl) rfl rfl (W := 0) (Nat.le_of_eq rfl) (hb hby own_d4_115) (by decide) (by decide) (by decide) (by decide)
  obtain ⟨rfl, N7, K7, R1, R2, R3, R4, Vb3⟩ := hQ7
  have O7 := own_extkl O6 K7 (allS s_b3 (allS s_bV all0))
  have hk7 := Nat.le_trans hk6 K7.1
  have Ex_b3_7 := Ex_b3_6.keep K7
  have N7' := Fr.app N6' N7
  refine own_st st7 ?_
  have R3 : Fld Z T7.heap b3 "java/lang/AbstractStringBuilder" "count" "I" (.int 9) := R3
  show own_Go _ _ _ _ T7 (mkF m 118 #[.val (.ref a1), .val (.ref sa2)] [(.ref b3)])
  obtain ⟨v8, T8, L8, hQ8, X8, st8⟩ := own_callV X7 hx hZ (y := (⟨"java/lang/StringBuilder", "toString", "()Ljava/lang/String;"⟩ : MethodName)) hown (own_w98 hw) (own_w99 hw) (own_w101 hw) (own_w100 hw) (own_w31 hw) (own_w102 hw) (by decide) (own_tos0 l hw [] b3 bV bK [(.int 92), (.int 102), (.int 111), (.int 114), (.int 109), (.int 102), (.int 101), (.int 101), (.int 100), (.int 0), (.int 0), (.int 0), (.int 0), (.int 0), (.int 0), (.int 0)] (9 : Int32) (9 : Int32) cs T7.heap n0 (Nat.le_trans Z0 O7.1) zn (own_extt OZ O7) Scs hcs rfl (by decide) (by decide) (by decide) (by decide) Ex_b3_7 R1 R2 R3 R4 Vb3) rfl Ex_b3_7 (g := (mkF m 118 #[.val (.ref a1), .val (.ref sa2)] [(.ref b3)])) rfl (by rw [hml]; rfl) (argsL := []) (rest := []) (lenOf own_pd33 rfl) rfl rfl (W := 0) (Nat.le_of_eq rfl) (hb hby own_d4_118) (by decide) (by decide) (by decide) (by decide)
  obtain ⟨rs, rv, rk, rfl, N8, Et8, Er, Fv_, Fc_, Vr⟩ := hQ8
  have hk8 := Nat.le_trans hk7 Et8.1
  have O8 := own_extt O7 Et8
  have V_bV_8 := Vb3.ext Et8
  have Ex_b3_8 := Ex_b3_7.ext Et8
  have F_value_b3_8 := R1.ext Et8
  have F_coder_b3_8 := R2.ext Et8
  have F_count_b3_8 := R3.ext Et8
  have F_maybeLatin1_b3_8 := R4.ext Et8
  have N8' := Fr.app N7' N8
  refine own_st st8 ?_
  exact own_retAW X8 hS hk8 hx hret rfl hlk rfl (hb hby own_d4_121) ⟨rs, rv, rk, rfl, N8', O8, Er, Fv_, Fc_, Vr, own_ibw (s := s) hI5 X8.warmed⟩ (by decide) (by decide)
def own_tA8_Q (Z : State) (a1 : Addr) (cs : Int32) (fm : Value) (h0 : Heap) (n0 : Nat) (v : Option Value) (h : Heap) (vm : Vm) (L : List Loc) : Prop := ∃ b bv k, v = some (.ref b) ∧ Fr n0 L ∧ Ext h0 h ∧ Exa Z h b "java/lang/String" ∧ Fld Z h b "java/lang/String" "value" "[B" (.ref bv) ∧ Fld Z h b "java/lang/String" "coder" "B" (.int 0) ∧ Arv Z h bv k .byte (10 : Int32) [(.int 92), (.int 98), (.int 97), (.int 99), (.int 107), (.int 115), (.int 112), (.int 97), (.int 99), (.int 101)] (.int 0) ∧ IB Z vm ["\\", "backspace"]
set_option maxRecDepth 65536 in
set_option maxHeartbeats 40000000 in
theorem own_tA8 (l : Launch) {Z : State} {a0 : Array Value} (hw : own_W Z a0) (ws : List Jvm.Cond) (a1 : Addr) (cs : Int32) (fm : Value) (h0 : Heap) (n0 : Nat) (Z0 : n0 ≤ h0.size) (hn0 : n0 = h0.size) (hcw : Jvm.Lit.compactW.before a0 Z = true) (hh23 : Jvm.Lit.constHeld Z "com/example/isoscope/isoscope/Edn$Char" 23) (hh34 : Jvm.Lit.constHeld Z "com/example/isoscope/isoscope/Edn$Char" 34) (zn : Z.heap.size ≤ n0) (OZ : Ext Z.heap h0) (Scs : Sta Z Z.heap "java/lang/String" "COMPACT_STRINGS" "Z" (.int cs)) (hcs : ¬ cs = 0) (Sad : Sta Z Z.heap "java/lang/StringUTF16" "$assertionsDisabled" "Z" (.int 1)) (Shi : Sta Z Z.heap "java/lang/StringUTF16" "HI_BYTE_SHIFT" "I" (.int 0)) (Slo : Sta Z Z.heap "java/lang/StringUTF16" "LO_BYTE_SHIFT" "I" (.int 8)) (Sfm : Sta Z Z.heap "jdk/internal/util/Preconditions" "SIOOBE_FORMATTER" "Ljava/util/function/BiFunction;" fm) (hfm : fm.isRef = true) (Ec : Exa Z h0 a1 "com/example/isoscope/isoscope/Edn$Char") (Fp : Fld Z h0 a1 "com/example/isoscope/isoscope/Edn$Char" "codePoint" "I" (.int 8)) :
    MetFree l (⟨"com/example/isoscope/isoscope/Edn$Char", "toString", "()Ljava/lang/String;"⟩ : MethodName) (head1 (Jvm.Cond.code (⟨"com/example/isoscope/isoscope/Edn$Char", "toString", "()Ljava/lang/String;"⟩ : MethodName) prog_8_method_2_code 2 (some (.object "java/lang/String")) :: ws) ({ frames := 6, cells := 8, slots := 88, locals := 91 } : Room)) (fun a U => a = #[(.ref a1)] ∧ Z.Warmed39 U.vm ∧ U.heap = h0 ∧ (fun vm => IB Z vm []) U.vm) (fun _ _ _ _ _ => True) (fun _ U o U' => ∃ v L, o = .returned v ∧ own_tA8_Q Z a1 cs fm h0 n0 v U'.heap U'.vm L ∧ ReturnedEndW U o U' L ({ frames := 6, cells := 8, slots := 88, locals := 91 } : Room).cells ({ frames := 6, cells := 8, slots := 88, locals := 91 } : Room).slots) := by
  refine own_enterW (J := fun vm => IB Z vm []) (C := ({ frames := 6, cells := 8, slots := 88, locals := 91 } : Room).cells) (S := ({ frames := 6, cells := 8, slots := 88, locals := 91 } : Room).slots) (plainFor_of_name own_pn1) ?_
  intro p e s m below meth c T0 X0 I e0 es hJ hS
  obtain ⟨hx, hby, hml, hown, hnm, hret, hlk, hZ⟩ := I
  have N0 := Fr.nil n0
  have O0 := own_extr h0
  have hk0 : 0 ≤ h0.size := Nat.zero_le _
  refine own_cast (own_ef4 m a1) ?_
  show own_Go _ _ _ _ T0 (mkF m 0 #[.val (.ref a1), .unset] [])
  refine own_st (fun _ k => XS.aloadN X0.here hx rfl (hb hby own_d4_0) rfl rfl k) ?_
  obtain ⟨T1, X1, e1, st1⟩ := getF X0 hx hZ hown (host := "") (Or.inl (own_w14 hw)) Via.refl e0 (Fp.ext O0) (g := (mkF m 1 #[.val (.ref a1), .unset] [(.ref a1)])) rfl rfl (hb hby own_d4_1)
  refine own_st st1 ?_
  refine own_st (Stand.lookupswitchHit X1 hx (g := (mkF m 4 #[.val (.ref a1), .unset] [(.int 8)])) rfl rfl (hb hby own_d4_4) (by decide) (a := 8) (off := 85) (by decide) (by show (0 : Int) ≤ ((4 : Nat) : Int) + 85; decide)) ?_
  show own_Go _ _ _ _ T1 (mkF m 89 #[.val (.ref a1), .unset] [])
  obtain ⟨sa2, T2, hp2, ks2, sb2, kb2, X2, e2, Et2, hS, hkx2, hZ, hown, Es2, Fc2, Fv2, Vs2, la2, lb2, hI2, hL2, st2⟩ := ldcSVL X1 hx hZ hown (own_w199 hw) (own_wS hw) e1 hS hk0 (by rw [es, ← hn0]; exact N0) (fun b cl q => by rw [es]; exact OZ.2 b cl q) hJ (by decide) hh23 hcw (vs := [(.int 98), (.int 97), (.int 99), (.int 107), (.int 115), (.int 112), (.int 97), (.int 99), (.int 101)]) (z := (9 : Int32)) ⟨by decide, rfl⟩ (by decide) (by decide) (g := (mkF m 89 #[.val (.ref a1), .unset] [])) rfl (hb hby own_d4_89) (n := 36) (by decide) (by decide) (by decide) (by decide)
  have hk2 := Nat.le_trans hk0 Et2.1
  have O2 := own_extt O0 Et2
  refine own_st st2 ?_
  refine own_st (fun _ k => XS.goto X2.here hx rfl (pc0 := 91) (pc' := 101) rfl (hb hby own_d4_91) (by decide) (by decide) k) ?_
  refine own_st (fun _ k => XS.astoreN X2.here hx rfl (hb hby own_d4_101) rfl rfl (l' := #[.val (.ref a1), .val (.ref sa2)]) rfl k) ?_
  obtain ⟨T3, hp3, X3, e3, Et3, A3, D3, -, st3⟩ := newO X2 hx hZ hown (own_w29 hw) (own_w30 hw) (own_w31 hw) e2 (g := (mkF m 102 #[.val (.ref a1), .val (.ref sa2)] [])) rfl (hb hby own_d4_102) (by decide) (by decide)
  obtain ⟨b3, g3⟩ : ∃ z, z = hp2.size := ⟨_, rfl⟩
  rw [← g3] at A3 D3 st3
  have s_b3 : h0.size ≤ b3 := Nat.le_trans O2.1 (Nat.le_of_eq g3.symm)
  have g_b3 : n0 ≤ b3 := Nat.le_trans Z0 s_b3
  have lt_sa2_b3 : sa2 < b3 := Nat.lt_of_lt_of_le Es2.lt (Nat.le_of_eq g3.symm)
  have lt_sb2_b3 : sb2 < b3 := Nat.lt_of_lt_of_le Vs2.lt (Nat.le_of_eq g3.symm)
  have hk3 := Nat.le_trans hkx2 Et3.1
  have O3 := own_extt O2 Et3
  have V_sb2_3 := Vs2.ext Et3
  have Ex_sa2_3 := Es2.ext Et3
  have F_value_sa2_3 := Fv2.ext Et3
  have F_coder_sa2_3 := Fc2.ext Et3
  have F_value_b3 : Fld Z hp3 b3 "java/lang/AbstractStringBuilder" "value" "[B" .null := D3 (Or.inl (own_w44 hw)) (ty := (.array .byte)) (by decide)
  have F_coder_b3 : Fld Z hp3 b3 "java/lang/AbstractStringBuilder" "coder" "B" (.int 0) := D3 (Or.inl (own_w46 hw)) (ty := .byte) (by decide)
  have F_count_b3 : Fld Z hp3 b3 "java/lang/AbstractStringBuilder" "count" "I" (.int 0) := D3 (Or.inl (own_w72 hw)) (ty := .int) (by decide)
  have F_maybeLatin1_b3 : Fld Z hp3 b3 "java/lang/AbstractStringBuilder" "maybeLatin1" "Z" (.int 0) := D3 (Or.inl (own_w259 hw)) (ty := .boolean) (by decide)
  refine own_st st3 ?_
  refine own_st (fun _ k => XS.dup X3.here hx rfl (hb hby own_d4_105) rfl rfl k) ?_
  obtain ⟨v4, T4, L4, hQ4, X4, st4⟩ := own_callI X3 hx hZ (y := (⟨"java/lang/StringBuilder", "<init>", "()V"⟩ : MethodName)) rfl hown (own_w32 hw) (own_w33 hw) (own_w31 hw) (own_w34 hw) (by decide) (own_bi l hw [] b3 cs hp3 n0 (Nat.le_trans Z0 O3.1) zn (own_extt OZ O3) Scs hcs g_b3 A3 F_value_b3 F_coder_b3 F_count_b3 F_maybeLatin1_b3) e3 (g := (mkF m 106 #[.val (.ref a1), .val (.ref sa2)] [(.ref b3), (.ref b3)])) rfl (by rw [hml]; rfl) (argsL := []) (rest := [(.ref b3)]) (lenOf own_pd0 rfl) rfl rfl (W := 1) (Nat.le_of_eq rfl) (hb hby own_d4_106) (by decide) (by decide) (by decide) (by decide)
  obtain ⟨rfl, N4, K4, bV, bK, g_bV, sbv, G1, G2, G3, G4, Vb⟩ := hQ4
  have s_bV : h0.size ≤ bV := Nat.le_trans O3.1 sbv
  have ne_sa2_bV : sa2 ≠ bV := Nat.ne_of_lt (Nat.lt_of_lt_of_le Ex_sa2_3.lt sbv)
  have ne_sb2_bV : sb2 ≠ bV := Nat.ne_of_lt (Nat.lt_of_lt_of_le V_sb2_3.lt sbv)
  have ne_b3_bV : b3 ≠ bV := Nat.ne_of_lt (Nat.lt_of_lt_of_le A3.lt sbv)
  have O4 := own_extk O3 K4 s_b3
  have hk4 := Nat.le_trans hk3 K4.1
  have V_sb2_4 := V_sb2_3.keep K4 (ninS (Nat.ne_of_lt lt_sb2_b3) nin0)
  have Ex_sa2_4 := Ex_sa2_3.keep K4
  have Ex_b3_4 := A3.keep K4
  have F_value_sa2_4 := F_value_sa2_3.keep K4 (ninS (Nat.ne_of_lt lt_sa2_b3) nin0)
  have F_coder_sa2_4 := F_coder_sa2_3.keep K4 (ninS (Nat.ne_of_lt lt_sa2_b3) nin0)
  have N4' := Fr.app N0 N4
  refine own_st st4 ?_
  obtain ⟨sa5, T5, hp5, ks5, sb5, kb5, X5, e5, Et5, hS, hkx5, hZ, hown, Es5, Fc5, Fv5, Vs5, la5, lb5, hI5, hL5, st5⟩ := ldcSVL X4 hx hZ hown (own_w47 hw) (own_wS hw) rfl hS hk4 (by rw [es, ← hn0]; exact N4') (fun b cl q => by rw [es]; exact OZ.2 b cl q) hI2 (by decide) hh34 hcw (vs := [(.int 92)]) (z := (1 : Int32)) ⟨by decide, rfl⟩ (by decide) (by decide) (g := (mkF m 109 #[.val (.ref a1), .val (.ref sa2)] [(.ref b3)])) rfl (hb hby own_d4_109) (n := 4) (by decide) (by decide) (by decide) (by decide)
  have hk5 := Nat.le_trans hk4 Et5.1
  have O5 := own_extt O4 Et5
  have V_sb2_5 := V_sb2_4.ext Et5
  have V_bV_5 := Vb.ext Et5
  have Ex_sa2_5 := Ex_sa2_4.ext Et5
  have Ex_b3_5 := Ex_b3_4.ext Et5
  have F_value_sa2_5 := F_value_sa2_4.ext Et5
  have F_coder_sa2_5 := F_coder_sa2_4.ext Et5
  have F_value_b3_5 := G1.ext Et5
  have F_coder_b3_5 := G2.ext Et5
  have F_count_b3_5 := G3.ext Et5
  have F_maybeLatin1_b3_5 := G4.ext Et5
  refine own_st st5 ?_
  obtain ⟨v6, T6, L6, hQ6, X6, st6⟩ := own_callV X5 hx hZ (y := (⟨"java/lang/StringBuilder", "append", "(Ljava/lang/String;)Ljava/lang/StringBuilder;"⟩ : MethodName)) hown (own_w48 hw) (own_w49 hw) (own_w51 hw) (own_w50 hw) (own_w31 hw) (own_w52 hw) (by decide) (own_sap0 l hw [] b3 bV bK [(.int 0), (.int 0), (.int 0), (.int 0), (.int 0), (.int 0), (.int 0), (.int 0), (.int 0), (.int 0), (.int 0), (.int 0), (.int 0), (.int 0), (.int 0), (.int 0)] sa5 sb5 kb5 [(.int 92)] [(.int 92), (.int 0), (.int 0), (.int 0), (.int 0), (.int 0), (.int 0), (.int 0), (.int 0), (.int 0), (.int 0), (.int 0), (.int 0), (.int 0), (.int 0), (.int 0)] (0 : Int32) (0 : Int32) cs (1 : Int32) (1 : Int32) hp5 n0 (Nat.le_trans Z0 O5.1) (by decide) (by decide) zn (own_extt OZ O5) Scs hcs (by decide) g_b3 g_bV Ex_b3_5 F_value_b3_5 F_coder_b3_5 F_count_b3_5 F_maybeLatin1_b3_5 V_bV_5 Es5 Fv5 Fc5 Vs5 (by decide) (by decide) (by decide) (by decide) rfl) e5 Ex_b3_5 (g := (mkF m 111 #[.val (.ref a1), .val (.ref sa2)] [(.ref sa5), (.ref b3)])) rfl (by rw [hml]; rfl) (argsL := [(.ref sa5)]) (rest := []) (lenOf own_pd32 rfl) rfl rfl (W := 0) (Nat.le_of_eq rfl) (hb hby own_d4_111) (by decide) (by decide) (by decide) (by decide)
  obtain ⟨rfl, N6, K6, P1, P2, P3, P4, Vb2⟩ := hQ6
  have O6 := own_extkl O5 K6 (allS s_b3 (allS s_bV all0))
  have hk6 := Nat.le_trans hkx5 K6.1
  have V_sb2_6 := V_sb2_5.keep K6 (ninS (Nat.ne_of_lt lt_sb2_b3) (ninS ne_sb2_bV nin0))
  have Ex_sa2_6 := Ex_sa2_5.keep K6
  have Ex_b3_6 := Ex_b3_5.keep K6
  have F_value_sa2_6 := F_value_sa2_5.keep K6 (ninS (Nat.ne_of_lt lt_sa2_b3) (ninS ne_sa2_bV nin0))
  have F_coder_sa2_6 := F_coder_sa2_5.keep K6 (ninS (Nat.ne_of_lt lt_sa2_b3) (ninS ne_sa2_bV nin0))
  have N6' := Fr.app N4' N6
  refine own_st st6 ?_
  show own_Go _ _ _ _ T6 (mkF m 114 #[.val (.ref a1), .val (.ref sa2)] [(.ref b3)])
  refine own_st (fun _ k => XS.aloadN X6.here hx rfl (hb hby own_d4_114) rfl rfl k) ?_
  have P3 : Fld Z T6.heap b3 "java/lang/AbstractStringBuilder" "count" "I" (.int 1) := P3
  obtain ⟨v7, T7, L7, hQ7, X7, st7⟩ := own_callV X6 hx hZ (y := (⟨"java/lang/StringBuilder", "append", "(Ljava/lang/String;)Ljava/lang/StringBuilder;"⟩ : MethodName)) hown (own_w48 hw) (own_w49 hw) (own_w51 hw) (own_w50 hw) (own_w31 hw) (own_w52 hw) (by decide) (own_sap0 l hw [] b3 bV bK [(.int 92), (.int 0), (.int 0), (.int 0), (.int 0), (.int 0), (.int 0), (.int 0), (.int 0), (.int 0), (.int 0), (.int 0), (.int 0), (.int 0), (.int 0), (.int 0)] sa2 sb2 kb2 [(.int 98), (.int 97), (.int 99), (.int 107), (.int 115), (.int 112), (.int 97), (.int 99), (.int 101)] [(.int 92), (.int 98), (.int 97), (.int 99), (.int 107), (.int 115), (.int 112), (.int 97), (.int 99), (.int 101), (.int 0), (.int 0), (.int 0), (.int 0), (.int 0), (.int 0)] (1 : Int32) (1 : Int32) cs (9 : Int32) (9 : Int32) T6.heap n0 (Nat.le_trans Z0 O6.1) (by decide) (by decide) zn (own_extt OZ O6) Scs hcs (by decide) g_b3 g_bV Ex_b3_6 P1 P2 P3 P4 Vb2 Ex_sa2_6 F_value_sa2_6 F_coder_sa2_6 V_sb2_6 (by decide) (by decide) (by decide) (by decide) rfl) rfl Ex_b3_6 (g := (mkF m 115 #[.val (.ref a1), .val (.ref sa2)] [(.ref sa2), (.ref b3)])) rfl (by rw [hml]; rfl) (argsL := [(.ref sa2)]) (rest := []) (lenOf own_pd32 rfl) rfl rfl (W := 0) (Nat.le_of_eq rfl) (hb hby own_d4_115) (by decide) (by decide) (by decide) (by decide)
  obtain ⟨rfl, N7, K7, R1, R2, R3, R4, Vb3⟩ := hQ7
  have O7 := own_extkl O6 K7 (allS s_b3 (allS s_bV all0))
  have hk7 := Nat.le_trans hk6 K7.1
  have Ex_b3_7 := Ex_b3_6.keep K7
  have N7' := Fr.app N6' N7
  refine own_st st7 ?_
  have R3 : Fld Z T7.heap b3 "java/lang/AbstractStringBuilder" "count" "I" (.int 10) := R3
  show own_Go _ _ _ _ T7 (mkF m 118 #[.val (.ref a1), .val (.ref sa2)] [(.ref b3)])
  obtain ⟨v8, T8, L8, hQ8, X8, st8⟩ := own_callV X7 hx hZ (y := (⟨"java/lang/StringBuilder", "toString", "()Ljava/lang/String;"⟩ : MethodName)) hown (own_w98 hw) (own_w99 hw) (own_w101 hw) (own_w100 hw) (own_w31 hw) (own_w102 hw) (by decide) (own_tos0 l hw [] b3 bV bK [(.int 92), (.int 98), (.int 97), (.int 99), (.int 107), (.int 115), (.int 112), (.int 97), (.int 99), (.int 101), (.int 0), (.int 0), (.int 0), (.int 0), (.int 0), (.int 0)] (10 : Int32) (10 : Int32) cs T7.heap n0 (Nat.le_trans Z0 O7.1) zn (own_extt OZ O7) Scs hcs rfl (by decide) (by decide) (by decide) (by decide) Ex_b3_7 R1 R2 R3 R4 Vb3) rfl Ex_b3_7 (g := (mkF m 118 #[.val (.ref a1), .val (.ref sa2)] [(.ref b3)])) rfl (by rw [hml]; rfl) (argsL := []) (rest := []) (lenOf own_pd33 rfl) rfl rfl (W := 0) (Nat.le_of_eq rfl) (hb hby own_d4_118) (by decide) (by decide) (by decide) (by decide)
  obtain ⟨rs, rv, rk, rfl, N8, Et8, Er, Fv_, Fc_, Vr⟩ := hQ8
  have hk8 := Nat.le_trans hk7 Et8.1
  have O8 := own_extt O7 Et8
  have V_bV_8 := Vb3.ext Et8
  have Ex_b3_8 := Ex_b3_7.ext Et8
  have F_value_b3_8 := R1.ext Et8
  have F_coder_b3_8 := R2.ext Et8
  have F_count_b3_8 := R3.ext Et8
  have F_maybeLatin1_b3_8 := R4.ext Et8
  have N8' := Fr.app N7' N8
  refine own_st st8 ?_
  exact own_retAW X8 hS hk8 hx hret rfl hlk rfl (hb hby own_d4_121) ⟨rs, rv, rk, rfl, N8', O8, Er, Fv_, Fc_, Vr, own_ibw (s := s) hI5 X8.warmed⟩ (by decide) (by decide)
def own_tB_Q (Z : State) (a1 : Addr) (cs : Int32) (fm : Value) (cp : Int32) (h0 : Heap) (n0 : Nat) (v : Option Value) (h : Heap) (vm : Vm) (L : List Loc) : Prop := ∃ b bv k, v = some (.ref b) ∧ Fr n0 L ∧ Ext h0 h ∧ Exa Z h b "java/lang/String" ∧ Fld Z h b "java/lang/String" "value" "[B" (.ref bv) ∧ Fld Z h b "java/lang/String" "coder" "B" (.int 0) ∧ Arv Z h bv k .byte (2 : Int32) [(.int 92), (.int (own_Bl (cp.toUInt32.toUInt16.toUInt32.toInt32)))] (.int 0) ∧ IB Z vm ["\\"]
set_option maxRecDepth 65536 in
set_option maxHeartbeats 40000000 in
theorem own_tB (l : Launch) {Z : State} {a0 : Array Value} (hw : own_W Z a0) (ws : List Jvm.Cond) (a1 : Addr) (cs : Int32) (fm : Value) (cp : Int32) (h0 : Heap) (n0 : Nat) (Z0 : n0 ≤ h0.size) (hn0 : n0 = h0.size) (hcw : Jvm.Lit.compactW.before a0 Z = true) (hh34 : Jvm.Lit.constHeld Z "com/example/isoscope/isoscope/Edn$Char" 34) (zn : Z.heap.size ≤ n0) (OZ : Ext Z.heap h0) (Scs : Sta Z Z.heap "java/lang/String" "COMPACT_STRINGS" "Z" (.int cs)) (hcs : ¬ cs = 0) (Sad : Sta Z Z.heap "java/lang/StringUTF16" "$assertionsDisabled" "Z" (.int 1)) (Shi : Sta Z Z.heap "java/lang/StringUTF16" "HI_BYTE_SHIFT" "I" (.int 0)) (Slo : Sta Z Z.heap "java/lang/StringUTF16" "LO_BYTE_SHIFT" "I" (.int 8)) (Sfm : Sta Z Z.heap "jdk/internal/util/Preconditions" "SIOOBE_FORMATTER" "Ljava/util/function/BiFunction;" fm) (hfm : fm.isRef = true) (n8 : ¬ cp = 8) (n9 : ¬ cp = 9) (n10 : ¬ cp = 10) (n12 : ¬ cp = 12) (n13 : ¬ cp = 13) (n32 : ¬ cp = 32) (hc0 : ¬ cp < 0) (hc1 : ¬ (255 : Int32) < cp) (Ec : Exa Z h0 a1 "com/example/isoscope/isoscope/Edn$Char") (Fp : Fld Z h0 a1 "com/example/isoscope/isoscope/Edn$Char" "codePoint" "I" (.int cp)) :
    MetFree l (⟨"com/example/isoscope/isoscope/Edn$Char", "toString", "()Ljava/lang/String;"⟩ : MethodName) (head1 (Jvm.Cond.code (⟨"com/example/isoscope/isoscope/Edn$Char", "toString", "()Ljava/lang/String;"⟩ : MethodName) prog_8_method_2_code 2 (some (.object "java/lang/String")) :: ws) ({ frames := 6, cells := 8, slots := 53, locals := 91 } : Room)) (fun a U => a = #[(.ref a1)] ∧ Z.Warmed39 U.vm ∧ U.heap = h0 ∧ (fun vm => IB Z vm []) U.vm) (fun _ _ _ _ _ => True) (fun _ U o U' => ∃ v L, o = .returned v ∧ own_tB_Q Z a1 cs fm cp h0 n0 v U'.heap U'.vm L ∧ ReturnedEndW U o U' L ({ frames := 6, cells := 8, slots := 53, locals := 91 } : Room).cells ({ frames := 6, cells := 8, slots := 53, locals := 91 } : Room).slots) := by
  refine own_enterW (J := fun vm => IB Z vm []) (C := ({ frames := 6, cells := 8, slots := 53, locals := 91 } : Room).cells) (S := ({ frames := 6, cells := 8, slots := 53, locals := 91 } : Room).slots) (plainFor_of_name own_pn1) ?_
  intro p e s m below meth c T0 X0 I e0 es hJ hS
  obtain ⟨hx, hby, hml, hown, hnm, hret, hlk, hZ⟩ := I
  have N0 := Fr.nil n0
  have O0 := own_extr h0
  have hk0 : 0 ≤ h0.size := Nat.zero_le _
  refine own_cast (own_ef4 m a1) ?_
  show own_Go _ _ _ _ T0 (mkF m 0 #[.val (.ref a1), .unset] [])
  refine own_st (fun _ k => XS.aloadN X0.here hx rfl (hb hby own_d4_0) rfl rfl k) ?_
  obtain ⟨T1, X1, e1, st1⟩ := getF X0 hx hZ hown (host := "") (Or.inl (own_w14 hw)) Via.refl e0 (Fp.ext O0) (g := (mkF m 1 #[.val (.ref a1), .unset] [(.ref a1)])) rfl rfl (hb hby own_d4_1)
  refine own_st st1 ?_
  refine own_st (Stand.lookupswitchMiss X1 hx (g := (mkF m 4 #[.val (.ref a1), .unset] [(.int cp)])) rfl rfl (hb hby own_d4_4) (by decide) (own_miss cp n8 n9 n10 n12 n13 n32) (by show (0 : Int) ≤ ((4 : Nat) : Int) + 90; decide)) ?_
  show own_Go _ _ _ _ T1 (mkF m 94 #[.val (.ref a1), .unset] [])
  refine own_st (fun _ k => XS.aloadN X1.here hx rfl (hb hby own_d4_94) rfl rfl k) ?_
  obtain ⟨T2, X2, e2, st2⟩ := getF X1 hx hZ hown (host := "") (Or.inl (own_w14 hw)) Via.refl e1 (Fp.ext O0) (g := (mkF m 95 #[.val (.ref a1), .unset] [(.ref a1)])) rfl rfl (hb hby own_d4_95)
  refine own_st st2 ?_
  obtain ⟨v3, T3, L3, hQ3, X3, st3⟩ := own_callS X2 hx hZ (y := (⟨"java/lang/Character", "toString", "(I)Ljava/lang/String;"⟩ : MethodName)) hown (own_w158 hw) (own_w159 hw) (own_w160 hw) (own_w161 hw) (by decide) (own_ctB l hw [] cp cs h0 n0 (Nat.le_trans Z0 O0.1) zn (own_extt OZ O0) Scs hcs  hc0 hc1) e2 (g := (mkF m 98 #[.val (.ref a1), .unset] [(.int cp)])) rfl (by rw [hml]; rfl) (argsL := [(.int cp)]) (rest := []) (lenOf own_pd13 rfl) rfl rfl (W := 0) (Nat.le_of_eq rfl) (hb hby own_d4_98) (by decide) (by decide) (by decide) (by decide)
  obtain ⟨sa, sb, skk, rfl, N3, Et3, Esa, Fsa, Fsb, Vsb⟩ := hQ3
  have hk3 := Nat.le_trans hk0 Et3.1
  have O3 := own_extt O0 Et3
  have N3' := Fr.app N0 N3
  refine own_st st3 ?_
  refine own_st (fun _ k => XS.astoreN X3.here hx rfl (hb hby own_d4_101) rfl rfl (l' := #[.val (.ref a1), .val (.ref sa)]) rfl k) ?_
  obtain ⟨T4, hp4, X4, e4, Et4, A4, D4, -, st4⟩ := newO X3 hx hZ hown (own_w29 hw) (own_w30 hw) (own_w31 hw) rfl (g := (mkF m 102 #[.val (.ref a1), .val (.ref sa)] [])) rfl (hb hby own_d4_102) (by decide) (by decide)
  obtain ⟨b4, g4⟩ : ∃ z, z = T3.heap.size := ⟨_, rfl⟩
  rw [← g4] at A4 D4 st4
  have s_b4 : h0.size ≤ b4 := Nat.le_trans O3.1 (Nat.le_of_eq g4.symm)
  have g_b4 : n0 ≤ b4 := Nat.le_trans Z0 s_b4
  have lt_sa_b4 : sa < b4 := Nat.lt_of_lt_of_le Esa.lt (Nat.le_of_eq g4.symm)
  have lt_sb_b4 : sb < b4 := Nat.lt_of_lt_of_le Vsb.lt (Nat.le_of_eq g4.symm)
  have hk4 := Nat.le_trans hk3 Et4.1
  have O4 := own_extt O3 Et4
  have V_sb_4 := Vsb.ext Et4
  have Ex_sa_4 := Esa.ext Et4
  have F_value_sa_4 := Fsa.ext Et4
  have F_coder_sa_4 := Fsb.ext Et4
  have F_value_b4 : Fld Z hp4 b4 "java/lang/AbstractStringBuilder" "value" "[B" .null := D4 (Or.inl (own_w44 hw)) (ty := (.array .byte)) (by decide)
  have F_coder_b4 : Fld Z hp4 b4 "java/lang/AbstractStringBuilder" "coder" "B" (.int 0) := D4 (Or.inl (own_w46 hw)) (ty := .byte) (by decide)
  have F_count_b4 : Fld Z hp4 b4 "java/lang/AbstractStringBuilder" "count" "I" (.int 0) := D4 (Or.inl (own_w72 hw)) (ty := .int) (by decide)
  have F_maybeLatin1_b4 : Fld Z hp4 b4 "java/lang/AbstractStringBuilder" "maybeLatin1" "Z" (.int 0) := D4 (Or.inl (own_w259 hw)) (ty := .boolean) (by decide)
  refine own_st st4 ?_
  refine own_st (fun _ k => XS.dup X4.here hx rfl (hb hby own_d4_105) rfl rfl k) ?_
  obtain ⟨v5, T5, L5, hQ5, X5, st5⟩ := own_callI X4 hx hZ (y := (⟨"java/lang/StringBuilder", "<init>", "()V"⟩ : MethodName)) rfl hown (own_w32 hw) (own_w33 hw) (own_w31 hw) (own_w34 hw) (by decide) (own_bi l hw [] b4 cs hp4 n0 (Nat.le_trans Z0 O4.1) zn (own_extt OZ O4) Scs hcs g_b4 A4 F_value_b4 F_coder_b4 F_count_b4 F_maybeLatin1_b4) e4 (g := (mkF m 106 #[.val (.ref a1), .val (.ref sa)] [(.ref b4), (.ref b4)])) rfl (by rw [hml]; rfl) (argsL := []) (rest := [(.ref b4)]) (lenOf own_pd0 rfl) rfl rfl (W := 1) (Nat.le_of_eq rfl) (hb hby own_d4_106) (by decide) (by decide) (by decide) (by decide)
  obtain ⟨rfl, N5, K5, bV, bK, g_bV, sbv, G1, G2, G3, G4, Vb⟩ := hQ5
  have s_bV : h0.size ≤ bV := Nat.le_trans O4.1 sbv
  have ne_sa_bV : sa ≠ bV := Nat.ne_of_lt (Nat.lt_of_lt_of_le Ex_sa_4.lt sbv)
  have ne_sb_bV : sb ≠ bV := Nat.ne_of_lt (Nat.lt_of_lt_of_le V_sb_4.lt sbv)
  have ne_b4_bV : b4 ≠ bV := Nat.ne_of_lt (Nat.lt_of_lt_of_le A4.lt sbv)
  have O5 := own_extk O4 K5 s_b4
  have hk5 := Nat.le_trans hk4 K5.1
  have V_sb_5 := V_sb_4.keep K5 (ninS (Nat.ne_of_lt lt_sb_b4) nin0)
  have Ex_sa_5 := Ex_sa_4.keep K5
  have Ex_b4_5 := A4.keep K5
  have F_value_sa_5 := F_value_sa_4.keep K5 (ninS (Nat.ne_of_lt lt_sa_b4) nin0)
  have F_coder_sa_5 := F_coder_sa_4.keep K5 (ninS (Nat.ne_of_lt lt_sa_b4) nin0)
  have N5' := Fr.app N3' N5
  refine own_st st5 ?_
  obtain ⟨sa6, T6, hp6, ks6, sb6, kb6, X6, e6, Et6, hS, hkx6, hZ, hown, Es6, Fc6, Fv6, Vs6, la6, lb6, hI6, hL6, st6⟩ := ldcSVL X5 hx hZ hown (own_w47 hw) (own_wS hw) rfl hS hk5 (by rw [es, ← hn0]; exact N5') (fun b cl q => by rw [es]; exact OZ.2 b cl q) hJ (by decide) hh34 hcw (vs := [(.int 92)]) (z := (1 : Int32)) ⟨by decide, rfl⟩ (by decide) (by decide) (g := (mkF m 109 #[.val (.ref a1), .val (.ref sa)] [(.ref b4)])) rfl (hb hby own_d4_109) (n := 4) (by decide) (by decide) (by decide) (by decide)
  have hk6 := Nat.le_trans hk5 Et6.1
  have O6 := own_extt O5 Et6
  have V_sb_6 := V_sb_5.ext Et6
  have V_bV_6 := Vb.ext Et6
  have Ex_sa_6 := Ex_sa_5.ext Et6
  have Ex_b4_6 := Ex_b4_5.ext Et6
  have F_value_sa_6 := F_value_sa_5.ext Et6
  have F_coder_sa_6 := F_coder_sa_5.ext Et6
  have F_value_b4_6 := G1.ext Et6
  have F_coder_b4_6 := G2.ext Et6
  have F_count_b4_6 := G3.ext Et6
  have F_maybeLatin1_b4_6 := G4.ext Et6
  refine own_st st6 ?_
  show own_Go _ _ _ _ T6 (mkF m 111 #[.val (.ref a1), .val (.ref sa)] [(.ref sa6), (.ref b4)])
  obtain ⟨v7, T7, L7, hQ7, X7, st7⟩ := own_callV X6 hx hZ (y := (⟨"java/lang/StringBuilder", "append", "(Ljava/lang/String;)Ljava/lang/StringBuilder;"⟩ : MethodName)) hown (own_w48 hw) (own_w49 hw) (own_w51 hw) (own_w50 hw) (own_w31 hw) (own_w52 hw) (by decide) (own_sap0 l hw [] b4 bV bK [(.int 0), (.int 0), (.int 0), (.int 0), (.int 0), (.int 0), (.int 0), (.int 0), (.int 0), (.int 0), (.int 0), (.int 0), (.int 0), (.int 0), (.int 0), (.int 0)] sa6 sb6 kb6 [(.int 92)] [(.int 92), (.int 0), (.int 0), (.int 0), (.int 0), (.int 0), (.int 0), (.int 0), (.int 0), (.int 0), (.int 0), (.int 0), (.int 0), (.int 0), (.int 0), (.int 0)] (0 : Int32) (0 : Int32) cs (1 : Int32) (1 : Int32) hp6 n0 (Nat.le_trans Z0 O6.1) (by decide) (by decide) zn (own_extt OZ O6) Scs hcs (by decide) g_b4 g_bV Ex_b4_6 F_value_b4_6 F_coder_b4_6 F_count_b4_6 F_maybeLatin1_b4_6 V_bV_6 Es6 Fv6 Fc6 Vs6 (by decide) (by decide) (by decide) (by decide) rfl) e6 Ex_b4_6 (g := (mkF m 111 #[.val (.ref a1), .val (.ref sa)] [(.ref sa6), (.ref b4)])) rfl (by rw [hml]; rfl) (argsL := [(.ref sa6)]) (rest := []) (lenOf own_pd32 rfl) rfl rfl (W := 0) (Nat.le_of_eq rfl) (hb hby own_d4_111) (by decide) (by decide) (by decide) (by decide)
  obtain ⟨rfl, N7, K7, P1, P2, P3, P4, Vb2⟩ := hQ7
  have O7 := own_extkl O6 K7 (allS s_b4 (allS s_bV all0))
  have hk7 := Nat.le_trans hkx6 K7.1
  have V_sb_7 := V_sb_6.keep K7 (ninS (Nat.ne_of_lt lt_sb_b4) (ninS ne_sb_bV nin0))
  have Ex_sa_7 := Ex_sa_6.keep K7
  have Ex_b4_7 := Ex_b4_6.keep K7
  have F_value_sa_7 := F_value_sa_6.keep K7 (ninS (Nat.ne_of_lt lt_sa_b4) (ninS ne_sa_bV nin0))
  have F_coder_sa_7 := F_coder_sa_6.keep K7 (ninS (Nat.ne_of_lt lt_sa_b4) (ninS ne_sa_bV nin0))
  have N7' := Fr.app N5' N7
  refine own_st st7 ?_
  refine own_st (fun _ k => XS.aloadN X7.here hx rfl (hb hby own_d4_114) rfl rfl k) ?_
  have P3 : Fld Z T7.heap b4 "java/lang/AbstractStringBuilder" "count" "I" (.int 1) := P3
  obtain ⟨v8, T8, L8, hQ8, X8, st8⟩ := own_callV X7 hx hZ (y := (⟨"java/lang/StringBuilder", "append", "(Ljava/lang/String;)Ljava/lang/StringBuilder;"⟩ : MethodName)) hown (own_w48 hw) (own_w49 hw) (own_w51 hw) (own_w50 hw) (own_w31 hw) (own_w52 hw) (by decide) (own_sap0 l hw [] b4 bV bK [(.int 92), (.int 0), (.int 0), (.int 0), (.int 0), (.int 0), (.int 0), (.int 0), (.int 0), (.int 0), (.int 0), (.int 0), (.int 0), (.int 0), (.int 0), (.int 0)] sa sb skk [(.int (own_Bl (cp.toUInt32.toUInt16.toUInt32.toInt32)))] [(.int 92), (.int (own_Bl (cp.toUInt32.toUInt16.toUInt32.toInt32))), (.int 0), (.int 0), (.int 0), (.int 0), (.int 0), (.int 0), (.int 0), (.int 0), (.int 0), (.int 0), (.int 0), (.int 0), (.int 0), (.int 0)] (1 : Int32) (1 : Int32) cs (1 : Int32) (1 : Int32) T7.heap n0 (Nat.le_trans Z0 O7.1) (by decide) (by decide) zn (own_extt OZ O7) Scs hcs (by decide) g_b4 g_bV Ex_b4_7 P1 P2 P3 P4 Vb2 Ex_sa_7 F_value_sa_7 F_coder_sa_7 V_sb_7 (by decide) (by decide) (by decide) (by decide) rfl) rfl Ex_b4_7 (g := (mkF m 115 #[.val (.ref a1), .val (.ref sa)] [(.ref sa), (.ref b4)])) rfl (by rw [hml]; rfl) (argsL := [(.ref sa)]) (rest := []) (lenOf own_pd32 rfl) rfl rfl (W := 0) (Nat.le_of_eq rfl) (hb hby own_d4_115) (by decide) (by decide) (by decide) (by decide)
  obtain ⟨rfl, N8, K8, R1, R2, R3, R4, Vb3⟩ := hQ8
  have O8 := own_extkl O7 K8 (allS s_b4 (allS s_bV all0))
  have hk8 := Nat.le_trans hk7 K8.1
  have Ex_b4_8 := Ex_b4_7.keep K8
  have N8' := Fr.app N7' N8
  refine own_st st8 ?_
  have R3 : Fld Z T8.heap b4 "java/lang/AbstractStringBuilder" "count" "I" (.int 2) := R3
  show own_Go _ _ _ _ T8 (mkF m 118 #[.val (.ref a1), .val (.ref sa)] [(.ref b4)])
  obtain ⟨v9, T9, L9, hQ9, X9, st9⟩ := own_callV X8 hx hZ (y := (⟨"java/lang/StringBuilder", "toString", "()Ljava/lang/String;"⟩ : MethodName)) hown (own_w98 hw) (own_w99 hw) (own_w101 hw) (own_w100 hw) (own_w31 hw) (own_w102 hw) (by decide) (own_tos0 l hw [] b4 bV bK [(.int 92), (.int (own_Bl (cp.toUInt32.toUInt16.toUInt32.toInt32))), (.int 0), (.int 0), (.int 0), (.int 0), (.int 0), (.int 0), (.int 0), (.int 0), (.int 0), (.int 0), (.int 0), (.int 0), (.int 0), (.int 0)] (2 : Int32) (2 : Int32) cs T8.heap n0 (Nat.le_trans Z0 O8.1) zn (own_extt OZ O8) Scs hcs rfl (by decide) (by decide) (by decide) (by decide) Ex_b4_8 R1 R2 R3 R4 Vb3) rfl Ex_b4_8 (g := (mkF m 118 #[.val (.ref a1), .val (.ref sa)] [(.ref b4)])) rfl (by rw [hml]; rfl) (argsL := []) (rest := []) (lenOf own_pd33 rfl) rfl rfl (W := 0) (Nat.le_of_eq rfl) (hb hby own_d4_118) (by decide) (by decide) (by decide) (by decide)
  obtain ⟨rs, rv, rk, rfl, N9, Et9, Er, Fv_, Fc_, Vr⟩ := hQ9
  have hk9 := Nat.le_trans hk8 Et9.1
  have O9 := own_extt O8 Et9
  have V_bV_9 := Vb3.ext Et9
  have Ex_b4_9 := Ex_b4_8.ext Et9
  have F_value_b4_9 := R1.ext Et9
  have F_coder_b4_9 := R2.ext Et9
  have F_count_b4_9 := R3.ext Et9
  have F_maybeLatin1_b4_9 := R4.ext Et9
  have N9' := Fr.app N8' N9
  refine own_st st9 ?_
  exact own_retAW X9 hS hk9 hx hret rfl hlk rfl (hb hby own_d4_121) ⟨rs, rv, rk, rfl, N9', O9, Er, Fv_, Fc_, Vr, own_ibw (s := s) hI6 X9.warmed⟩ (by decide) (by decide)
def own_tC_Q (Z : State) (a1 : Addr) (cs : Int32) (fm : Value) (cp : Int32) (h0 : Heap) (n0 : Nat) (v : Option Value) (h : Heap) (vm : Vm) (L : List Loc) : Prop := ∃ b bv k, v = some (.ref b) ∧ Fr n0 L ∧ Ext h0 h ∧ Exa Z h b "java/lang/String" ∧ Fld Z h b "java/lang/String" "value" "[B" (.ref bv) ∧ Fld Z h b "java/lang/String" "coder" "B" (.int 1) ∧ Arv Z h bv k .byte (4 : Int32) [(.int (own_B0 (92 : Int32))), (.int (own_B1 (92 : Int32))), (.int (own_B0 (cp.toUInt32.toUInt16.toUInt32.toInt32))), (.int (own_B1 (cp.toUInt32.toUInt16.toUInt32.toInt32)))] (.int 0) ∧ IB Z vm ["\\"]
set_option maxRecDepth 65536 in
set_option maxHeartbeats 40000000 in
theorem own_tC (l : Launch) {Z : State} {a0 : Array Value} (hw : own_W Z a0) (ws : List Jvm.Cond) (a1 : Addr) (cs : Int32) (fm : Value) (cp : Int32) (h0 : Heap) (n0 : Nat) (Z0 : n0 ≤ h0.size) (hn0 : n0 = h0.size) (hcw : Jvm.Lit.compactW.before a0 Z = true) (hh34 : Jvm.Lit.constHeld Z "com/example/isoscope/isoscope/Edn$Char" 34) (zn : Z.heap.size ≤ n0) (OZ : Ext Z.heap h0) (Scs : Sta Z Z.heap "java/lang/String" "COMPACT_STRINGS" "Z" (.int cs)) (hcs : ¬ cs = 0) (Sad : Sta Z Z.heap "java/lang/StringUTF16" "$assertionsDisabled" "Z" (.int 1)) (Shi : Sta Z Z.heap "java/lang/StringUTF16" "HI_BYTE_SHIFT" "I" (.int 0)) (Slo : Sta Z Z.heap "java/lang/StringUTF16" "LO_BYTE_SHIFT" "I" (.int 8)) (Sfm : Sta Z Z.heap "jdk/internal/util/Preconditions" "SIOOBE_FORMATTER" "Ljava/util/function/BiFunction;" fm) (hfm : fm.isRef = true) (n8 : ¬ cp = 8) (n9 : ¬ cp = 9) (n10 : ¬ cp = 10) (n12 : ¬ cp = 12) (n13 : ¬ cp = 13) (n32 : ¬ cp = 32) (hc0 : ¬ cp < 0) (hc1 : (255 : Int32) < cp) (hbm : ((cp.toUInt32 >>> ((16 : Int32) &&& 31).toUInt32).toInt32) = 0) (Ec : Exa Z h0 a1 "com/example/isoscope/isoscope/Edn$Char") (Fp : Fld Z h0 a1 "com/example/isoscope/isoscope/Edn$Char" "codePoint" "I" (.int cp)) :
    MetFree l (⟨"com/example/isoscope/isoscope/Edn$Char", "toString", "()Ljava/lang/String;"⟩ : MethodName) (head1 (Jvm.Cond.code (⟨"com/example/isoscope/isoscope/Edn$Char", "toString", "()Ljava/lang/String;"⟩ : MethodName) prog_8_method_2_code 2 (some (.object "java/lang/String")) :: ws) ({ frames := 10, cells := 9, slots := 86, locals := 143 } : Room)) (fun a U => a = #[(.ref a1)] ∧ Z.Warmed39 U.vm ∧ U.heap = h0 ∧ (fun vm => IB Z vm []) U.vm) (fun _ _ _ _ _ => True) (fun _ U o U' => ∃ v L, o = .returned v ∧ own_tC_Q Z a1 cs fm cp h0 n0 v U'.heap U'.vm L ∧ ReturnedEndW U o U' L ({ frames := 10, cells := 9, slots := 86, locals := 143 } : Room).cells ({ frames := 10, cells := 9, slots := 86, locals := 143 } : Room).slots) := by
  refine own_enterW (J := fun vm => IB Z vm []) (C := ({ frames := 10, cells := 9, slots := 86, locals := 143 } : Room).cells) (S := ({ frames := 10, cells := 9, slots := 86, locals := 143 } : Room).slots) (plainFor_of_name own_pn1) ?_
  intro p e s m below meth c T0 X0 I e0 es hJ hS
  obtain ⟨hx, hby, hml, hown, hnm, hret, hlk, hZ⟩ := I
  have N0 := Fr.nil n0
  have O0 := own_extr h0
  have hk0 : 0 ≤ h0.size := Nat.zero_le _
  refine own_cast (own_ef4 m a1) ?_
  show own_Go _ _ _ _ T0 (mkF m 0 #[.val (.ref a1), .unset] [])
  refine own_st (fun _ k => XS.aloadN X0.here hx rfl (hb hby own_d4_0) rfl rfl k) ?_
  obtain ⟨T1, X1, e1, st1⟩ := getF X0 hx hZ hown (host := "") (Or.inl (own_w14 hw)) Via.refl e0 (Fp.ext O0) (g := (mkF m 1 #[.val (.ref a1), .unset] [(.ref a1)])) rfl rfl (hb hby own_d4_1)
  refine own_st st1 ?_
  refine own_st (Stand.lookupswitchMiss X1 hx (g := (mkF m 4 #[.val (.ref a1), .unset] [(.int cp)])) rfl rfl (hb hby own_d4_4) (by decide) (own_miss cp n8 n9 n10 n12 n13 n32) (by show (0 : Int) ≤ ((4 : Nat) : Int) + 90; decide)) ?_
  show own_Go _ _ _ _ T1 (mkF m 94 #[.val (.ref a1), .unset] [])
  refine own_st (fun _ k => XS.aloadN X1.here hx rfl (hb hby own_d4_94) rfl rfl k) ?_
  obtain ⟨T2, X2, e2, st2⟩ := getF X1 hx hZ hown (host := "") (Or.inl (own_w14 hw)) Via.refl e1 (Fp.ext O0) (g := (mkF m 95 #[.val (.ref a1), .unset] [(.ref a1)])) rfl rfl (hb hby own_d4_95)
  refine own_st st2 ?_
  obtain ⟨v3, T3, L3, hQ3, X3, st3⟩ := own_callS X2 hx hZ (y := (⟨"java/lang/Character", "toString", "(I)Ljava/lang/String;"⟩ : MethodName)) hown (own_w158 hw) (own_w159 hw) (own_w160 hw) (own_w161 hw) (by decide) (own_ctC l hw [] cp cs h0 n0 (Nat.le_trans Z0 O0.1) zn (own_extt OZ O0) Scs hcs Sad Shi Slo hc0 hc1 hbm) e2 (g := (mkF m 98 #[.val (.ref a1), .unset] [(.int cp)])) rfl (by rw [hml]; rfl) (argsL := [(.int cp)]) (rest := []) (lenOf own_pd13 rfl) rfl rfl (W := 0) (Nat.le_of_eq rfl) (hb hby own_d4_98) (by decide) (by decide) (by decide) (by decide)
  obtain ⟨sa, sb, skk, rfl, N3, Et3, Esa, Fsa, Fsb, Vsb⟩ := hQ3
  have hk3 := Nat.le_trans hk0 Et3.1
  have O3 := own_extt O0 Et3
  have N3' := Fr.app N0 N3
  refine own_st st3 ?_
  refine own_st (fun _ k => XS.astoreN X3.here hx rfl (hb hby own_d4_101) rfl rfl (l' := #[.val (.ref a1), .val (.ref sa)]) rfl k) ?_
  obtain ⟨T4, hp4, X4, e4, Et4, A4, D4, -, st4⟩ := newO X3 hx hZ hown (own_w29 hw) (own_w30 hw) (own_w31 hw) rfl (g := (mkF m 102 #[.val (.ref a1), .val (.ref sa)] [])) rfl (hb hby own_d4_102) (by decide) (by decide)
  obtain ⟨b4, g4⟩ : ∃ z, z = T3.heap.size := ⟨_, rfl⟩
  rw [← g4] at A4 D4 st4
  have s_b4 : h0.size ≤ b4 := Nat.le_trans O3.1 (Nat.le_of_eq g4.symm)
  have g_b4 : n0 ≤ b4 := Nat.le_trans Z0 s_b4
  have lt_sa_b4 : sa < b4 := Nat.lt_of_lt_of_le Esa.lt (Nat.le_of_eq g4.symm)
  have lt_sb_b4 : sb < b4 := Nat.lt_of_lt_of_le Vsb.lt (Nat.le_of_eq g4.symm)
  have hk4 := Nat.le_trans hk3 Et4.1
  have O4 := own_extt O3 Et4
  have V_sb_4 := Vsb.ext Et4
  have Ex_sa_4 := Esa.ext Et4
  have F_value_sa_4 := Fsa.ext Et4
  have F_coder_sa_4 := Fsb.ext Et4
  have F_value_b4 : Fld Z hp4 b4 "java/lang/AbstractStringBuilder" "value" "[B" .null := D4 (Or.inl (own_w44 hw)) (ty := (.array .byte)) (by decide)
  have F_coder_b4 : Fld Z hp4 b4 "java/lang/AbstractStringBuilder" "coder" "B" (.int 0) := D4 (Or.inl (own_w46 hw)) (ty := .byte) (by decide)
  have F_count_b4 : Fld Z hp4 b4 "java/lang/AbstractStringBuilder" "count" "I" (.int 0) := D4 (Or.inl (own_w72 hw)) (ty := .int) (by decide)
  have F_maybeLatin1_b4 : Fld Z hp4 b4 "java/lang/AbstractStringBuilder" "maybeLatin1" "Z" (.int 0) := D4 (Or.inl (own_w259 hw)) (ty := .boolean) (by decide)
  refine own_st st4 ?_
  refine own_st (fun _ k => XS.dup X4.here hx rfl (hb hby own_d4_105) rfl rfl k) ?_
  obtain ⟨v5, T5, L5, hQ5, X5, st5⟩ := own_callI X4 hx hZ (y := (⟨"java/lang/StringBuilder", "<init>", "()V"⟩ : MethodName)) rfl hown (own_w32 hw) (own_w33 hw) (own_w31 hw) (own_w34 hw) (by decide) (own_bi l hw [] b4 cs hp4 n0 (Nat.le_trans Z0 O4.1) zn (own_extt OZ O4) Scs hcs g_b4 A4 F_value_b4 F_coder_b4 F_count_b4 F_maybeLatin1_b4) e4 (g := (mkF m 106 #[.val (.ref a1), .val (.ref sa)] [(.ref b4), (.ref b4)])) rfl (by rw [hml]; rfl) (argsL := []) (rest := [(.ref b4)]) (lenOf own_pd0 rfl) rfl rfl (W := 1) (Nat.le_of_eq rfl) (hb hby own_d4_106) (by decide) (by decide) (by decide) (by decide)
  obtain ⟨rfl, N5, K5, bV, bK, g_bV, sbv, G1, G2, G3, G4, Vb⟩ := hQ5
  have s_bV : h0.size ≤ bV := Nat.le_trans O4.1 sbv
  have ne_sa_bV : sa ≠ bV := Nat.ne_of_lt (Nat.lt_of_lt_of_le Ex_sa_4.lt sbv)
  have ne_sb_bV : sb ≠ bV := Nat.ne_of_lt (Nat.lt_of_lt_of_le V_sb_4.lt sbv)
  have ne_b4_bV : b4 ≠ bV := Nat.ne_of_lt (Nat.lt_of_lt_of_le A4.lt sbv)
  have O5 := own_extk O4 K5 s_b4
  have hk5 := Nat.le_trans hk4 K5.1
  have V_sb_5 := V_sb_4.keep K5 (ninS (Nat.ne_of_lt lt_sb_b4) nin0)
  have Ex_sa_5 := Ex_sa_4.keep K5
  have Ex_b4_5 := A4.keep K5
  have F_value_sa_5 := F_value_sa_4.keep K5 (ninS (Nat.ne_of_lt lt_sa_b4) nin0)
  have F_coder_sa_5 := F_coder_sa_4.keep K5 (ninS (Nat.ne_of_lt lt_sa_b4) nin0)
  have N5' := Fr.app N3' N5
  refine own_st st5 ?_
  obtain ⟨sa6, T6, hp6, ks6, sb6, kb6, X6, e6, Et6, hS, hkx6, hZ, hown, Es6, Fc6, Fv6, Vs6, la6, lb6, hI6, hL6, st6⟩ := ldcSVL X5 hx hZ hown (own_w47 hw) (own_wS hw) rfl hS hk5 (by rw [es, ← hn0]; exact N5') (fun b cl q => by rw [es]; exact OZ.2 b cl q) hJ (by decide) hh34 hcw (vs := [(.int 92)]) (z := (1 : Int32)) ⟨by decide, rfl⟩ (by decide) (by decide) (g := (mkF m 109 #[.val (.ref a1), .val (.ref sa)] [(.ref b4)])) rfl (hb hby own_d4_109) (n := 4) (by decide) (by decide) (by decide) (by decide)
  have hk6 := Nat.le_trans hk5 Et6.1
  have O6 := own_extt O5 Et6
  have V_sb_6 := V_sb_5.ext Et6
  have V_bV_6 := Vb.ext Et6
  have Ex_sa_6 := Ex_sa_5.ext Et6
  have Ex_b4_6 := Ex_b4_5.ext Et6
  have F_value_sa_6 := F_value_sa_5.ext Et6
  have F_coder_sa_6 := F_coder_sa_5.ext Et6
  have F_value_b4_6 := G1.ext Et6
  have F_coder_b4_6 := G2.ext Et6
  have F_count_b4_6 := G3.ext Et6
  have F_maybeLatin1_b4_6 := G4.ext Et6
  refine own_st st6 ?_
  show own_Go _ _ _ _ T6 (mkF m 111 #[.val (.ref a1), .val (.ref sa)] [(.ref sa6), (.ref b4)])
  obtain ⟨v7, T7, L7, hQ7, X7, st7⟩ := own_callV X6 hx hZ (y := (⟨"java/lang/StringBuilder", "append", "(Ljava/lang/String;)Ljava/lang/StringBuilder;"⟩ : MethodName)) hown (own_w48 hw) (own_w49 hw) (own_w51 hw) (own_w50 hw) (own_w31 hw) (own_w52 hw) (by decide) (own_sap0 l hw [] b4 bV bK [(.int 0), (.int 0), (.int 0), (.int 0), (.int 0), (.int 0), (.int 0), (.int 0), (.int 0), (.int 0), (.int 0), (.int 0), (.int 0), (.int 0), (.int 0), (.int 0)] sa6 sb6 kb6 [(.int 92)] [(.int 92), (.int 0), (.int 0), (.int 0), (.int 0), (.int 0), (.int 0), (.int 0), (.int 0), (.int 0), (.int 0), (.int 0), (.int 0), (.int 0), (.int 0), (.int 0)] (0 : Int32) (0 : Int32) cs (1 : Int32) (1 : Int32) hp6 n0 (Nat.le_trans Z0 O6.1) (by decide) (by decide) zn (own_extt OZ O6) Scs hcs (by decide) g_b4 g_bV Ex_b4_6 F_value_b4_6 F_coder_b4_6 F_count_b4_6 F_maybeLatin1_b4_6 V_bV_6 Es6 Fv6 Fc6 Vs6 (by decide) (by decide) (by decide) (by decide) rfl) e6 Ex_b4_6 (g := (mkF m 111 #[.val (.ref a1), .val (.ref sa)] [(.ref sa6), (.ref b4)])) rfl (by rw [hml]; rfl) (argsL := [(.ref sa6)]) (rest := []) (lenOf own_pd32 rfl) rfl rfl (W := 0) (Nat.le_of_eq rfl) (hb hby own_d4_111) (by decide) (by decide) (by decide) (by decide)
  obtain ⟨rfl, N7, K7, P1, P2, P3, P4, Vb2⟩ := hQ7
  have O7 := own_extkl O6 K7 (allS s_b4 (allS s_bV all0))
  have hk7 := Nat.le_trans hkx6 K7.1
  have V_sb_7 := V_sb_6.keep K7 (ninS (Nat.ne_of_lt lt_sb_b4) (ninS ne_sb_bV nin0))
  have Ex_sa_7 := Ex_sa_6.keep K7
  have Ex_b4_7 := Ex_b4_6.keep K7
  have F_value_sa_7 := F_value_sa_6.keep K7 (ninS (Nat.ne_of_lt lt_sa_b4) (ninS ne_sa_bV nin0))
  have F_coder_sa_7 := F_coder_sa_6.keep K7 (ninS (Nat.ne_of_lt lt_sa_b4) (ninS ne_sa_bV nin0))
  have N7' := Fr.app N5' N7
  refine own_st st7 ?_
  refine own_st (fun _ k => XS.aloadN X7.here hx rfl (hb hby own_d4_114) rfl rfl k) ?_
  have P3 : Fld Z T7.heap b4 "java/lang/AbstractStringBuilder" "count" "I" (.int 1) := P3
  obtain ⟨v8, T8, L8, hQ8, X8, st8⟩ := own_callV X7 hx hZ (y := (⟨"java/lang/StringBuilder", "append", "(Ljava/lang/String;)Ljava/lang/StringBuilder;"⟩ : MethodName)) hown (own_w48 hw) (own_w49 hw) (own_w51 hw) (own_w50 hw) (own_w31 hw) (own_w52 hw) (by decide) (own_sap1 l hw [] b4 bV bK cs fm sa sb skk [(.int (own_B0 (cp.toUInt32.toUInt16.toUInt32.toInt32))), (.int (own_B1 (cp.toUInt32.toUInt16.toUInt32.toInt32)))] [(.int (own_B0 (92 : Int32))), (.int (own_B1 (92 : Int32))), (.int (own_B0 (cp.toUInt32.toUInt16.toUInt32.toInt32))), (.int (own_B1 (cp.toUInt32.toUInt16.toUInt32.toInt32))), (.int 0), (.int 0), (.int 0), (.int 0), (.int 0), (.int 0), (.int 0), (.int 0), (.int 0), (.int 0), (.int 0), (.int 0), (.int 0), (.int 0), (.int 0), (.int 0), (.int 0), (.int 0), (.int 0), (.int 0), (.int 0), (.int 0), (.int 0), (.int 0), (.int 0), (.int 0), (.int 0), (.int 0)] (2 : Int32) (1 : Int32) T7.heap n0 (Nat.le_trans Z0 O7.1) (by decide) (by decide) zn (own_extt OZ O7) Scs hcs Sad Shi Slo Sfm hfm g_b4 Ex_b4_7 P1 P2 P3 P4 Vb2 Ex_sa_7 F_value_sa_7 F_coder_sa_7 V_sb_7 (by decide) (by decide) rfl) rfl Ex_b4_7 (g := (mkF m 115 #[.val (.ref a1), .val (.ref sa)] [(.ref sa), (.ref b4)])) rfl (by rw [hml]; rfl) (argsL := [(.ref sa)]) (rest := []) (lenOf own_pd32 rfl) rfl rfl (W := 0) (Nat.le_of_eq rfl) (hb hby own_d4_115) (by decide) (by decide) (by decide) (by decide)
  obtain ⟨rfl, N8, K8, nb, kn, g_nb, sn_, R1, R2, R3, R4, Vb3⟩ := hQ8
  have O8 := own_extkl O7 K8 (allS s_b4 all0)
  have hk8 := Nat.le_trans hk7 K8.1
  have Ex_b4_8 := Ex_b4_7.keep K8
  have N8' := Fr.app N7' N8
  refine own_st st8 ?_
  have R3 : Fld Z T8.heap b4 "java/lang/AbstractStringBuilder" "count" "I" (.int 2) := R3
  show own_Go _ _ _ _ T8 (mkF m 118 #[.val (.ref a1), .val (.ref sa)] [(.ref b4)])
  obtain ⟨v9, T9, L9, hQ9, X9, st9⟩ := own_callV X8 hx hZ (y := (⟨"java/lang/StringBuilder", "toString", "()Ljava/lang/String;"⟩ : MethodName)) hown (own_w98 hw) (own_w99 hw) (own_w101 hw) (own_w100 hw) (own_w31 hw) (own_w102 hw) (by decide) (own_tos1 l hw [] b4 nb kn [(.int (own_B0 (92 : Int32))), (.int (own_B1 (92 : Int32))), (.int (own_B0 (cp.toUInt32.toUInt16.toUInt32.toInt32))), (.int (own_B1 (cp.toUInt32.toUInt16.toUInt32.toInt32))), (.int 0), (.int 0), (.int 0), (.int 0), (.int 0), (.int 0), (.int 0), (.int 0), (.int 0), (.int 0), (.int 0), (.int 0), (.int 0), (.int 0), (.int 0), (.int 0), (.int 0), (.int 0), (.int 0), (.int 0), (.int 0), (.int 0), (.int 0), (.int 0), (.int 0), (.int 0), (.int 0), (.int 0)] (2 : Int32) (4 : Int32) cs T8.heap n0 (Nat.le_trans Z0 O8.1) zn (own_extt OZ O8) Scs hcs (by decide) (by decide) (by decide) (by decide) (by decide) Ex_b4_8 R1 R2 R3 R4 Vb3) rfl Ex_b4_8 (g := (mkF m 118 #[.val (.ref a1), .val (.ref sa)] [(.ref b4)])) rfl (by rw [hml]; rfl) (argsL := []) (rest := []) (lenOf own_pd33 rfl) rfl rfl (W := 0) (Nat.le_of_eq rfl) (hb hby own_d4_118) (by decide) (by decide) (by decide) (by decide)
  obtain ⟨rs, rv, rk, rfl, N9, Et9, Er, Fv_, Fc_, Vr⟩ := hQ9
  have hk9 := Nat.le_trans hk8 Et9.1
  have O9 := own_extt O8 Et9
  have V_nb_9 := Vb3.ext Et9
  have Ex_b4_9 := Ex_b4_8.ext Et9
  have F_value_b4_9 := R1.ext Et9
  have F_coder_b4_9 := R2.ext Et9
  have F_count_b4_9 := R3.ext Et9
  have F_maybeLatin1_b4_9 := R4.ext Et9
  have N9' := Fr.app N8' N9
  refine own_st st9 ?_
  exact own_retAW X9 hS hk9 hx hret rfl hlk rfl (hb hby own_d4_121) ⟨rs, rv, rk, rfl, N9', O9, Er, Fv_, Fc_, Vr, own_ibw (s := s) hI6 X9.warmed⟩ (by decide) (by decide)
def own_tD_Q (Z : State) (a1 : Addr) (cs : Int32) (fm : Value) (cp : Int32) (h0 : Heap) (n0 : Nat) (v : Option Value) (h : Heap) (vm : Vm) (L : List Loc) : Prop := ∃ b bv k, v = some (.ref b) ∧ Fr n0 L ∧ Ext h0 h ∧ Exa Z h b "java/lang/String" ∧ Fld Z h b "java/lang/String" "value" "[B" (.ref bv) ∧ Fld Z h b "java/lang/String" "coder" "B" (.int 1) ∧ Arv Z h bv k .byte (6 : Int32) [(.int (own_B0 (92 : Int32))), (.int (own_B1 (92 : Int32))), (.int (own_B0 (own_HS cp))), (.int (own_B1 (own_HS cp))), (.int (own_B0 (own_LS cp))), (.int (own_B1 (own_LS cp)))] (.int 0) ∧ IB Z vm ["\\"]
set_option maxRecDepth 65536 in
set_option maxHeartbeats 40000000 in
theorem own_tD (l : Launch) {Z : State} {a0 : Array Value} (hw : own_W Z a0) (ws : List Jvm.Cond) (a1 : Addr) (cs : Int32) (fm : Value) (cp : Int32) (h0 : Heap) (n0 : Nat) (Z0 : n0 ≤ h0.size) (hn0 : n0 = h0.size) (hcw : Jvm.Lit.compactW.before a0 Z = true) (hh34 : Jvm.Lit.constHeld Z "com/example/isoscope/isoscope/Edn$Char" 34) (zn : Z.heap.size ≤ n0) (OZ : Ext Z.heap h0) (Scs : Sta Z Z.heap "java/lang/String" "COMPACT_STRINGS" "Z" (.int cs)) (hcs : ¬ cs = 0) (Sad : Sta Z Z.heap "java/lang/StringUTF16" "$assertionsDisabled" "Z" (.int 1)) (Shi : Sta Z Z.heap "java/lang/StringUTF16" "HI_BYTE_SHIFT" "I" (.int 0)) (Slo : Sta Z Z.heap "java/lang/StringUTF16" "LO_BYTE_SHIFT" "I" (.int 8)) (Sfm : Sta Z Z.heap "jdk/internal/util/Preconditions" "SIOOBE_FORMATTER" "Ljava/util/function/BiFunction;" fm) (hfm : fm.isRef = true) (n8 : ¬ cp = 8) (n9 : ¬ cp = 9) (n10 : ¬ cp = 10) (n12 : ¬ cp = 12) (n13 : ¬ cp = 13) (n32 : ¬ cp = 32) (hc0 : ¬ cp < 0) (hc1 : (255 : Int32) < cp) (hbm : ¬ ((cp.toUInt32 >>> ((16 : Int32) &&& 31).toUInt32).toInt32) = 0) (hs0 : ¬ cp < (65536 : Int32)) (hs1 : cp < (1114112 : Int32)) (Ec : Exa Z h0 a1 "com/example/isoscope/isoscope/Edn$Char") (Fp : Fld Z h0 a1 "com/example/isoscope/isoscope/Edn$Char" "codePoint" "I" (.int cp)) :
    MetFree l (⟨"com/example/isoscope/isoscope/Edn$Char", "toString", "()Ljava/lang/String;"⟩ : MethodName) (head1 (Jvm.Cond.code (⟨"com/example/isoscope/isoscope/Edn$Char", "toString", "()Ljava/lang/String;"⟩ : MethodName) prog_8_method_2_code 2 (some (.object "java/lang/String")) :: ws) ({ frames := 10, cells := 9, slots := 88, locals := 143 } : Room)) (fun a U => a = #[(.ref a1)] ∧ Z.Warmed39 U.vm ∧ U.heap = h0 ∧ (fun vm => IB Z vm []) U.vm) (fun _ _ _ _ _ => True) (fun _ U o U' => ∃ v L, o = .returned v ∧ own_tD_Q Z a1 cs fm cp h0 n0 v U'.heap U'.vm L ∧ ReturnedEndW U o U' L ({ frames := 10, cells := 9, slots := 88, locals := 143 } : Room).cells ({ frames := 10, cells := 9, slots := 88, locals := 143 } : Room).slots) := by
  refine own_enterW (J := fun vm => IB Z vm []) (C := ({ frames := 10, cells := 9, slots := 88, locals := 143 } : Room).cells) (S := ({ frames := 10, cells := 9, slots := 88, locals := 143 } : Room).slots) (plainFor_of_name own_pn1) ?_
  intro p e s m below meth c T0 X0 I e0 es hJ hS
  obtain ⟨hx, hby, hml, hown, hnm, hret, hlk, hZ⟩ := I
  have N0 := Fr.nil n0
  have O0 := own_extr h0
  have hk0 : 0 ≤ h0.size := Nat.zero_le _
  refine own_cast (own_ef4 m a1) ?_
  show own_Go _ _ _ _ T0 (mkF m 0 #[.val (.ref a1), .unset] [])
  refine own_st (fun _ k => XS.aloadN X0.here hx rfl (hb hby own_d4_0) rfl rfl k) ?_
  obtain ⟨T1, X1, e1, st1⟩ := getF X0 hx hZ hown (host := "") (Or.inl (own_w14 hw)) Via.refl e0 (Fp.ext O0) (g := (mkF m 1 #[.val (.ref a1), .unset] [(.ref a1)])) rfl rfl (hb hby own_d4_1)
  refine own_st st1 ?_
  refine own_st (Stand.lookupswitchMiss X1 hx (g := (mkF m 4 #[.val (.ref a1), .unset] [(.int cp)])) rfl rfl (hb hby own_d4_4) (by decide) (own_miss cp n8 n9 n10 n12 n13 n32) (by show (0 : Int) ≤ ((4 : Nat) : Int) + 90; decide)) ?_
  show own_Go _ _ _ _ T1 (mkF m 94 #[.val (.ref a1), .unset] [])
  refine own_st (fun _ k => XS.aloadN X1.here hx rfl (hb hby own_d4_94) rfl rfl k) ?_
  obtain ⟨T2, X2, e2, st2⟩ := getF X1 hx hZ hown (host := "") (Or.inl (own_w14 hw)) Via.refl e1 (Fp.ext O0) (g := (mkF m 95 #[.val (.ref a1), .unset] [(.ref a1)])) rfl rfl (hb hby own_d4_95)
  refine own_st st2 ?_
  obtain ⟨v3, T3, L3, hQ3, X3, st3⟩ := own_callS X2 hx hZ (y := (⟨"java/lang/Character", "toString", "(I)Ljava/lang/String;"⟩ : MethodName)) hown (own_w158 hw) (own_w159 hw) (own_w160 hw) (own_w161 hw) (by decide) (own_ctD l hw [] cp cs h0 n0 (Nat.le_trans Z0 O0.1) zn (own_extt OZ O0) Scs hcs Sad Shi Slo hc0 hc1 hbm hs0 hs1) e2 (g := (mkF m 98 #[.val (.ref a1), .unset] [(.int cp)])) rfl (by rw [hml]; rfl) (argsL := [(.int cp)]) (rest := []) (lenOf own_pd13 rfl) rfl rfl (W := 0) (Nat.le_of_eq rfl) (hb hby own_d4_98) (by decide) (by decide) (by decide) (by decide)
  obtain ⟨sa, sb, skk, rfl, N3, Et3, Esa, Fsa, Fsb, Vsb⟩ := hQ3
  have hk3 := Nat.le_trans hk0 Et3.1
  have O3 := own_extt O0 Et3
  have N3' := Fr.app N0 N3
  refine own_st st3 ?_
  refine own_st (fun _ k => XS.astoreN X3.here hx rfl (hb hby own_d4_101) rfl rfl (l' := #[.val (.ref a1), .val (.ref sa)]) rfl k) ?_
  obtain ⟨T4, hp4, X4, e4, Et4, A4, D4, -, st4⟩ := newO X3 hx hZ hown (own_w29 hw) (own_w30 hw) (own_w31 hw) rfl (g := (mkF m 102 #[.val (.ref a1), .val (.ref sa)] [])) rfl (hb hby own_d4_102) (by decide) (by decide)
  obtain ⟨b4, g4⟩ : ∃ z, z = T3.heap.size := ⟨_, rfl⟩
  rw [← g4] at A4 D4 st4
  have s_b4 : h0.size ≤ b4 := Nat.le_trans O3.1 (Nat.le_of_eq g4.symm)
  have g_b4 : n0 ≤ b4 := Nat.le_trans Z0 s_b4
  have lt_sa_b4 : sa < b4 := Nat.lt_of_lt_of_le Esa.lt (Nat.le_of_eq g4.symm)
  have lt_sb_b4 : sb < b4 := Nat.lt_of_lt_of_le Vsb.lt (Nat.le_of_eq g4.symm)
  have hk4 := Nat.le_trans hk3 Et4.1
  have O4 := own_extt O3 Et4
  have V_sb_4 := Vsb.ext Et4
  have Ex_sa_4 := Esa.ext Et4
  have F_value_sa_4 := Fsa.ext Et4
  have F_coder_sa_4 := Fsb.ext Et4
  have F_value_b4 : Fld Z hp4 b4 "java/lang/AbstractStringBuilder" "value" "[B" .null := D4 (Or.inl (own_w44 hw)) (ty := (.array .byte)) (by decide)
  have F_coder_b4 : Fld Z hp4 b4 "java/lang/AbstractStringBuilder" "coder" "B" (.int 0) := D4 (Or.inl (own_w46 hw)) (ty := .byte) (by decide)
  have F_count_b4 : Fld Z hp4 b4 "java/lang/AbstractStringBuilder" "count" "I" (.int 0) := D4 (Or.inl (own_w72 hw)) (ty := .int) (by decide)
  have F_maybeLatin1_b4 : Fld Z hp4 b4 "java/lang/AbstractStringBuilder" "maybeLatin1" "Z" (.int 0) := D4 (Or.inl (own_w259 hw)) (ty := .boolean) (by decide)
  refine own_st st4 ?_
  refine own_st (fun _ k => XS.dup X4.here hx rfl (hb hby own_d4_105) rfl rfl k) ?_
  obtain ⟨v5, T5, L5, hQ5, X5, st5⟩ := own_callI X4 hx hZ (y := (⟨"java/lang/StringBuilder", "<init>", "()V"⟩ : MethodName)) rfl hown (own_w32 hw) (own_w33 hw) (own_w31 hw) (own_w34 hw) (by decide) (own_bi l hw [] b4 cs hp4 n0 (Nat.le_trans Z0 O4.1) zn (own_extt OZ O4) Scs hcs g_b4 A4 F_value_b4 F_coder_b4 F_count_b4 F_maybeLatin1_b4) e4 (g := (mkF m 106 #[.val (.ref a1), .val (.ref sa)] [(.ref b4), (.ref b4)])) rfl (by rw [hml]; rfl) (argsL := []) (rest := [(.ref b4)]) (lenOf own_pd0 rfl) rfl rfl (W := 1) (Nat.le_of_eq rfl) (hb hby own_d4_106) (by decide) (by decide) (by decide) (by decide)
  obtain ⟨rfl, N5, K5, bV, bK, g_bV, sbv, G1, G2, G3, G4, Vb⟩ := hQ5
  have s_bV : h0.size ≤ bV := Nat.le_trans O4.1 sbv
  have ne_sa_bV : sa ≠ bV := Nat.ne_of_lt (Nat.lt_of_lt_of_le Ex_sa_4.lt sbv)
  have ne_sb_bV : sb ≠ bV := Nat.ne_of_lt (Nat.lt_of_lt_of_le V_sb_4.lt sbv)
  have ne_b4_bV : b4 ≠ bV := Nat.ne_of_lt (Nat.lt_of_lt_of_le A4.lt sbv)
  have O5 := own_extk O4 K5 s_b4
  have hk5 := Nat.le_trans hk4 K5.1
  have V_sb_5 := V_sb_4.keep K5 (ninS (Nat.ne_of_lt lt_sb_b4) nin0)
  have Ex_sa_5 := Ex_sa_4.keep K5
  have Ex_b4_5 := A4.keep K5
  have F_value_sa_5 := F_value_sa_4.keep K5 (ninS (Nat.ne_of_lt lt_sa_b4) nin0)
  have F_coder_sa_5 := F_coder_sa_4.keep K5 (ninS (Nat.ne_of_lt lt_sa_b4) nin0)
  have N5' := Fr.app N3' N5
  refine own_st st5 ?_
  obtain ⟨sa6, T6, hp6, ks6, sb6, kb6, X6, e6, Et6, hS, hkx6, hZ, hown, Es6, Fc6, Fv6, Vs6, la6, lb6, hI6, hL6, st6⟩ := ldcSVL X5 hx hZ hown (own_w47 hw) (own_wS hw) rfl hS hk5 (by rw [es, ← hn0]; exact N5') (fun b cl q => by rw [es]; exact OZ.2 b cl q) hJ (by decide) hh34 hcw (vs := [(.int 92)]) (z := (1 : Int32)) ⟨by decide, rfl⟩ (by decide) (by decide) (g := (mkF m 109 #[.val (.ref a1), .val (.ref sa)] [(.ref b4)])) rfl (hb hby own_d4_109) (n := 4) (by decide) (by decide) (by decide) (by decide)
  have hk6 := Nat.le_trans hk5 Et6.1
  have O6 := own_extt O5 Et6
  have V_sb_6 := V_sb_5.ext Et6
  have V_bV_6 := Vb.ext Et6
  have Ex_sa_6 := Ex_sa_5.ext Et6
  have Ex_b4_6 := Ex_b4_5.ext Et6
  have F_value_sa_6 := F_value_sa_5.ext Et6
  have F_coder_sa_6 := F_coder_sa_5.ext Et6
  have F_value_b4_6 := G1.ext Et6
  have F_coder_b4_6 := G2.ext Et6
  have F_count_b4_6 := G3.ext Et6
  have F_maybeLatin1_b4_6 := G4.ext Et6
  refine own_st st6 ?_
  show own_Go _ _ _ _ T6 (mkF m 111 #[.val (.ref a1), .val (.ref sa)] [(.ref sa6), (.ref b4)])
  obtain ⟨v7, T7, L7, hQ7, X7, st7⟩ := own_callV X6 hx hZ (y := (⟨"java/lang/StringBuilder", "append", "(Ljava/lang/String;)Ljava/lang/StringBuilder;"⟩ : MethodName)) hown (own_w48 hw) (own_w49 hw) (own_w51 hw) (own_w50 hw) (own_w31 hw) (own_w52 hw) (by decide) (own_sap0 l hw [] b4 bV bK [(.int 0), (.int 0), (.int 0), (.int 0), (.int 0), (.int 0), (.int 0), (.int 0), (.int 0), (.int 0), (.int 0), (.int 0), (.int 0), (.int 0), (.int 0), (.int 0)] sa6 sb6 kb6 [(.int 92)] [(.int 92), (.int 0), (.int 0), (.int 0), (.int 0), (.int 0), (.int 0), (.int 0), (.int 0), (.int 0), (.int 0), (.int 0), (.int 0), (.int 0), (.int 0), (.int 0)] (0 : Int32) (0 : Int32) cs (1 : Int32) (1 : Int32) hp6 n0 (Nat.le_trans Z0 O6.1) (by decide) (by decide) zn (own_extt OZ O6) Scs hcs (by decide) g_b4 g_bV Ex_b4_6 F_value_b4_6 F_coder_b4_6 F_count_b4_6 F_maybeLatin1_b4_6 V_bV_6 Es6 Fv6 Fc6 Vs6 (by decide) (by decide) (by decide) (by decide) rfl) e6 Ex_b4_6 (g := (mkF m 111 #[.val (.ref a1), .val (.ref sa)] [(.ref sa6), (.ref b4)])) rfl (by rw [hml]; rfl) (argsL := [(.ref sa6)]) (rest := []) (lenOf own_pd32 rfl) rfl rfl (W := 0) (Nat.le_of_eq rfl) (hb hby own_d4_111) (by decide) (by decide) (by decide) (by decide)
  obtain ⟨rfl, N7, K7, P1, P2, P3, P4, Vb2⟩ := hQ7
  have O7 := own_extkl O6 K7 (allS s_b4 (allS s_bV all0))
  have hk7 := Nat.le_trans hkx6 K7.1
  have V_sb_7 := V_sb_6.keep K7 (ninS (Nat.ne_of_lt lt_sb_b4) (ninS ne_sb_bV nin0))
  have Ex_sa_7 := Ex_sa_6.keep K7
  have Ex_b4_7 := Ex_b4_6.keep K7
  have F_value_sa_7 := F_value_sa_6.keep K7 (ninS (Nat.ne_of_lt lt_sa_b4) (ninS ne_sa_bV nin0))
  have F_coder_sa_7 := F_coder_sa_6.keep K7 (ninS (Nat.ne_of_lt lt_sa_b4) (ninS ne_sa_bV nin0))
  have N7' := Fr.app N5' N7
  refine own_st st7 ?_
  refine own_st (fun _ k => XS.aloadN X7.here hx rfl (hb hby own_d4_114) rfl rfl k) ?_
  have P3 : Fld Z T7.heap b4 "java/lang/AbstractStringBuilder" "count" "I" (.int 1) := P3
  obtain ⟨v8, T8, L8, hQ8, X8, st8⟩ := own_callV X7 hx hZ (y := (⟨"java/lang/StringBuilder", "append", "(Ljava/lang/String;)Ljava/lang/StringBuilder;"⟩ : MethodName)) hown (own_w48 hw) (own_w49 hw) (own_w51 hw) (own_w50 hw) (own_w31 hw) (own_w52 hw) (by decide) (own_sap1 l hw [] b4 bV bK cs fm sa sb skk [(.int (own_B0 (own_HS cp))), (.int (own_B1 (own_HS cp))), (.int (own_B0 (own_LS cp))), (.int (own_B1 (own_LS cp)))] [(.int (own_B0 (92 : Int32))), (.int (own_B1 (92 : Int32))), (.int (own_B0 (own_HS cp))), (.int (own_B1 (own_HS cp))), (.int (own_B0 (own_LS cp))), (.int (own_B1 (own_LS cp))), (.int 0), (.int 0), (.int 0), (.int 0), (.int 0), (.int 0), (.int 0), (.int 0), (.int 0), (.int 0), (.int 0), (.int 0), (.int 0), (.int 0), (.int 0), (.int 0), (.int 0), (.int 0), (.int 0), (.int 0), (.int 0), (.int 0), (.int 0), (.int 0), (.int 0), (.int 0)] (4 : Int32) (2 : Int32) T7.heap n0 (Nat.le_trans Z0 O7.1) (by decide) (by decide) zn (own_extt OZ O7) Scs hcs Sad Shi Slo Sfm hfm g_b4 Ex_b4_7 P1 P2 P3 P4 Vb2 Ex_sa_7 F_value_sa_7 F_coder_sa_7 V_sb_7 (by decide) (by decide) rfl) rfl Ex_b4_7 (g := (mkF m 115 #[.val (.ref a1), .val (.ref sa)] [(.ref sa), (.ref b4)])) rfl (by rw [hml]; rfl) (argsL := [(.ref sa)]) (rest := []) (lenOf own_pd32 rfl) rfl rfl (W := 0) (Nat.le_of_eq rfl) (hb hby own_d4_115) (by decide) (by decide) (by decide) (by decide)
  obtain ⟨rfl, N8, K8, nb, kn, g_nb, sn_, R1, R2, R3, R4, Vb3⟩ := hQ8
  have O8 := own_extkl O7 K8 (allS s_b4 all0)
  have hk8 := Nat.le_trans hk7 K8.1
  have Ex_b4_8 := Ex_b4_7.keep K8
  have N8' := Fr.app N7' N8
  refine own_st st8 ?_
  have R3 : Fld Z T8.heap b4 "java/lang/AbstractStringBuilder" "count" "I" (.int 3) := R3
  show own_Go _ _ _ _ T8 (mkF m 118 #[.val (.ref a1), .val (.ref sa)] [(.ref b4)])
  obtain ⟨v9, T9, L9, hQ9, X9, st9⟩ := own_callV X8 hx hZ (y := (⟨"java/lang/StringBuilder", "toString", "()Ljava/lang/String;"⟩ : MethodName)) hown (own_w98 hw) (own_w99 hw) (own_w101 hw) (own_w100 hw) (own_w31 hw) (own_w102 hw) (by decide) (own_tos1 l hw [] b4 nb kn [(.int (own_B0 (92 : Int32))), (.int (own_B1 (92 : Int32))), (.int (own_B0 (own_HS cp))), (.int (own_B1 (own_HS cp))), (.int (own_B0 (own_LS cp))), (.int (own_B1 (own_LS cp))), (.int 0), (.int 0), (.int 0), (.int 0), (.int 0), (.int 0), (.int 0), (.int 0), (.int 0), (.int 0), (.int 0), (.int 0), (.int 0), (.int 0), (.int 0), (.int 0), (.int 0), (.int 0), (.int 0), (.int 0), (.int 0), (.int 0), (.int 0), (.int 0), (.int 0), (.int 0)] (3 : Int32) (6 : Int32) cs T8.heap n0 (Nat.le_trans Z0 O8.1) zn (own_extt OZ O8) Scs hcs (by decide) (by decide) (by decide) (by decide) (by decide) Ex_b4_8 R1 R2 R3 R4 Vb3) rfl Ex_b4_8 (g := (mkF m 118 #[.val (.ref a1), .val (.ref sa)] [(.ref b4)])) rfl (by rw [hml]; rfl) (argsL := []) (rest := []) (lenOf own_pd33 rfl) rfl rfl (W := 0) (Nat.le_of_eq rfl) (hb hby own_d4_118) (by decide) (by decide) (by decide) (by decide)
  obtain ⟨rs, rv, rk, rfl, N9, Et9, Er, Fv_, Fc_, Vr⟩ := hQ9
  have hk9 := Nat.le_trans hk8 Et9.1
  have O9 := own_extt O8 Et9
  have V_nb_9 := Vb3.ext Et9
  have Ex_b4_9 := Ex_b4_8.ext Et9
  have F_value_b4_9 := R1.ext Et9
  have F_coder_b4_9 := R2.ext Et9
  have F_count_b4_9 := R3.ext Et9
  have F_maybeLatin1_b4_9 := R4.ext Et9
  have N9' := Fr.app N8' N9
  refine own_st st9 ?_
  exact own_retAW X9 hS hk9 hx hret rfl hlk rfl (hb hby own_d4_121) ⟨rs, rv, rk, rfl, N9', O9, Er, Fv_, Fc_, Vr, own_ibw (s := s) hI6 X9.warmed⟩ (by decide) (by decide)
theorem own_le255 {x : Int32} (h : ¬ (255 : Int32) < x) : x.toInt ≤ 255 := by
  have q : ¬ (255 : Int32).toInt < x.toInt := fun e => h (Int32.lt_iff_toInt_lt.mpr e)
  have z : (255 : Int32).toInt = 255 := by decide
  omega
theorem own_ltB {x : Int32} (h : ¬ (255 : Int32) < x) : x < (65536 : Int32) := by
  have q := own_le255 h
  have z : (65536 : Int32).toInt = 65536 := by decide
  exact Int32.lt_iff_toInt_lt.mpr (by omega)
theorem own_ltC {x : Int32} (h : x < (65536 : Int32)) : x.toInt < 65536 := by
  have q := Int32.lt_iff_toInt_lt.mp h
  have z : (65536 : Int32).toInt = 65536 := by decide
  omega
theorem own_geD {x : Int32} (h : ¬ x < (65536 : Int32)) : 65536 ≤ x.toInt := by
  have q : ¬ x.toInt < (65536 : Int32).toInt := fun e => h (Int32.lt_iff_toInt_lt.mpr e)
  have z : (65536 : Int32).toInt = 65536 := by decide
  omega
theorem own_ltD {x : Int32} (h : x.toInt < 1114112) : x < (1114112 : Int32) := by
  have z : (1114112 : Int32).toInt = 1114112 := by decide
  exact Int32.lt_iff_toInt_lt.mpr (by omega)
def own_law_Q (Z : State) (p1 p2 cs : Int32) (fm : Value) (h0 : Heap) (n0 : Nat) (v : Option Value) (h : Heap) (vm : Vm) (L : List Loc) : Prop := v = some (.int 1) ∧ Fr n0 L
set_option maxRecDepth 65536 in
set_option maxHeartbeats 40000000 in
theorem own_law (l : Launch) {Z : State} {a0 : Array Value} (hw : own_W Z a0) (ws : List Jvm.Cond) (p1 p2 cs : Int32) (fm : Value) (h0 : Heap) (n0 : Nat) (Z0 : n0 ≤ h0.size) (hn0 : n0 = h0.size) (hcw : Jvm.Lit.compactW.before a0 Z = true) (hh13 : Jvm.Lit.constHeld Z "com/example/isoscope/isoscope/Edn$Char" 13) (hh15 : Jvm.Lit.constHeld Z "com/example/isoscope/isoscope/Edn$Char" 15) (hh17 : Jvm.Lit.constHeld Z "com/example/isoscope/isoscope/Edn$Char" 17) (hh19 : Jvm.Lit.constHeld Z "com/example/isoscope/isoscope/Edn$Char" 19) (hh21 : Jvm.Lit.constHeld Z "com/example/isoscope/isoscope/Edn$Char" 21) (hh23 : Jvm.Lit.constHeld Z "com/example/isoscope/isoscope/Edn$Char" 23) (hh34c : Jvm.Lit.constHeld Z "com/example/isoscope/isoscope/Edn$Char" 34) (hhl18 : Jvm.Lit.constHeld Z "com/example/isoscope/isoscope/CharToStringPinLaw" 18) (hhl26 : Jvm.Lit.constHeld Z "com/example/isoscope/isoscope/CharToStringPinLaw" 26) (hhl28 : Jvm.Lit.constHeld Z "com/example/isoscope/isoscope/CharToStringPinLaw" 28) (hhl30 : Jvm.Lit.constHeld Z "com/example/isoscope/isoscope/CharToStringPinLaw" 30) (hhl32 : Jvm.Lit.constHeld Z "com/example/isoscope/isoscope/CharToStringPinLaw" 32) (hhl34 : Jvm.Lit.constHeld Z "com/example/isoscope/isoscope/CharToStringPinLaw" 34) (zn : Z.heap.size ≤ n0) (OZ : Ext Z.heap h0) (Scs : Sta Z Z.heap "java/lang/String" "COMPACT_STRINGS" "Z" (.int cs)) (hcs : ¬ cs = 0) (Sad : Sta Z Z.heap "java/lang/StringUTF16" "$assertionsDisabled" "Z" (.int 1)) (Shi : Sta Z Z.heap "java/lang/StringUTF16" "HI_BYTE_SHIFT" "I" (.int 0)) (Slo : Sta Z Z.heap "java/lang/StringUTF16" "LO_BYTE_SHIFT" "I" (.int 8)) (Sfm : Sta Z Z.heap "jdk/internal/util/Preconditions" "SIOOBE_FORMATTER" "Ljava/util/function/BiFunction;" fm) (hfm : fm.isRef = true) :
    MetFree l x (head1 (Jvm.Cond.code x code maxLocals ret :: ws) room_1) (fun a U => a = #[(.int p1), (.int p2)] ∧ Z.Warmed39 U.vm ∧ U.heap = h0 ∧ (fun vm => IB Z vm []) U.vm) (fun _ _ _ _ _ => True) (fun _ U o U' => ∃ v L, o = .returned v ∧ own_law_Q Z p1 p2 cs fm h0 n0 v U'.heap U'.vm L ∧ ReturnedEndW U o U' L 56 13632) := by
  refine own_enterW (J := fun vm => IB Z vm []) (C := 56) (S := 13632) (plainFor_of_name own_pn10) ?_
  intro p e s m below meth c T0 X0 I e0 es hJ hS
  obtain ⟨hx, hby, hml, hown, hnm, hret, hlk, hZ⟩ := I
  have N0 := Fr.nil n0
  have O0 := own_extr h0
  have hk0 : 0 ≤ h0.size := Nat.zero_le _
  refine own_cast (own_ef0 m p1 p2) ?_
  show own_Go _ _ _ _ T0 (mkF m 0 #[.val (.int p1), .val (.int p2), .unset, .unset, .unset, .unset, .unset, .unset] [])
  have t78 : ∀ (Tt : State) (lt : List Loc) (ht : Heap) (Xt : Stand p l e room_1 (s.setVm s.vm) m #[(.int p1), (.int p2)] below meth c Tt lt 0 0) (Nt : Fr n0 lt) (et : Tt.heap = ht) (Ot : Ext h0 ht) (sl cp : Int32) (hr : 0 ≤ cp.toInt ∧ cp.toInt < 1114112), own_Go p.tables e below (own_FW below s (own_law_Q Z p1 p2 cs fm h0 n0) 56 13632) Tt (mkF m 78 #[.val (.int p1), .val (.int p2), .val (.int sl), .val (.int cp), .unset, .unset, .unset, .unset] []) := by
    intro Tt lt ht Xt Nt et Ot sl cp hr
    have hkt := Nat.le_trans hk0 Ot.1
    by_cases q10 : cp = 10
    · subst q10
      show own_Go _ _ _ _ Tt (mkF m 78 #[.val (.int p1), .val (.int p2), .val (.int sl), .val (.int 10), .unset, .unset, .unset, .unset] [])
      obtain ⟨T1, hp1, X1, e1, Et1, A1, D1, -, st1⟩ := newO Xt hx hZ hown (own_w0 hw) (own_w1 hw) (own_w2 hw) et (g := (mkF m 78 #[.val (.int p1), .val (.int p2), .val (.int sl), .val (.int 10), .unset, .unset, .unset, .unset] [])) rfl (hb hby at_78) (by decide) (by decide)
      obtain ⟨b1, g1⟩ : ∃ z, z = ht.size := ⟨_, rfl⟩
      rw [← g1] at A1 D1 st1
      have s_b1 : h0.size ≤ b1 := Nat.le_trans Ot.1 (Nat.le_of_eq g1.symm)
      have g_b1 : n0 ≤ b1 := Nat.le_trans Z0 s_b1
      have hk1 := Nat.le_trans hkt Et1.1
      have O1 := own_extt Ot Et1
      have F_codePoint_b1 : Fld Z hp1 b1 "com/example/isoscope/isoscope/Edn$Char" "codePoint" "I" (.int 0) := D1 (Or.inr (own_w15 hw)) (ty := .int) (by decide)
      refine own_st st1 ?_
      refine own_st (fun _ k => XS.dup X1.here hx rfl (hb hby at_81) rfl rfl k) ?_
      refine own_st (fun _ k => XS.iloadN X1.here hx rfl (hb hby at_82) rfl k) ?_
      obtain ⟨v2, T2, L2, hQ2, X2, st2⟩ := own_callI X1 hx hZ (y := (⟨"com/example/isoscope/isoscope/Edn$Char", "<init>", "(I)V"⟩ : MethodName)) rfl hown (own_w3 hw) (own_w4 hw) (own_w2 hw) (own_w5 hw) (by decide) (own_chi l hw [] b1 (10 : Int32) hp1 n0 (Nat.le_trans Z0 O1.1) g_b1 A1 F_codePoint_b1) e1 (g := (mkF m 83 #[.val (.int p1), .val (.int p2), .val (.int sl), .val (.int 10), .unset, .unset, .unset, .unset] [(.int 10), (.ref b1), (.ref b1)])) rfl (by rw [hml]; rfl) (argsL := [(.int 10)]) (rest := [(.ref b1)]) (lenOf own_pd15 rfl) rfl rfl (W := 1) (Nat.le_of_eq rfl) (hb hby at_83) (by decide) (by decide) (by decide) (by decide)
      obtain ⟨rfl, N2, K2, Gp⟩ := hQ2
      have O2 := own_extk O1 K2 s_b1
      have hk2 := Nat.le_trans hk1 K2.1
      have Ex_b1_2 := A1.keep K2
      have N2' := Fr.app Nt N2
      refine own_st st2 ?_
      obtain ⟨v3, T3, L3, hQ3, X3, hS, hZ, hown, st3⟩ := own_callVW (J := fun vm => IB Z vm []) X2 hS hk2 hx hZ (y := (⟨"com/example/isoscope/isoscope/Edn$Char", "toString", "()Ljava/lang/String;"⟩ : MethodName)) hown (own_w16 hw) (own_w17 hw) (own_w19 hw) (own_w18 hw) (own_w2 hw) (own_w20 hw) (by decide) (own_tA10 l hw [] b1 cs fm  T2.heap T2.heap.size (Nat.le_refl _) rfl hcw hh13 hh34c (own_extt OZ O2).1 (own_extt OZ O2) Scs hcs Sad Shi Slo Sfm hfm  Ex_b1_2 Gp) (fun vm q => own_ibw hJ q) rfl Ex_b1_2 (g := (mkF m 86 #[.val (.int p1), .val (.int p2), .val (.int sl), .val (.int 10), .unset, .unset, .unset, .unset] [(.ref b1)])) rfl (by rw [hml]; rfl) (argsL := []) (rest := []) (lenOf own_pd33 rfl) rfl rfl (W := 0) (Nat.le_of_eq rfl) (hb hby at_86) (by decide) (by decide) (by decide) (by decide)
      obtain ⟨rs, rv, rk, rfl, Nx3, Et3, Er, Fvr, Fcr, Vr, hI⟩ := hQ3
      have hk3 : T3.heap.size ≤ T3.heap.size := Nat.le_refl _
      have N3 : Fr n0 L3 := fun y q => Nat.le_trans (Nat.le_trans Z0 O2.1) (Nx3 y q)
      have O3 := own_extt O2 Et3
      have Ex_b1_3 := Ex_b1_2.ext Et3
      have F_codePoint_b1_3 := Gp.ext Et3
      have N3' := Fr.app N2' N3
      refine own_st st3 ?_
      refine own_st (fun _ k => XS.astore X3.here hx rfl (hb hby at_89) rfl rfl (l' := #[.val (.int p1), .val (.int p2), .val (.int sl), .val (.int 10), .val (.ref rs), .unset, .unset, .unset]) rfl k) ?_
      refine own_st (fun _ k => XS.iloadN X3.here hx rfl (hb hby at_91) rfl k) ?_
      refine own_st (fun _ k => XS.bipush X3.here hx rfl (hb hby at_92) k) ?_
      show own_Go _ _ _ _ T3 (mkF m 94 #[.val (.int p1), .val (.int p2), .val (.int sl), .val (.int 10), .val (.ref rs), .unset, .unset, .unset] [(.int 10), (.int 10)])
      refine own_st (fun _ k => XS.icmpNo X3.here hx rfl (hb hby at_94) rfl (teq (by decide : (10 : Int32) = (10 : Int32))).2 k) ?_
      refine own_st (fun _ k => XS.aload X3.here hx rfl (hb hby at_97) rfl rfl k) ?_
      obtain ⟨sa4, T4, hp4, ks4, sb4, kb4, X4, e4, Et4, hS, hkx4, hZ, hown, Es4, Fc4, Fv4, Vs4, la4, lb4, hI4, hL4, st4⟩ := ldcSVL X3 hx hZ hown (own_w145 hw) (own_wS hw) rfl hS hk3 (by rw [es, ← hn0]; exact N3') (fun b cl q => by rw [es]; exact OZ.2 b cl q) hI (by decide) hhl18 hcw (vs := [(.int 92), (.int 110), (.int 101), (.int 119), (.int 108), (.int 105), (.int 110), (.int 101)]) (z := (8 : Int32)) ⟨by decide, rfl⟩ (by decide) (by decide) (g := (mkF m 99 #[.val (.int p1), .val (.int p2), .val (.int sl), .val (.int 10), .val (.ref rs), .unset, .unset, .unset] [(.ref rs)])) rfl (hb hby at_99) (n := 32) (by decide) (by decide) (by decide) (by decide)
      have hk4 := Nat.le_trans hk3 Et4.1
      have O4 := own_extt O3 Et4
      have V_rv_4 := Vr.ext Et4
      have Ex_b1_4 := Ex_b1_3.ext Et4
      have Ex_rs_4 := Er.ext Et4
      have F_codePoint_b1_4 := F_codePoint_b1_3.ext Et4
      have F_value_rs_4 := Fvr.ext Et4
      have F_coder_rs_4 := Fcr.ext Et4
      refine own_st st4 ?_
      obtain ⟨v5, T5, L5, hQ5, X5, st5⟩ := own_callV X4 hx hZ (y := (⟨"java/lang/String", "equals", "(Ljava/lang/Object;)Z"⟩ : MethodName)) hown (own_w146 hw) (own_w147 hw) (own_w149 hw) (own_w148 hw) (own_w22 hw) (own_w150 hw) (by decide) (own_eq l hw [] rs rv rk [(.int 92), (.int 110), (.int 101), (.int 119), (.int 108), (.int 105), (.int 110), (.int 101)] sa4 sb4 kb4 cs (8 : Int32) hp4 n0 (Nat.le_trans Z0 O4.1) zn (own_extt OZ O4) Scs hcs (by decide) (own_allI [(92 : Int32), (110 : Int32), (101 : Int32), (119 : Int32), (108 : Int32), (105 : Int32), (110 : Int32), (101 : Int32)]) Ex_rs_4 F_value_rs_4 F_coder_rs_4 V_rv_4 Es4 Fv4 Fc4 Vs4) e4 Ex_rs_4 (g := (mkF m 101 #[.val (.int p1), .val (.int p2), .val (.int sl), .val (.int 10), .val (.ref rs), .unset, .unset, .unset] [(.ref sa4), (.ref rs)])) rfl (by rw [hml]; rfl) (argsL := [(.ref sa4)]) (rest := []) (lenOf own_pd34 rfl) rfl rfl (W := 0) (Nat.le_of_eq rfl) (hb hby at_101) (by decide) (by decide) (by decide) (by decide)
      obtain ⟨rfl, N5, e5⟩ := hQ5
      have N5' := Fr.app N3' N5
      refine own_st st5 ?_
      exact own_retNW X5 hS (by rw [e5]; exact hkx4) hx hret (by simp) hlk (hb hby at_104) ⟨rfl, N5'⟩ (by decide) (by decide)
    have n10 := q10
    by_cases q13 : cp = 13
    · subst q13
      show own_Go _ _ _ _ Tt (mkF m 78 #[.val (.int p1), .val (.int p2), .val (.int sl), .val (.int 13), .unset, .unset, .unset, .unset] [])
      obtain ⟨T6, hp6, X6, e6, Et6, A6, D6, -, st6⟩ := newO Xt hx hZ hown (own_w0 hw) (own_w1 hw) (own_w2 hw) et (g := (mkF m 78 #[.val (.int p1), .val (.int p2), .val (.int sl), .val (.int 13), .unset, .unset, .unset, .unset] [])) rfl (hb hby at_78) (by decide) (by decide)
      obtain ⟨b6, g6⟩ : ∃ z, z = ht.size := ⟨_, rfl⟩
      rw [← g6] at A6 D6 st6
      have s_b6 : h0.size ≤ b6 := Nat.le_trans Ot.1 (Nat.le_of_eq g6.symm)
      have g_b6 : n0 ≤ b6 := Nat.le_trans Z0 s_b6
      have hk6 := Nat.le_trans hkt Et6.1
      have O6 := own_extt Ot Et6
      have F_codePoint_b6 : Fld Z hp6 b6 "com/example/isoscope/isoscope/Edn$Char" "codePoint" "I" (.int 0) := D6 (Or.inr (own_w15 hw)) (ty := .int) (by decide)
      refine own_st st6 ?_
      refine own_st (fun _ k => XS.dup X6.here hx rfl (hb hby at_81) rfl rfl k) ?_
      refine own_st (fun _ k => XS.iloadN X6.here hx rfl (hb hby at_82) rfl k) ?_
      obtain ⟨v7, T7, L7, hQ7, X7, st7⟩ := own_callI X6 hx hZ (y := (⟨"com/example/isoscope/isoscope/Edn$Char", "<init>", "(I)V"⟩ : MethodName)) rfl hown (own_w3 hw) (own_w4 hw) (own_w2 hw) (own_w5 hw) (by decide) (own_chi l hw [] b6 (13 : Int32) hp6 n0 (Nat.le_trans Z0 O6.1) g_b6 A6 F_codePoint_b6) e6 (g := (mkF m 83 #[.val (.int p1), .val (.int p2), .val (.int sl), .val (.int 13), .unset, .unset, .unset, .unset] [(.int 13), (.ref b6), (.ref b6)])) rfl (by rw [hml]; rfl) (argsL := [(.int 13)]) (rest := [(.ref b6)]) (lenOf own_pd15 rfl) rfl rfl (W := 1) (Nat.le_of_eq rfl) (hb hby at_83) (by decide) (by decide) (by decide) (by decide)
      obtain ⟨rfl, N7, K7, Gp⟩ := hQ7
      have O7 := own_extk O6 K7 s_b6
      have hk7 := Nat.le_trans hk6 K7.1
      have Ex_b6_7 := A6.keep K7
      have N7' := Fr.app Nt N7
      refine own_st st7 ?_
      obtain ⟨v8, T8, L8, hQ8, X8, hS, hZ, hown, st8⟩ := own_callVW (J := fun vm => IB Z vm []) X7 hS hk7 hx hZ (y := (⟨"com/example/isoscope/isoscope/Edn$Char", "toString", "()Ljava/lang/String;"⟩ : MethodName)) hown (own_w16 hw) (own_w17 hw) (own_w19 hw) (own_w18 hw) (own_w2 hw) (own_w20 hw) (by decide) (own_tA13 l hw [] b6 cs fm  T7.heap T7.heap.size (Nat.le_refl _) rfl hcw hh15 hh34c (own_extt OZ O7).1 (own_extt OZ O7) Scs hcs Sad Shi Slo Sfm hfm  Ex_b6_7 Gp) (fun vm q => own_ibw hJ q) rfl Ex_b6_7 (g := (mkF m 86 #[.val (.int p1), .val (.int p2), .val (.int sl), .val (.int 13), .unset, .unset, .unset, .unset] [(.ref b6)])) rfl (by rw [hml]; rfl) (argsL := []) (rest := []) (lenOf own_pd33 rfl) rfl rfl (W := 0) (Nat.le_of_eq rfl) (hb hby at_86) (by decide) (by decide) (by decide) (by decide)
      obtain ⟨rs, rv, rk, rfl, Nx8, Et8, Er, Fvr, Fcr, Vr, hI⟩ := hQ8
      have hk8 : T8.heap.size ≤ T8.heap.size := Nat.le_refl _
      have N8 : Fr n0 L8 := fun y q => Nat.le_trans (Nat.le_trans Z0 O7.1) (Nx8 y q)
      have O8 := own_extt O7 Et8
      have Ex_b6_8 := Ex_b6_7.ext Et8
      have F_codePoint_b6_8 := Gp.ext Et8
      have N8' := Fr.app N7' N8
      refine own_st st8 ?_
      refine own_st (fun _ k => XS.astore X8.here hx rfl (hb hby at_89) rfl rfl (l' := #[.val (.int p1), .val (.int p2), .val (.int sl), .val (.int 13), .val (.ref rs), .unset, .unset, .unset]) rfl k) ?_
      refine own_st (fun _ k => XS.iloadN X8.here hx rfl (hb hby at_91) rfl k) ?_
      refine own_st (fun _ k => XS.bipush X8.here hx rfl (hb hby at_92) k) ?_
      show own_Go _ _ _ _ T8 (mkF m 94 #[.val (.int p1), .val (.int p2), .val (.int sl), .val (.int 13), .val (.ref rs), .unset, .unset, .unset] [(.int 10), (.int 13)])
      refine own_st (fun _ k => XS.icmpYes X8.here hx rfl (pc0 := 94) (pc' := 105) rfl (hb hby at_94) rfl (feq (by decide : ¬ ((13 : Int32) = (10 : Int32)))).2 (by decide) (by decide) k) ?_
      refine own_st (fun _ k => XS.iloadN X8.here hx rfl (hb hby at_105) rfl k) ?_
      refine own_st (fun _ k => XS.bipush X8.here hx rfl (hb hby at_106) k) ?_
      refine own_st (fun _ k => XS.icmpNo X8.here hx rfl (hb hby at_108) rfl (teq (by decide : (13 : Int32) = (13 : Int32))).2 k) ?_
      refine own_st (fun _ k => XS.aload X8.here hx rfl (hb hby at_111) rfl rfl k) ?_
      obtain ⟨sa9, T9, hp9, ks9, sb9, kb9, X9, e9, Et9, hS, hkx9, hZ, hown, Es9, Fc9, Fv9, Vs9, la9, lb9, hI9, hL9, st9⟩ := ldcSVL X8 hx hZ hown (own_w275 hw) (own_wS hw) rfl hS hk8 (by rw [es, ← hn0]; exact N8') (fun b cl q => by rw [es]; exact OZ.2 b cl q) hI (by decide) hhl26 hcw (vs := [(.int 92), (.int 114), (.int 101), (.int 116), (.int 117), (.int 114), (.int 110)]) (z := (7 : Int32)) ⟨by decide, rfl⟩ (by decide) (by decide) (g := (mkF m 113 #[.val (.int p1), .val (.int p2), .val (.int sl), .val (.int 13), .val (.ref rs), .unset, .unset, .unset] [(.ref rs)])) rfl (hb hby at_113) (n := 28) (by decide) (by decide) (by decide) (by decide)
      have hk9 := Nat.le_trans hk8 Et9.1
      have O9 := own_extt O8 Et9
      have V_rv_9 := Vr.ext Et9
      have Ex_b6_9 := Ex_b6_8.ext Et9
      have Ex_rs_9 := Er.ext Et9
      have F_codePoint_b6_9 := F_codePoint_b6_8.ext Et9
      have F_value_rs_9 := Fvr.ext Et9
      have F_coder_rs_9 := Fcr.ext Et9
      refine own_st st9 ?_
      obtain ⟨v10, T10, L10, hQ10, X10, st10⟩ := own_callV X9 hx hZ (y := (⟨"java/lang/String", "equals", "(Ljava/lang/Object;)Z"⟩ : MethodName)) hown (own_w146 hw) (own_w147 hw) (own_w149 hw) (own_w148 hw) (own_w22 hw) (own_w150 hw) (by decide) (own_eq l hw [] rs rv rk [(.int 92), (.int 114), (.int 101), (.int 116), (.int 117), (.int 114), (.int 110)] sa9 sb9 kb9 cs (7 : Int32) hp9 n0 (Nat.le_trans Z0 O9.1) zn (own_extt OZ O9) Scs hcs (by decide) (own_allI [(92 : Int32), (114 : Int32), (101 : Int32), (116 : Int32), (117 : Int32), (114 : Int32), (110 : Int32)]) Ex_rs_9 F_value_rs_9 F_coder_rs_9 V_rv_9 Es9 Fv9 Fc9 Vs9) e9 Ex_rs_9 (g := (mkF m 115 #[.val (.int p1), .val (.int p2), .val (.int sl), .val (.int 13), .val (.ref rs), .unset, .unset, .unset] [(.ref sa9), (.ref rs)])) rfl (by rw [hml]; rfl) (argsL := [(.ref sa9)]) (rest := []) (lenOf own_pd34 rfl) rfl rfl (W := 0) (Nat.le_of_eq rfl) (hb hby at_115) (by decide) (by decide) (by decide) (by decide)
      obtain ⟨rfl, N10, e10⟩ := hQ10
      have N10' := Fr.app N8' N10
      refine own_st st10 ?_
      exact own_retNW X10 hS (by rw [e10]; exact hkx9) hx hret (by simp) hlk (hb hby at_118) ⟨rfl, N10'⟩ (by decide) (by decide)
    have n13 := q13
    by_cases q32 : cp = 32
    · subst q32
      show own_Go _ _ _ _ Tt (mkF m 78 #[.val (.int p1), .val (.int p2), .val (.int sl), .val (.int 32), .unset, .unset, .unset, .unset] [])
      obtain ⟨T11, hp11, X11, e11, Et11, A11, D11, -, st11⟩ := newO Xt hx hZ hown (own_w0 hw) (own_w1 hw) (own_w2 hw) et (g := (mkF m 78 #[.val (.int p1), .val (.int p2), .val (.int sl), .val (.int 32), .unset, .unset, .unset, .unset] [])) rfl (hb hby at_78) (by decide) (by decide)
      obtain ⟨b11, g11⟩ : ∃ z, z = ht.size := ⟨_, rfl⟩
      rw [← g11] at A11 D11 st11
      have s_b11 : h0.size ≤ b11 := Nat.le_trans Ot.1 (Nat.le_of_eq g11.symm)
      have g_b11 : n0 ≤ b11 := Nat.le_trans Z0 s_b11
      have hk11 := Nat.le_trans hkt Et11.1
      have O11 := own_extt Ot Et11
      have F_codePoint_b11 : Fld Z hp11 b11 "com/example/isoscope/isoscope/Edn$Char" "codePoint" "I" (.int 0) := D11 (Or.inr (own_w15 hw)) (ty := .int) (by decide)
      refine own_st st11 ?_
      refine own_st (fun _ k => XS.dup X11.here hx rfl (hb hby at_81) rfl rfl k) ?_
      refine own_st (fun _ k => XS.iloadN X11.here hx rfl (hb hby at_82) rfl k) ?_
      obtain ⟨v12, T12, L12, hQ12, X12, st12⟩ := own_callI X11 hx hZ (y := (⟨"com/example/isoscope/isoscope/Edn$Char", "<init>", "(I)V"⟩ : MethodName)) rfl hown (own_w3 hw) (own_w4 hw) (own_w2 hw) (own_w5 hw) (by decide) (own_chi l hw [] b11 (32 : Int32) hp11 n0 (Nat.le_trans Z0 O11.1) g_b11 A11 F_codePoint_b11) e11 (g := (mkF m 83 #[.val (.int p1), .val (.int p2), .val (.int sl), .val (.int 32), .unset, .unset, .unset, .unset] [(.int 32), (.ref b11), (.ref b11)])) rfl (by rw [hml]; rfl) (argsL := [(.int 32)]) (rest := [(.ref b11)]) (lenOf own_pd15 rfl) rfl rfl (W := 1) (Nat.le_of_eq rfl) (hb hby at_83) (by decide) (by decide) (by decide) (by decide)
      obtain ⟨rfl, N12, K12, Gp⟩ := hQ12
      have O12 := own_extk O11 K12 s_b11
      have hk12 := Nat.le_trans hk11 K12.1
      have Ex_b11_12 := A11.keep K12
      have N12' := Fr.app Nt N12
      refine own_st st12 ?_
      obtain ⟨v13, T13, L13, hQ13, X13, hS, hZ, hown, st13⟩ := own_callVW (J := fun vm => IB Z vm []) X12 hS hk12 hx hZ (y := (⟨"com/example/isoscope/isoscope/Edn$Char", "toString", "()Ljava/lang/String;"⟩ : MethodName)) hown (own_w16 hw) (own_w17 hw) (own_w19 hw) (own_w18 hw) (own_w2 hw) (own_w20 hw) (by decide) (own_tA32 l hw [] b11 cs fm  T12.heap T12.heap.size (Nat.le_refl _) rfl hcw hh17 hh34c (own_extt OZ O12).1 (own_extt OZ O12) Scs hcs Sad Shi Slo Sfm hfm  Ex_b11_12 Gp) (fun vm q => own_ibw hJ q) rfl Ex_b11_12 (g := (mkF m 86 #[.val (.int p1), .val (.int p2), .val (.int sl), .val (.int 32), .unset, .unset, .unset, .unset] [(.ref b11)])) rfl (by rw [hml]; rfl) (argsL := []) (rest := []) (lenOf own_pd33 rfl) rfl rfl (W := 0) (Nat.le_of_eq rfl) (hb hby at_86) (by decide) (by decide) (by decide) (by decide)
      obtain ⟨rs, rv, rk, rfl, Nx13, Et13, Er, Fvr, Fcr, Vr, hI⟩ := hQ13
      have hk13 : T13.heap.size ≤ T13.heap.size := Nat.le_refl _
      have N13 : Fr n0 L13 := fun y q => Nat.le_trans (Nat.le_trans Z0 O12.1) (Nx13 y q)
      have O13 := own_extt O12 Et13
      have Ex_b11_13 := Ex_b11_12.ext Et13
      have F_codePoint_b11_13 := Gp.ext Et13
      have N13' := Fr.app N12' N13
      refine own_st st13 ?_
      refine own_st (fun _ k => XS.astore X13.here hx rfl (hb hby at_89) rfl rfl (l' := #[.val (.int p1), .val (.int p2), .val (.int sl), .val (.int 32), .val (.ref rs), .unset, .unset, .unset]) rfl k) ?_
      refine own_st (fun _ k => XS.iloadN X13.here hx rfl (hb hby at_91) rfl k) ?_
      refine own_st (fun _ k => XS.bipush X13.here hx rfl (hb hby at_92) k) ?_
      show own_Go _ _ _ _ T13 (mkF m 94 #[.val (.int p1), .val (.int p2), .val (.int sl), .val (.int 32), .val (.ref rs), .unset, .unset, .unset] [(.int 10), (.int 32)])
      refine own_st (fun _ k => XS.icmpYes X13.here hx rfl (pc0 := 94) (pc' := 105) rfl (hb hby at_94) rfl (feq (by decide : ¬ ((32 : Int32) = (10 : Int32)))).2 (by decide) (by decide) k) ?_
      refine own_st (fun _ k => XS.iloadN X13.here hx rfl (hb hby at_105) rfl k) ?_
      refine own_st (fun _ k => XS.bipush X13.here hx rfl (hb hby at_106) k) ?_
      refine own_st (fun _ k => XS.icmpYes X13.here hx rfl (pc0 := 108) (pc' := 119) rfl (hb hby at_108) rfl (feq (by decide : ¬ ((32 : Int32) = (13 : Int32)))).2 (by decide) (by decide) k) ?_
      refine own_st (fun _ k => XS.iloadN X13.here hx rfl (hb hby at_119) rfl k) ?_
      refine own_st (fun _ k => XS.bipush X13.here hx rfl (hb hby at_120) k) ?_
      refine own_st (fun _ k => XS.icmpNo X13.here hx rfl (hb hby at_122) rfl (teq (by decide : (32 : Int32) = (32 : Int32))).2 k) ?_
      refine own_st (fun _ k => XS.aload X13.here hx rfl (hb hby at_125) rfl rfl k) ?_
      show own_Go _ _ _ _ T13 (mkF m 127 #[.val (.int p1), .val (.int p2), .val (.int sl), .val (.int 32), .val (.ref rs), .unset, .unset, .unset] [(.ref rs)])
      obtain ⟨sa14, T14, hp14, ks14, sb14, kb14, X14, e14, Et14, hS, hkx14, hZ, hown, Es14, Fc14, Fv14, Vs14, la14, lb14, hI14, hL14, st14⟩ := ldcSVL X13 hx hZ hown (own_w277 hw) (own_wS hw) rfl hS hk13 (by rw [es, ← hn0]; exact N13') (fun b cl q => by rw [es]; exact OZ.2 b cl q) hI (by decide) hhl28 hcw (vs := [(.int 92), (.int 115), (.int 112), (.int 97), (.int 99), (.int 101)]) (z := (6 : Int32)) ⟨by decide, rfl⟩ (by decide) (by decide) (g := (mkF m 127 #[.val (.int p1), .val (.int p2), .val (.int sl), .val (.int 32), .val (.ref rs), .unset, .unset, .unset] [(.ref rs)])) rfl (hb hby at_127) (n := 24) (by decide) (by decide) (by decide) (by decide)
      have hk14 := Nat.le_trans hk13 Et14.1
      have O14 := own_extt O13 Et14
      have V_rv_14 := Vr.ext Et14
      have Ex_b11_14 := Ex_b11_13.ext Et14
      have Ex_rs_14 := Er.ext Et14
      have F_codePoint_b11_14 := F_codePoint_b11_13.ext Et14
      have F_value_rs_14 := Fvr.ext Et14
      have F_coder_rs_14 := Fcr.ext Et14
      refine own_st st14 ?_
      obtain ⟨v15, T15, L15, hQ15, X15, st15⟩ := own_callV X14 hx hZ (y := (⟨"java/lang/String", "equals", "(Ljava/lang/Object;)Z"⟩ : MethodName)) hown (own_w146 hw) (own_w147 hw) (own_w149 hw) (own_w148 hw) (own_w22 hw) (own_w150 hw) (by decide) (own_eq l hw [] rs rv rk [(.int 92), (.int 115), (.int 112), (.int 97), (.int 99), (.int 101)] sa14 sb14 kb14 cs (6 : Int32) hp14 n0 (Nat.le_trans Z0 O14.1) zn (own_extt OZ O14) Scs hcs (by decide) (own_allI [(92 : Int32), (115 : Int32), (112 : Int32), (97 : Int32), (99 : Int32), (101 : Int32)]) Ex_rs_14 F_value_rs_14 F_coder_rs_14 V_rv_14 Es14 Fv14 Fc14 Vs14) e14 Ex_rs_14 (g := (mkF m 129 #[.val (.int p1), .val (.int p2), .val (.int sl), .val (.int 32), .val (.ref rs), .unset, .unset, .unset] [(.ref sa14), (.ref rs)])) rfl (by rw [hml]; rfl) (argsL := [(.ref sa14)]) (rest := []) (lenOf own_pd34 rfl) rfl rfl (W := 0) (Nat.le_of_eq rfl) (hb hby at_129) (by decide) (by decide) (by decide) (by decide)
      obtain ⟨rfl, N15, e15⟩ := hQ15
      have N15' := Fr.app N13' N15
      refine own_st st15 ?_
      exact own_retNW X15 hS (by rw [e15]; exact hkx14) hx hret (by simp) hlk (hb hby at_132) ⟨rfl, N15'⟩ (by decide) (by decide)
    have n32 := q32
    by_cases q9 : cp = 9
    · subst q9
      show own_Go _ _ _ _ Tt (mkF m 78 #[.val (.int p1), .val (.int p2), .val (.int sl), .val (.int 9), .unset, .unset, .unset, .unset] [])
      obtain ⟨T16, hp16, X16, e16, Et16, A16, D16, -, st16⟩ := newO Xt hx hZ hown (own_w0 hw) (own_w1 hw) (own_w2 hw) et (g := (mkF m 78 #[.val (.int p1), .val (.int p2), .val (.int sl), .val (.int 9), .unset, .unset, .unset, .unset] [])) rfl (hb hby at_78) (by decide) (by decide)
      obtain ⟨b16, g16⟩ : ∃ z, z = ht.size := ⟨_, rfl⟩
      rw [← g16] at A16 D16 st16
      have s_b16 : h0.size ≤ b16 := Nat.le_trans Ot.1 (Nat.le_of_eq g16.symm)
      have g_b16 : n0 ≤ b16 := Nat.le_trans Z0 s_b16
      have hk16 := Nat.le_trans hkt Et16.1
      have O16 := own_extt Ot Et16
      have F_codePoint_b16 : Fld Z hp16 b16 "com/example/isoscope/isoscope/Edn$Char" "codePoint" "I" (.int 0) := D16 (Or.inr (own_w15 hw)) (ty := .int) (by decide)
      refine own_st st16 ?_
      refine own_st (fun _ k => XS.dup X16.here hx rfl (hb hby at_81) rfl rfl k) ?_
      refine own_st (fun _ k => XS.iloadN X16.here hx rfl (hb hby at_82) rfl k) ?_
      obtain ⟨v17, T17, L17, hQ17, X17, st17⟩ := own_callI X16 hx hZ (y := (⟨"com/example/isoscope/isoscope/Edn$Char", "<init>", "(I)V"⟩ : MethodName)) rfl hown (own_w3 hw) (own_w4 hw) (own_w2 hw) (own_w5 hw) (by decide) (own_chi l hw [] b16 (9 : Int32) hp16 n0 (Nat.le_trans Z0 O16.1) g_b16 A16 F_codePoint_b16) e16 (g := (mkF m 83 #[.val (.int p1), .val (.int p2), .val (.int sl), .val (.int 9), .unset, .unset, .unset, .unset] [(.int 9), (.ref b16), (.ref b16)])) rfl (by rw [hml]; rfl) (argsL := [(.int 9)]) (rest := [(.ref b16)]) (lenOf own_pd15 rfl) rfl rfl (W := 1) (Nat.le_of_eq rfl) (hb hby at_83) (by decide) (by decide) (by decide) (by decide)
      obtain ⟨rfl, N17, K17, Gp⟩ := hQ17
      have O17 := own_extk O16 K17 s_b16
      have hk17 := Nat.le_trans hk16 K17.1
      have Ex_b16_17 := A16.keep K17
      have N17' := Fr.app Nt N17
      refine own_st st17 ?_
      obtain ⟨v18, T18, L18, hQ18, X18, hS, hZ, hown, st18⟩ := own_callVW (J := fun vm => IB Z vm []) X17 hS hk17 hx hZ (y := (⟨"com/example/isoscope/isoscope/Edn$Char", "toString", "()Ljava/lang/String;"⟩ : MethodName)) hown (own_w16 hw) (own_w17 hw) (own_w19 hw) (own_w18 hw) (own_w2 hw) (own_w20 hw) (by decide) (own_tA9 l hw [] b16 cs fm  T17.heap T17.heap.size (Nat.le_refl _) rfl hcw hh19 hh34c (own_extt OZ O17).1 (own_extt OZ O17) Scs hcs Sad Shi Slo Sfm hfm  Ex_b16_17 Gp) (fun vm q => own_ibw hJ q) rfl Ex_b16_17 (g := (mkF m 86 #[.val (.int p1), .val (.int p2), .val (.int sl), .val (.int 9), .unset, .unset, .unset, .unset] [(.ref b16)])) rfl (by rw [hml]; rfl) (argsL := []) (rest := []) (lenOf own_pd33 rfl) rfl rfl (W := 0) (Nat.le_of_eq rfl) (hb hby at_86) (by decide) (by decide) (by decide) (by decide)
      obtain ⟨rs, rv, rk, rfl, Nx18, Et18, Er, Fvr, Fcr, Vr, hI⟩ := hQ18
      have hk18 : T18.heap.size ≤ T18.heap.size := Nat.le_refl _
      have N18 : Fr n0 L18 := fun y q => Nat.le_trans (Nat.le_trans Z0 O17.1) (Nx18 y q)
      have O18 := own_extt O17 Et18
      have Ex_b16_18 := Ex_b16_17.ext Et18
      have F_codePoint_b16_18 := Gp.ext Et18
      have N18' := Fr.app N17' N18
      refine own_st st18 ?_
      refine own_st (fun _ k => XS.astore X18.here hx rfl (hb hby at_89) rfl rfl (l' := #[.val (.int p1), .val (.int p2), .val (.int sl), .val (.int 9), .val (.ref rs), .unset, .unset, .unset]) rfl k) ?_
      refine own_st (fun _ k => XS.iloadN X18.here hx rfl (hb hby at_91) rfl k) ?_
      refine own_st (fun _ k => XS.bipush X18.here hx rfl (hb hby at_92) k) ?_
      show own_Go _ _ _ _ T18 (mkF m 94 #[.val (.int p1), .val (.int p2), .val (.int sl), .val (.int 9), .val (.ref rs), .unset, .unset, .unset] [(.int 10), (.int 9)])
      refine own_st (fun _ k => XS.icmpYes X18.here hx rfl (pc0 := 94) (pc' := 105) rfl (hb hby at_94) rfl (feq (by decide : ¬ ((9 : Int32) = (10 : Int32)))).2 (by decide) (by decide) k) ?_
      refine own_st (fun _ k => XS.iloadN X18.here hx rfl (hb hby at_105) rfl k) ?_
      refine own_st (fun _ k => XS.bipush X18.here hx rfl (hb hby at_106) k) ?_
      refine own_st (fun _ k => XS.icmpYes X18.here hx rfl (pc0 := 108) (pc' := 119) rfl (hb hby at_108) rfl (feq (by decide : ¬ ((9 : Int32) = (13 : Int32)))).2 (by decide) (by decide) k) ?_
      refine own_st (fun _ k => XS.iloadN X18.here hx rfl (hb hby at_119) rfl k) ?_
      refine own_st (fun _ k => XS.bipush X18.here hx rfl (hb hby at_120) k) ?_
      refine own_st (fun _ k => XS.icmpYes X18.here hx rfl (pc0 := 122) (pc' := 133) rfl (hb hby at_122) rfl (feq (by decide : ¬ ((9 : Int32) = (32 : Int32)))).2 (by decide) (by decide) k) ?_
      refine own_st (fun _ k => XS.iloadN X18.here hx rfl (hb hby at_133) rfl k) ?_
      show own_Go _ _ _ _ T18 (mkF m 134 #[.val (.int p1), .val (.int p2), .val (.int sl), .val (.int 9), .val (.ref rs), .unset, .unset, .unset] [(.int 9)])
      refine own_st (fun _ k => XS.bipush X18.here hx rfl (hb hby at_134) k) ?_
      refine own_st (fun _ k => XS.icmpNo X18.here hx rfl (hb hby at_136) rfl (teq (by decide : (9 : Int32) = (9 : Int32))).2 k) ?_
      refine own_st (fun _ k => XS.aload X18.here hx rfl (hb hby at_139) rfl rfl k) ?_
      obtain ⟨sa19, T19, hp19, ks19, sb19, kb19, X19, e19, Et19, hS, hkx19, hZ, hown, Es19, Fc19, Fv19, Vs19, la19, lb19, hI19, hL19, st19⟩ := ldcSVL X18 hx hZ hown (own_w273 hw) (own_wS hw) rfl hS hk18 (by rw [es, ← hn0]; exact N18') (fun b cl q => by rw [es]; exact OZ.2 b cl q) hI (by decide) hhl30 hcw (vs := [(.int 92), (.int 116), (.int 97), (.int 98)]) (z := (4 : Int32)) ⟨by decide, rfl⟩ (by decide) (by decide) (g := (mkF m 141 #[.val (.int p1), .val (.int p2), .val (.int sl), .val (.int 9), .val (.ref rs), .unset, .unset, .unset] [(.ref rs)])) rfl (hb hby at_141) (n := 16) (by decide) (by decide) (by decide) (by decide)
      have hk19 := Nat.le_trans hk18 Et19.1
      have O19 := own_extt O18 Et19
      have V_rv_19 := Vr.ext Et19
      have Ex_b16_19 := Ex_b16_18.ext Et19
      have Ex_rs_19 := Er.ext Et19
      have F_codePoint_b16_19 := F_codePoint_b16_18.ext Et19
      have F_value_rs_19 := Fvr.ext Et19
      have F_coder_rs_19 := Fcr.ext Et19
      refine own_st st19 ?_
      obtain ⟨v20, T20, L20, hQ20, X20, st20⟩ := own_callV X19 hx hZ (y := (⟨"java/lang/String", "equals", "(Ljava/lang/Object;)Z"⟩ : MethodName)) hown (own_w146 hw) (own_w147 hw) (own_w149 hw) (own_w148 hw) (own_w22 hw) (own_w150 hw) (by decide) (own_eq l hw [] rs rv rk [(.int 92), (.int 116), (.int 97), (.int 98)] sa19 sb19 kb19 cs (4 : Int32) hp19 n0 (Nat.le_trans Z0 O19.1) zn (own_extt OZ O19) Scs hcs (by decide) (own_allI [(92 : Int32), (116 : Int32), (97 : Int32), (98 : Int32)]) Ex_rs_19 F_value_rs_19 F_coder_rs_19 V_rv_19 Es19 Fv19 Fc19 Vs19) e19 Ex_rs_19 (g := (mkF m 143 #[.val (.int p1), .val (.int p2), .val (.int sl), .val (.int 9), .val (.ref rs), .unset, .unset, .unset] [(.ref sa19), (.ref rs)])) rfl (by rw [hml]; rfl) (argsL := [(.ref sa19)]) (rest := []) (lenOf own_pd34 rfl) rfl rfl (W := 0) (Nat.le_of_eq rfl) (hb hby at_143) (by decide) (by decide) (by decide) (by decide)
      obtain ⟨rfl, N20, e20⟩ := hQ20
      have N20' := Fr.app N18' N20
      refine own_st st20 ?_
      exact own_retNW X20 hS (by rw [e20]; exact hkx19) hx hret (by simp) hlk (hb hby at_146) ⟨rfl, N20'⟩ (by decide) (by decide)
    have n9 := q9
    by_cases q12 : cp = 12
    · subst q12
      show own_Go _ _ _ _ Tt (mkF m 78 #[.val (.int p1), .val (.int p2), .val (.int sl), .val (.int 12), .unset, .unset, .unset, .unset] [])
      obtain ⟨T21, hp21, X21, e21, Et21, A21, D21, -, st21⟩ := newO Xt hx hZ hown (own_w0 hw) (own_w1 hw) (own_w2 hw) et (g := (mkF m 78 #[.val (.int p1), .val (.int p2), .val (.int sl), .val (.int 12), .unset, .unset, .unset, .unset] [])) rfl (hb hby at_78) (by decide) (by decide)
      obtain ⟨b21, g21⟩ : ∃ z, z = ht.size := ⟨_, rfl⟩
      rw [← g21] at A21 D21 st21
      have s_b21 : h0.size ≤ b21 := Nat.le_trans Ot.1 (Nat.le_of_eq g21.symm)
      have g_b21 : n0 ≤ b21 := Nat.le_trans Z0 s_b21
      have hk21 := Nat.le_trans hkt Et21.1
      have O21 := own_extt Ot Et21
      have F_codePoint_b21 : Fld Z hp21 b21 "com/example/isoscope/isoscope/Edn$Char" "codePoint" "I" (.int 0) := D21 (Or.inr (own_w15 hw)) (ty := .int) (by decide)
      refine own_st st21 ?_
      refine own_st (fun _ k => XS.dup X21.here hx rfl (hb hby at_81) rfl rfl k) ?_
      refine own_st (fun _ k => XS.iloadN X21.here hx rfl (hb hby at_82) rfl k) ?_
      obtain ⟨v22, T22, L22, hQ22, X22, st22⟩ := own_callI X21 hx hZ (y := (⟨"com/example/isoscope/isoscope/Edn$Char", "<init>", "(I)V"⟩ : MethodName)) rfl hown (own_w3 hw) (own_w4 hw) (own_w2 hw) (own_w5 hw) (by decide) (own_chi l hw [] b21 (12 : Int32) hp21 n0 (Nat.le_trans Z0 O21.1) g_b21 A21 F_codePoint_b21) e21 (g := (mkF m 83 #[.val (.int p1), .val (.int p2), .val (.int sl), .val (.int 12), .unset, .unset, .unset, .unset] [(.int 12), (.ref b21), (.ref b21)])) rfl (by rw [hml]; rfl) (argsL := [(.int 12)]) (rest := [(.ref b21)]) (lenOf own_pd15 rfl) rfl rfl (W := 1) (Nat.le_of_eq rfl) (hb hby at_83) (by decide) (by decide) (by decide) (by decide)
      obtain ⟨rfl, N22, K22, Gp⟩ := hQ22
      have O22 := own_extk O21 K22 s_b21
      have hk22 := Nat.le_trans hk21 K22.1
      have Ex_b21_22 := A21.keep K22
      have N22' := Fr.app Nt N22
      refine own_st st22 ?_
      obtain ⟨v23, T23, L23, hQ23, X23, hS, hZ, hown, st23⟩ := own_callVW (J := fun vm => IB Z vm []) X22 hS hk22 hx hZ (y := (⟨"com/example/isoscope/isoscope/Edn$Char", "toString", "()Ljava/lang/String;"⟩ : MethodName)) hown (own_w16 hw) (own_w17 hw) (own_w19 hw) (own_w18 hw) (own_w2 hw) (own_w20 hw) (by decide) (own_tA12 l hw [] b21 cs fm  T22.heap T22.heap.size (Nat.le_refl _) rfl hcw hh21 hh34c (own_extt OZ O22).1 (own_extt OZ O22) Scs hcs Sad Shi Slo Sfm hfm  Ex_b21_22 Gp) (fun vm q => own_ibw hJ q) rfl Ex_b21_22 (g := (mkF m 86 #[.val (.int p1), .val (.int p2), .val (.int sl), .val (.int 12), .unset, .unset, .unset, .unset] [(.ref b21)])) rfl (by rw [hml]; rfl) (argsL := []) (rest := []) (lenOf own_pd33 rfl) rfl rfl (W := 0) (Nat.le_of_eq rfl) (hb hby at_86) (by decide) (by decide) (by decide) (by decide)
      obtain ⟨rs, rv, rk, rfl, Nx23, Et23, Er, Fvr, Fcr, Vr, hI⟩ := hQ23
      have hk23 : T23.heap.size ≤ T23.heap.size := Nat.le_refl _
      have N23 : Fr n0 L23 := fun y q => Nat.le_trans (Nat.le_trans Z0 O22.1) (Nx23 y q)
      have O23 := own_extt O22 Et23
      have Ex_b21_23 := Ex_b21_22.ext Et23
      have F_codePoint_b21_23 := Gp.ext Et23
      have N23' := Fr.app N22' N23
      refine own_st st23 ?_
      refine own_st (fun _ k => XS.astore X23.here hx rfl (hb hby at_89) rfl rfl (l' := #[.val (.int p1), .val (.int p2), .val (.int sl), .val (.int 12), .val (.ref rs), .unset, .unset, .unset]) rfl k) ?_
      refine own_st (fun _ k => XS.iloadN X23.here hx rfl (hb hby at_91) rfl k) ?_
      refine own_st (fun _ k => XS.bipush X23.here hx rfl (hb hby at_92) k) ?_
      show own_Go _ _ _ _ T23 (mkF m 94 #[.val (.int p1), .val (.int p2), .val (.int sl), .val (.int 12), .val (.ref rs), .unset, .unset, .unset] [(.int 10), (.int 12)])
      refine own_st (fun _ k => XS.icmpYes X23.here hx rfl (pc0 := 94) (pc' := 105) rfl (hb hby at_94) rfl (feq (by decide : ¬ ((12 : Int32) = (10 : Int32)))).2 (by decide) (by decide) k) ?_
      refine own_st (fun _ k => XS.iloadN X23.here hx rfl (hb hby at_105) rfl k) ?_
      refine own_st (fun _ k => XS.bipush X23.here hx rfl (hb hby at_106) k) ?_
      refine own_st (fun _ k => XS.icmpYes X23.here hx rfl (pc0 := 108) (pc' := 119) rfl (hb hby at_108) rfl (feq (by decide : ¬ ((12 : Int32) = (13 : Int32)))).2 (by decide) (by decide) k) ?_
      refine own_st (fun _ k => XS.iloadN X23.here hx rfl (hb hby at_119) rfl k) ?_
      refine own_st (fun _ k => XS.bipush X23.here hx rfl (hb hby at_120) k) ?_
      refine own_st (fun _ k => XS.icmpYes X23.here hx rfl (pc0 := 122) (pc' := 133) rfl (hb hby at_122) rfl (feq (by decide : ¬ ((12 : Int32) = (32 : Int32)))).2 (by decide) (by decide) k) ?_
      refine own_st (fun _ k => XS.iloadN X23.here hx rfl (hb hby at_133) rfl k) ?_
      show own_Go _ _ _ _ T23 (mkF m 134 #[.val (.int p1), .val (.int p2), .val (.int sl), .val (.int 12), .val (.ref rs), .unset, .unset, .unset] [(.int 12)])
      refine own_st (fun _ k => XS.bipush X23.here hx rfl (hb hby at_134) k) ?_
      refine own_st (fun _ k => XS.icmpYes X23.here hx rfl (pc0 := 136) (pc' := 147) rfl (hb hby at_136) rfl (feq (by decide : ¬ ((12 : Int32) = (9 : Int32)))).2 (by decide) (by decide) k) ?_
      refine own_st (fun _ k => XS.iloadN X23.here hx rfl (hb hby at_147) rfl k) ?_
      refine own_st (fun _ k => XS.bipush X23.here hx rfl (hb hby at_148) k) ?_
      refine own_st (fun _ k => XS.icmpNo X23.here hx rfl (hb hby at_150) rfl (teq (by decide : (12 : Int32) = (12 : Int32))).2 k) ?_
      refine own_st (fun _ k => XS.aload X23.here hx rfl (hb hby at_153) rfl rfl k) ?_
      obtain ⟨sa24, T24, hp24, ks24, sb24, kb24, X24, e24, Et24, hS, hkx24, hZ, hown, Es24, Fc24, Fv24, Vs24, la24, lb24, hI24, hL24, st24⟩ := ldcSVL X23 hx hZ hown (own_w198 hw) (own_wS hw) rfl hS hk23 (by rw [es, ← hn0]; exact N23') (fun b cl q => by rw [es]; exact OZ.2 b cl q) hI (by decide) hhl32 hcw (vs := [(.int 92), (.int 102), (.int 111), (.int 114), (.int 109), (.int 102), (.int 101), (.int 101), (.int 100)]) (z := (9 : Int32)) ⟨by decide, rfl⟩ (by decide) (by decide) (g := (mkF m 155 #[.val (.int p1), .val (.int p2), .val (.int sl), .val (.int 12), .val (.ref rs), .unset, .unset, .unset] [(.ref rs)])) rfl (hb hby at_155) (n := 36) (by decide) (by decide) (by decide) (by decide)
      have hk24 := Nat.le_trans hk23 Et24.1
      have O24 := own_extt O23 Et24
      have V_rv_24 := Vr.ext Et24
      have Ex_b21_24 := Ex_b21_23.ext Et24
      have Ex_rs_24 := Er.ext Et24
      have F_codePoint_b21_24 := F_codePoint_b21_23.ext Et24
      have F_value_rs_24 := Fvr.ext Et24
      have F_coder_rs_24 := Fcr.ext Et24
      refine own_st st24 ?_
      obtain ⟨v25, T25, L25, hQ25, X25, st25⟩ := own_callV X24 hx hZ (y := (⟨"java/lang/String", "equals", "(Ljava/lang/Object;)Z"⟩ : MethodName)) hown (own_w146 hw) (own_w147 hw) (own_w149 hw) (own_w148 hw) (own_w22 hw) (own_w150 hw) (by decide) (own_eq l hw [] rs rv rk [(.int 92), (.int 102), (.int 111), (.int 114), (.int 109), (.int 102), (.int 101), (.int 101), (.int 100)] sa24 sb24 kb24 cs (9 : Int32) hp24 n0 (Nat.le_trans Z0 O24.1) zn (own_extt OZ O24) Scs hcs (by decide) (own_allI [(92 : Int32), (102 : Int32), (111 : Int32), (114 : Int32), (109 : Int32), (102 : Int32), (101 : Int32), (101 : Int32), (100 : Int32)]) Ex_rs_24 F_value_rs_24 F_coder_rs_24 V_rv_24 Es24 Fv24 Fc24 Vs24) e24 Ex_rs_24 (g := (mkF m 157 #[.val (.int p1), .val (.int p2), .val (.int sl), .val (.int 12), .val (.ref rs), .unset, .unset, .unset] [(.ref sa24), (.ref rs)])) rfl (by rw [hml]; rfl) (argsL := [(.ref sa24)]) (rest := []) (lenOf own_pd34 rfl) rfl rfl (W := 0) (Nat.le_of_eq rfl) (hb hby at_157) (by decide) (by decide) (by decide) (by decide)
      obtain ⟨rfl, N25, e25⟩ := hQ25
      have N25' := Fr.app N23' N25
      refine own_st st25 ?_
      show own_Go _ _ _ _ T25 (mkF m 160 #[.val (.int p1), .val (.int p2), .val (.int sl), .val (.int 12), .val (.ref rs), .unset, .unset, .unset] [(.int 1)])
      exact own_retNW X25 hS (by rw [e25]; exact hkx24) hx hret (by simp) hlk (hb hby at_160) ⟨rfl, N25'⟩ (by decide) (by decide)
    have n12 := q12
    by_cases q8 : cp = 8
    · subst q8
      show own_Go _ _ _ _ Tt (mkF m 78 #[.val (.int p1), .val (.int p2), .val (.int sl), .val (.int 8), .unset, .unset, .unset, .unset] [])
      obtain ⟨T26, hp26, X26, e26, Et26, A26, D26, -, st26⟩ := newO Xt hx hZ hown (own_w0 hw) (own_w1 hw) (own_w2 hw) et (g := (mkF m 78 #[.val (.int p1), .val (.int p2), .val (.int sl), .val (.int 8), .unset, .unset, .unset, .unset] [])) rfl (hb hby at_78) (by decide) (by decide)
      obtain ⟨b26, g26⟩ : ∃ z, z = ht.size := ⟨_, rfl⟩
      rw [← g26] at A26 D26 st26
      have s_b26 : h0.size ≤ b26 := Nat.le_trans Ot.1 (Nat.le_of_eq g26.symm)
      have g_b26 : n0 ≤ b26 := Nat.le_trans Z0 s_b26
      have hk26 := Nat.le_trans hkt Et26.1
      have O26 := own_extt Ot Et26
      have F_codePoint_b26 : Fld Z hp26 b26 "com/example/isoscope/isoscope/Edn$Char" "codePoint" "I" (.int 0) := D26 (Or.inr (own_w15 hw)) (ty := .int) (by decide)
      refine own_st st26 ?_
      refine own_st (fun _ k => XS.dup X26.here hx rfl (hb hby at_81) rfl rfl k) ?_
      refine own_st (fun _ k => XS.iloadN X26.here hx rfl (hb hby at_82) rfl k) ?_
      obtain ⟨v27, T27, L27, hQ27, X27, st27⟩ := own_callI X26 hx hZ (y := (⟨"com/example/isoscope/isoscope/Edn$Char", "<init>", "(I)V"⟩ : MethodName)) rfl hown (own_w3 hw) (own_w4 hw) (own_w2 hw) (own_w5 hw) (by decide) (own_chi l hw [] b26 (8 : Int32) hp26 n0 (Nat.le_trans Z0 O26.1) g_b26 A26 F_codePoint_b26) e26 (g := (mkF m 83 #[.val (.int p1), .val (.int p2), .val (.int sl), .val (.int 8), .unset, .unset, .unset, .unset] [(.int 8), (.ref b26), (.ref b26)])) rfl (by rw [hml]; rfl) (argsL := [(.int 8)]) (rest := [(.ref b26)]) (lenOf own_pd15 rfl) rfl rfl (W := 1) (Nat.le_of_eq rfl) (hb hby at_83) (by decide) (by decide) (by decide) (by decide)
      obtain ⟨rfl, N27, K27, Gp⟩ := hQ27
      have O27 := own_extk O26 K27 s_b26
      have hk27 := Nat.le_trans hk26 K27.1
      have Ex_b26_27 := A26.keep K27
      have N27' := Fr.app Nt N27
      refine own_st st27 ?_
      obtain ⟨v28, T28, L28, hQ28, X28, hS, hZ, hown, st28⟩ := own_callVW (J := fun vm => IB Z vm []) X27 hS hk27 hx hZ (y := (⟨"com/example/isoscope/isoscope/Edn$Char", "toString", "()Ljava/lang/String;"⟩ : MethodName)) hown (own_w16 hw) (own_w17 hw) (own_w19 hw) (own_w18 hw) (own_w2 hw) (own_w20 hw) (by decide) (own_tA8 l hw [] b26 cs fm  T27.heap T27.heap.size (Nat.le_refl _) rfl hcw hh23 hh34c (own_extt OZ O27).1 (own_extt OZ O27) Scs hcs Sad Shi Slo Sfm hfm  Ex_b26_27 Gp) (fun vm q => own_ibw hJ q) rfl Ex_b26_27 (g := (mkF m 86 #[.val (.int p1), .val (.int p2), .val (.int sl), .val (.int 8), .unset, .unset, .unset, .unset] [(.ref b26)])) rfl (by rw [hml]; rfl) (argsL := []) (rest := []) (lenOf own_pd33 rfl) rfl rfl (W := 0) (Nat.le_of_eq rfl) (hb hby at_86) (by decide) (by decide) (by decide) (by decide)
      obtain ⟨rs, rv, rk, rfl, Nx28, Et28, Er, Fvr, Fcr, Vr, hI⟩ := hQ28
      have hk28 : T28.heap.size ≤ T28.heap.size := Nat.le_refl _
      have N28 : Fr n0 L28 := fun y q => Nat.le_trans (Nat.le_trans Z0 O27.1) (Nx28 y q)
      have O28 := own_extt O27 Et28
      have Ex_b26_28 := Ex_b26_27.ext Et28
      have F_codePoint_b26_28 := Gp.ext Et28
      have N28' := Fr.app N27' N28
      refine own_st st28 ?_
      refine own_st (fun _ k => XS.astore X28.here hx rfl (hb hby at_89) rfl rfl (l' := #[.val (.int p1), .val (.int p2), .val (.int sl), .val (.int 8), .val (.ref rs), .unset, .unset, .unset]) rfl k) ?_
      refine own_st (fun _ k => XS.iloadN X28.here hx rfl (hb hby at_91) rfl k) ?_
      refine own_st (fun _ k => XS.bipush X28.here hx rfl (hb hby at_92) k) ?_
      show own_Go _ _ _ _ T28 (mkF m 94 #[.val (.int p1), .val (.int p2), .val (.int sl), .val (.int 8), .val (.ref rs), .unset, .unset, .unset] [(.int 10), (.int 8)])
      refine own_st (fun _ k => XS.icmpYes X28.here hx rfl (pc0 := 94) (pc' := 105) rfl (hb hby at_94) rfl (feq (by decide : ¬ ((8 : Int32) = (10 : Int32)))).2 (by decide) (by decide) k) ?_
      refine own_st (fun _ k => XS.iloadN X28.here hx rfl (hb hby at_105) rfl k) ?_
      refine own_st (fun _ k => XS.bipush X28.here hx rfl (hb hby at_106) k) ?_
      refine own_st (fun _ k => XS.icmpYes X28.here hx rfl (pc0 := 108) (pc' := 119) rfl (hb hby at_108) rfl (feq (by decide : ¬ ((8 : Int32) = (13 : Int32)))).2 (by decide) (by decide) k) ?_
      refine own_st (fun _ k => XS.iloadN X28.here hx rfl (hb hby at_119) rfl k) ?_
      refine own_st (fun _ k => XS.bipush X28.here hx rfl (hb hby at_120) k) ?_
      refine own_st (fun _ k => XS.icmpYes X28.here hx rfl (pc0 := 122) (pc' := 133) rfl (hb hby at_122) rfl (feq (by decide : ¬ ((8 : Int32) = (32 : Int32)))).2 (by decide) (by decide) k) ?_
      refine own_st (fun _ k => XS.iloadN X28.here hx rfl (hb hby at_133) rfl k) ?_
      show own_Go _ _ _ _ T28 (mkF m 134 #[.val (.int p1), .val (.int p2), .val (.int sl), .val (.int 8), .val (.ref rs), .unset, .unset, .unset] [(.int 8)])
      refine own_st (fun _ k => XS.bipush X28.here hx rfl (hb hby at_134) k) ?_
      refine own_st (fun _ k => XS.icmpYes X28.here hx rfl (pc0 := 136) (pc' := 147) rfl (hb hby at_136) rfl (feq (by decide : ¬ ((8 : Int32) = (9 : Int32)))).2 (by decide) (by decide) k) ?_
      refine own_st (fun _ k => XS.iloadN X28.here hx rfl (hb hby at_147) rfl k) ?_
      refine own_st (fun _ k => XS.bipush X28.here hx rfl (hb hby at_148) k) ?_
      refine own_st (fun _ k => XS.icmpYes X28.here hx rfl (pc0 := 150) (pc' := 161) rfl (hb hby at_150) rfl (feq (by decide : ¬ ((8 : Int32) = (12 : Int32)))).2 (by decide) (by decide) k) ?_
      refine own_st (fun _ k => XS.iloadN X28.here hx rfl (hb hby at_161) rfl k) ?_
      refine own_st (fun _ k => XS.bipush X28.here hx rfl (hb hby at_162) k) ?_
      refine own_st (fun _ k => XS.icmpNo X28.here hx rfl (hb hby at_164) rfl (teq (by decide : (8 : Int32) = (8 : Int32))).2 k) ?_
      show own_Go _ _ _ _ T28 (mkF m 167 #[.val (.int p1), .val (.int p2), .val (.int sl), .val (.int 8), .val (.ref rs), .unset, .unset, .unset] [])
      refine own_st (fun _ k => XS.aload X28.here hx rfl (hb hby at_167) rfl rfl k) ?_
      obtain ⟨sa29, T29, hp29, ks29, sb29, kb29, X29, e29, Et29, hS, hkx29, hZ, hown, Es29, Fc29, Fv29, Vs29, la29, lb29, hI29, hL29, st29⟩ := ldcSVL X28 hx hZ hown (own_w200 hw) (own_wS hw) rfl hS hk28 (by rw [es, ← hn0]; exact N28') (fun b cl q => by rw [es]; exact OZ.2 b cl q) hI (by decide) hhl34 hcw (vs := [(.int 92), (.int 98), (.int 97), (.int 99), (.int 107), (.int 115), (.int 112), (.int 97), (.int 99), (.int 101)]) (z := (10 : Int32)) ⟨by decide, rfl⟩ (by decide) (by decide) (g := (mkF m 169 #[.val (.int p1), .val (.int p2), .val (.int sl), .val (.int 8), .val (.ref rs), .unset, .unset, .unset] [(.ref rs)])) rfl (hb hby at_169) (n := 40) (by decide) (by decide) (by decide) (by decide)
      have hk29 := Nat.le_trans hk28 Et29.1
      have O29 := own_extt O28 Et29
      have V_rv_29 := Vr.ext Et29
      have Ex_b26_29 := Ex_b26_28.ext Et29
      have Ex_rs_29 := Er.ext Et29
      have F_codePoint_b26_29 := F_codePoint_b26_28.ext Et29
      have F_value_rs_29 := Fvr.ext Et29
      have F_coder_rs_29 := Fcr.ext Et29
      refine own_st st29 ?_
      obtain ⟨v30, T30, L30, hQ30, X30, st30⟩ := own_callV X29 hx hZ (y := (⟨"java/lang/String", "equals", "(Ljava/lang/Object;)Z"⟩ : MethodName)) hown (own_w146 hw) (own_w147 hw) (own_w149 hw) (own_w148 hw) (own_w22 hw) (own_w150 hw) (by decide) (own_eq l hw [] rs rv rk [(.int 92), (.int 98), (.int 97), (.int 99), (.int 107), (.int 115), (.int 112), (.int 97), (.int 99), (.int 101)] sa29 sb29 kb29 cs (10 : Int32) hp29 n0 (Nat.le_trans Z0 O29.1) zn (own_extt OZ O29) Scs hcs (by decide) (own_allI [(92 : Int32), (98 : Int32), (97 : Int32), (99 : Int32), (107 : Int32), (115 : Int32), (112 : Int32), (97 : Int32), (99 : Int32), (101 : Int32)]) Ex_rs_29 F_value_rs_29 F_coder_rs_29 V_rv_29 Es29 Fv29 Fc29 Vs29) e29 Ex_rs_29 (g := (mkF m 171 #[.val (.int p1), .val (.int p2), .val (.int sl), .val (.int 8), .val (.ref rs), .unset, .unset, .unset] [(.ref sa29), (.ref rs)])) rfl (by rw [hml]; rfl) (argsL := [(.ref sa29)]) (rest := []) (lenOf own_pd34 rfl) rfl rfl (W := 0) (Nat.le_of_eq rfl) (hb hby at_171) (by decide) (by decide) (by decide) (by decide)
      obtain ⟨rfl, N30, e30⟩ := hQ30
      have N30' := Fr.app N28' N30
      refine own_st st30 ?_
      exact own_retNW X30 hS (by rw [e30]; exact hkx29) hx hret (by simp) hlk (hb hby at_174) ⟨rfl, N30'⟩ (by decide) (by decide)
    have n8 := q8
    by_cases qB : (255 : Int32) < cp
    · by_cases qC : cp < (65536 : Int32)
      · show own_Go _ _ _ _ Tt (mkF m 78 #[.val (.int p1), .val (.int p2), .val (.int sl), .val (.int cp), .unset, .unset, .unset, .unset] [])
        have hc0 : ¬ cp < 0 := own_ge0 hr.1
        obtain ⟨T31, hp31, X31, e31, Et31, A31, D31, -, st31⟩ := newO Xt hx hZ hown (own_w0 hw) (own_w1 hw) (own_w2 hw) et (g := (mkF m 78 #[.val (.int p1), .val (.int p2), .val (.int sl), .val (.int cp), .unset, .unset, .unset, .unset] [])) rfl (hb hby at_78) (by decide) (by decide)
        obtain ⟨b31, g31⟩ : ∃ z, z = ht.size := ⟨_, rfl⟩
        rw [← g31] at A31 D31 st31
        have s_b31 : h0.size ≤ b31 := Nat.le_trans Ot.1 (Nat.le_of_eq g31.symm)
        have g_b31 : n0 ≤ b31 := Nat.le_trans Z0 s_b31
        have hk31 := Nat.le_trans hkt Et31.1
        have O31 := own_extt Ot Et31
        have F_codePoint_b31 : Fld Z hp31 b31 "com/example/isoscope/isoscope/Edn$Char" "codePoint" "I" (.int 0) := D31 (Or.inr (own_w15 hw)) (ty := .int) (by decide)
        refine own_st st31 ?_
        refine own_st (fun _ k => XS.dup X31.here hx rfl (hb hby at_81) rfl rfl k) ?_
        refine own_st (fun _ k => XS.iloadN X31.here hx rfl (hb hby at_82) rfl k) ?_
        obtain ⟨v32, T32, L32, hQ32, X32, st32⟩ := own_callI X31 hx hZ (y := (⟨"com/example/isoscope/isoscope/Edn$Char", "<init>", "(I)V"⟩ : MethodName)) rfl hown (own_w3 hw) (own_w4 hw) (own_w2 hw) (own_w5 hw) (by decide) (own_chi l hw [] b31 cp hp31 n0 (Nat.le_trans Z0 O31.1) g_b31 A31 F_codePoint_b31) e31 (g := (mkF m 83 #[.val (.int p1), .val (.int p2), .val (.int sl), .val (.int cp), .unset, .unset, .unset, .unset] [(.int cp), (.ref b31), (.ref b31)])) rfl (by rw [hml]; rfl) (argsL := [(.int cp)]) (rest := [(.ref b31)]) (lenOf own_pd15 rfl) rfl rfl (W := 1) (Nat.le_of_eq rfl) (hb hby at_83) (by decide) (by decide) (by decide) (by decide)
        obtain ⟨rfl, N32, K32, Gp⟩ := hQ32
        have O32 := own_extk O31 K32 s_b31
        have hk32 := Nat.le_trans hk31 K32.1
        have Ex_b31_32 := A31.keep K32
        have N32' := Fr.app Nt N32
        refine own_st st32 ?_
        obtain ⟨v33, T33, L33, hQ33, X33, hS, hZ, hown, st33⟩ := own_callVW (J := fun vm => IB Z vm []) X32 hS hk32 hx hZ (y := (⟨"com/example/isoscope/isoscope/Edn$Char", "toString", "()Ljava/lang/String;"⟩ : MethodName)) hown (own_w16 hw) (own_w17 hw) (own_w19 hw) (own_w18 hw) (own_w2 hw) (own_w20 hw) (by decide) (own_tC l hw [] b31 cs fm cp T32.heap T32.heap.size (Nat.le_refl _) rfl hcw hh34c (own_extt OZ O32).1 (own_extt OZ O32) Scs hcs Sad Shi Slo Sfm hfm n8 n9 n10 n12 n13 n32 hc0 qB (own_bmp cp hr.1 (own_ltC qC)) Ex_b31_32 Gp) (fun vm q => own_ibw hJ q) rfl Ex_b31_32 (g := (mkF m 86 #[.val (.int p1), .val (.int p2), .val (.int sl), .val (.int cp), .unset, .unset, .unset, .unset] [(.ref b31)])) rfl (by rw [hml]; rfl) (argsL := []) (rest := []) (lenOf own_pd33 rfl) rfl rfl (W := 0) (Nat.le_of_eq rfl) (hb hby at_86) (by decide) (by decide) (by decide) (by decide)
        obtain ⟨rs, rv, rk, rfl, Nx33, Et33, Er, Fvr, Fcr, Vr, hI⟩ := hQ33
        have hk33 : T33.heap.size ≤ T33.heap.size := Nat.le_refl _
        have N33 : Fr n0 L33 := fun y q => Nat.le_trans (Nat.le_trans Z0 O32.1) (Nx33 y q)
        have O33 := own_extt O32 Et33
        have Ex_b31_33 := Ex_b31_32.ext Et33
        have F_codePoint_b31_33 := Gp.ext Et33
        have N33' := Fr.app N32' N33
        refine own_st st33 ?_
        refine own_st (fun _ k => XS.astore X33.here hx rfl (hb hby at_89) rfl rfl (l' := #[.val (.int p1), .val (.int p2), .val (.int sl), .val (.int cp), .val (.ref rs), .unset, .unset, .unset]) rfl k) ?_
        refine own_st (fun _ k => XS.iloadN X33.here hx rfl (hb hby at_91) rfl k) ?_
        refine own_st (fun _ k => XS.bipush X33.here hx rfl (hb hby at_92) k) ?_
        show own_Go _ _ _ _ T33 (mkF m 94 #[.val (.int p1), .val (.int p2), .val (.int sl), .val (.int cp), .val (.ref rs), .unset, .unset, .unset] [(.int 10), (.int cp)])
        refine own_st (fun _ k => XS.icmpYes X33.here hx rfl (pc0 := 94) (pc' := 105) rfl (hb hby at_94) rfl (feq (n10 : ¬ (cp = (10 : Int32)))).2 (by decide) (by decide) k) ?_
        refine own_st (fun _ k => XS.iloadN X33.here hx rfl (hb hby at_105) rfl k) ?_
        refine own_st (fun _ k => XS.bipush X33.here hx rfl (hb hby at_106) k) ?_
        refine own_st (fun _ k => XS.icmpYes X33.here hx rfl (pc0 := 108) (pc' := 119) rfl (hb hby at_108) rfl (feq (n13 : ¬ (cp = (13 : Int32)))).2 (by decide) (by decide) k) ?_
        refine own_st (fun _ k => XS.iloadN X33.here hx rfl (hb hby at_119) rfl k) ?_
        refine own_st (fun _ k => XS.bipush X33.here hx rfl (hb hby at_120) k) ?_
        refine own_st (fun _ k => XS.icmpYes X33.here hx rfl (pc0 := 122) (pc' := 133) rfl (hb hby at_122) rfl (feq (n32 : ¬ (cp = (32 : Int32)))).2 (by decide) (by decide) k) ?_
        refine own_st (fun _ k => XS.iloadN X33.here hx rfl (hb hby at_133) rfl k) ?_
        show own_Go _ _ _ _ T33 (mkF m 134 #[.val (.int p1), .val (.int p2), .val (.int sl), .val (.int cp), .val (.ref rs), .unset, .unset, .unset] [(.int cp)])
        refine own_st (fun _ k => XS.bipush X33.here hx rfl (hb hby at_134) k) ?_
        refine own_st (fun _ k => XS.icmpYes X33.here hx rfl (pc0 := 136) (pc' := 147) rfl (hb hby at_136) rfl (feq (n9 : ¬ (cp = (9 : Int32)))).2 (by decide) (by decide) k) ?_
        refine own_st (fun _ k => XS.iloadN X33.here hx rfl (hb hby at_147) rfl k) ?_
        refine own_st (fun _ k => XS.bipush X33.here hx rfl (hb hby at_148) k) ?_
        refine own_st (fun _ k => XS.icmpYes X33.here hx rfl (pc0 := 150) (pc' := 161) rfl (hb hby at_150) rfl (feq (n12 : ¬ (cp = (12 : Int32)))).2 (by decide) (by decide) k) ?_
        refine own_st (fun _ k => XS.iloadN X33.here hx rfl (hb hby at_161) rfl k) ?_
        refine own_st (fun _ k => XS.bipush X33.here hx rfl (hb hby at_162) k) ?_
        refine own_st (fun _ k => XS.icmpYes X33.here hx rfl (pc0 := 164) (pc' := 175) rfl (hb hby at_164) rfl (feq (n8 : ¬ (cp = (8 : Int32)))).2 (by decide) (by decide) k) ?_
        show own_Go _ _ _ _ T33 (mkF m 175 #[.val (.int p1), .val (.int p2), .val (.int sl), .val (.int cp), .val (.ref rs), .unset, .unset, .unset] [])
        refine own_st (fun _ k => XS.iloadN X33.here hx rfl (hb hby at_175) rfl k) ?_
        refine own_st (X33.ldcInt hx hown (mvT hZ (own_w174 hw)) (g := (mkF m 176 #[.val (.int p1), .val (.int p2), .val (.int sl), .val (.int cp), .val (.ref rs), .unset, .unset, .unset] [(.int cp)])) rfl (hb hby at_176)) ?_
        refine own_st (fun _ k => XS.icmpNo X33.here hx rfl (hb hby at_178) rfl (tlt (qC : cp < (65536 : Int32))).2.1 k) ?_
        refine own_st (fun _ k => XS.aload X33.here hx rfl (hb hby at_181) rfl rfl k) ?_
        show own_Go _ _ _ _ T33 (mkF m 183 #[.val (.int p1), .val (.int p2), .val (.int sl), .val (.int cp), .val (.ref rs), .unset, .unset, .unset] [(.ref rs)])
        obtain ⟨v34, T34, L34, hQ34, X34, st34⟩ := own_callV X33 hx hZ (y := (⟨"java/lang/String", "length", "()I"⟩ : MethodName)) hown (own_w175 hw) (own_w59 hw) (own_w61 hw) (own_w60 hw) (own_w22 hw) (own_w62 hw) (by decide) (own_ln l hw [] rs rv rk [(.int (own_B0 (92 : Int32))), (.int (own_B1 (92 : Int32))), (.int (own_B0 (cp.toUInt32.toUInt16.toUInt32.toInt32))), (.int (own_B1 (cp.toUInt32.toUInt16.toUInt32.toInt32)))] cs (1 : Int32) (4 : Int32) (2 : Int32) T33.heap n0 (Nat.le_trans Z0 O33.1) zn (own_extt OZ O33) Scs hcs (by decide) (by decide) Er Fvr Fcr Vr) rfl Er (g := (mkF m 183 #[.val (.int p1), .val (.int p2), .val (.int sl), .val (.int cp), .val (.ref rs), .unset, .unset, .unset] [(.ref rs)])) rfl (by rw [hml]; rfl) (argsL := []) (rest := []) (lenOf own_pd16 rfl) rfl rfl (W := 0) (Nat.le_of_eq rfl) (hb hby at_183) (by decide) (by decide) (by decide) (by decide)
        obtain ⟨rfl, N34, e34⟩ := hQ34
        have N34' := Fr.app N33' N34
        refine own_st st34 ?_
        refine own_st (fun _ k => XS.iconst X34.here hx rfl (hb hby at_186) k) ?_
        refine own_st (fun _ k => XS.icmpNo X34.here hx rfl (hb hby at_187) rfl (teq (by decide : (2 : Int32) = (2 : Int32))).2 k) ?_
        refine own_st (fun _ k => XS.aload X34.here hx rfl (hb hby at_190) rfl rfl k) ?_
        refine own_st (fun _ k => XS.iconst X34.here hx rfl (hb hby at_192) k) ?_
        obtain ⟨v35, T35, L35, hQ35, X35, st35⟩ := own_callV X34 hx hZ (y := (⟨"java/lang/String", "charAt", "(I)C"⟩ : MethodName)) hown (own_w176 hw) (own_w177 hw) (own_w179 hw) (own_w178 hw) (own_w22 hw) (own_w180 hw) (by decide) (own_cu0 l hw [] rs rv rk [(.int (own_B0 (92 : Int32))), (.int (own_B1 (92 : Int32))), (.int (own_B0 (cp.toUInt32.toUInt16.toUInt32.toInt32))), (.int (own_B1 (cp.toUInt32.toUInt16.toUInt32.toInt32)))] (0 : Int32) (4 : Int32) (own_B0 (92 : Int32)) (own_B1 (92 : Int32)) cs fm T33.heap n0 (Nat.le_trans Z0 O33.1) zn (own_extt OZ O33) Scs hcs Sad Shi Slo Sfm hfm rfl (by decide) (by decide) rfl rfl (by decide) Er Fvr Fcr Vr) e34 Er (g := (mkF m 193 #[.val (.int p1), .val (.int p2), .val (.int sl), .val (.int cp), .val (.ref rs), .unset, .unset, .unset] [(.int 0), (.ref rs)])) rfl (by rw [hml]; rfl) (argsL := [(.int 0)]) (rest := []) (lenOf own_pd9 rfl) rfl rfl (W := 0) (Nat.le_of_eq rfl) (hb hby at_193) (by decide) (by decide) (by decide) (by decide)
        obtain ⟨rfl, N35, e35⟩ := hQ35
        have N35' := Fr.app N34' N35
        refine own_st st35 ?_
        show own_Go _ _ _ _ T35 (mkF m 196 #[.val (.int p1), .val (.int p2), .val (.int sl), .val (.int cp), .val (.ref rs), .unset, .unset, .unset] [(.int (own_gc (own_B0 (92 : Int32)) (own_B1 (92 : Int32))))])
        rw [own_gc92]
        refine own_st (fun _ k => XS.bipush X35.here hx rfl (hb hby at_196) k) ?_
        refine own_st (fun _ k => XS.icmpNo X35.here hx rfl (hb hby at_198) rfl (teq (by decide : (92 : Int32) = (92 : Int32))).2 k) ?_
        refine own_st (fun _ k => XS.aload X35.here hx rfl (hb hby at_201) rfl rfl k) ?_
        refine own_st (fun _ k => XS.iconst X35.here hx rfl (hb hby at_203) k) ?_
        obtain ⟨v36, T36, L36, hQ36, X36, st36⟩ := own_callV X35 hx hZ (y := (⟨"java/lang/String", "charAt", "(I)C"⟩ : MethodName)) hown (own_w176 hw) (own_w177 hw) (own_w179 hw) (own_w178 hw) (own_w22 hw) (own_w180 hw) (by decide) (own_cu1 l hw [] rs rv rk [(.int (own_B0 (92 : Int32))), (.int (own_B1 (92 : Int32))), (.int (own_B0 (cp.toUInt32.toUInt16.toUInt32.toInt32))), (.int (own_B1 (cp.toUInt32.toUInt16.toUInt32.toInt32)))] (1 : Int32) (4 : Int32) (own_B0 (cp.toUInt32.toUInt16.toUInt32.toInt32)) (own_B1 (cp.toUInt32.toUInt16.toUInt32.toInt32)) cs fm T33.heap n0 (Nat.le_trans Z0 O33.1) zn (own_extt OZ O33) Scs hcs Sad Shi Slo Sfm hfm rfl (by decide) (by decide) rfl rfl (by decide) Er Fvr Fcr Vr) e35 Er (g := (mkF m 204 #[.val (.int p1), .val (.int p2), .val (.int sl), .val (.int cp), .val (.ref rs), .unset, .unset, .unset] [(.int 1), (.ref rs)])) rfl (by rw [hml]; rfl) (argsL := [(.int 1)]) (rest := []) (lenOf own_pd9 rfl) rfl rfl (W := 0) (Nat.le_of_eq rfl) (hb hby at_204) (by decide) (by decide) (by decide) (by decide)
        obtain ⟨rfl, N36, e36⟩ := hQ36
        have N36' := Fr.app N35' N36
        refine own_st st36 ?_
        show own_Go _ _ _ _ T36 (mkF m 207 #[.val (.int p1), .val (.int p2), .val (.int sl), .val (.int cp), .val (.ref rs), .unset, .unset, .unset] [(.int (own_gc (own_B0 (cp.toUInt32.toUInt16.toUInt32.toInt32)) (own_B1 (cp.toUInt32.toUInt16.toUInt32.toInt32))))])
        rw [own_gcp _ (own_i2cr cp).1 (own_i2cr cp).2]
        refine own_st (fun _ k => XS.iloadN X36.here hx rfl (hb hby at_207) rfl k) ?_
        refine own_st (fun _ k => XS.i2c X36.here hx rfl (hb hby at_208) rfl k) ?_
        refine own_st (fun _ k => XS.icmpNo X36.here hx rfl (hb hby at_209) rfl (teq (rfl : (cp.toUInt32.toUInt16.toUInt32.toInt32) = (cp.toUInt32.toUInt16.toUInt32.toInt32))).2 k) ?_
        refine own_st (fun _ k => XS.iconst X36.here hx rfl (hb hby at_212) k) ?_
        refine own_st (fun _ k => XS.goto X36.here hx rfl (pc0 := 213) (pc' := 217) rfl (hb hby at_213) (by decide) (by decide) k) ?_
        exact own_retNW X36 hS (by rw [e36]; exact hk33) hx hret (by simp) hlk (hb hby at_217) ⟨rfl, N36'⟩ (by decide) (by decide)
      · show own_Go _ _ _ _ Tt (mkF m 78 #[.val (.int p1), .val (.int p2), .val (.int sl), .val (.int cp), .unset, .unset, .unset, .unset] [])
        have hc0 : ¬ cp < 0 := own_ge0 hr.1
        obtain ⟨T37, hp37, X37, e37, Et37, A37, D37, -, st37⟩ := newO Xt hx hZ hown (own_w0 hw) (own_w1 hw) (own_w2 hw) et (g := (mkF m 78 #[.val (.int p1), .val (.int p2), .val (.int sl), .val (.int cp), .unset, .unset, .unset, .unset] [])) rfl (hb hby at_78) (by decide) (by decide)
        obtain ⟨b37, g37⟩ : ∃ z, z = ht.size := ⟨_, rfl⟩
        rw [← g37] at A37 D37 st37
        have s_b37 : h0.size ≤ b37 := Nat.le_trans Ot.1 (Nat.le_of_eq g37.symm)
        have g_b37 : n0 ≤ b37 := Nat.le_trans Z0 s_b37
        have hk37 := Nat.le_trans hkt Et37.1
        have O37 := own_extt Ot Et37
        have F_codePoint_b37 : Fld Z hp37 b37 "com/example/isoscope/isoscope/Edn$Char" "codePoint" "I" (.int 0) := D37 (Or.inr (own_w15 hw)) (ty := .int) (by decide)
        refine own_st st37 ?_
        refine own_st (fun _ k => XS.dup X37.here hx rfl (hb hby at_81) rfl rfl k) ?_
        refine own_st (fun _ k => XS.iloadN X37.here hx rfl (hb hby at_82) rfl k) ?_
        obtain ⟨v38, T38, L38, hQ38, X38, st38⟩ := own_callI X37 hx hZ (y := (⟨"com/example/isoscope/isoscope/Edn$Char", "<init>", "(I)V"⟩ : MethodName)) rfl hown (own_w3 hw) (own_w4 hw) (own_w2 hw) (own_w5 hw) (by decide) (own_chi l hw [] b37 cp hp37 n0 (Nat.le_trans Z0 O37.1) g_b37 A37 F_codePoint_b37) e37 (g := (mkF m 83 #[.val (.int p1), .val (.int p2), .val (.int sl), .val (.int cp), .unset, .unset, .unset, .unset] [(.int cp), (.ref b37), (.ref b37)])) rfl (by rw [hml]; rfl) (argsL := [(.int cp)]) (rest := [(.ref b37)]) (lenOf own_pd15 rfl) rfl rfl (W := 1) (Nat.le_of_eq rfl) (hb hby at_83) (by decide) (by decide) (by decide) (by decide)
        obtain ⟨rfl, N38, K38, Gp⟩ := hQ38
        have O38 := own_extk O37 K38 s_b37
        have hk38 := Nat.le_trans hk37 K38.1
        have Ex_b37_38 := A37.keep K38
        have N38' := Fr.app Nt N38
        refine own_st st38 ?_
        obtain ⟨v39, T39, L39, hQ39, X39, hS, hZ, hown, st39⟩ := own_callVW (J := fun vm => IB Z vm []) X38 hS hk38 hx hZ (y := (⟨"com/example/isoscope/isoscope/Edn$Char", "toString", "()Ljava/lang/String;"⟩ : MethodName)) hown (own_w16 hw) (own_w17 hw) (own_w19 hw) (own_w18 hw) (own_w2 hw) (own_w20 hw) (by decide) (own_tD l hw [] b37 cs fm cp T38.heap T38.heap.size (Nat.le_refl _) rfl hcw hh34c (own_extt OZ O38).1 (own_extt OZ O38) Scs hcs Sad Shi Slo Sfm hfm n8 n9 n10 n12 n13 n32 hc0 qB (own_nbmp cp (own_geD qC) hr.2) qC (own_ltD hr.2) Ex_b37_38 Gp) (fun vm q => own_ibw hJ q) rfl Ex_b37_38 (g := (mkF m 86 #[.val (.int p1), .val (.int p2), .val (.int sl), .val (.int cp), .unset, .unset, .unset, .unset] [(.ref b37)])) rfl (by rw [hml]; rfl) (argsL := []) (rest := []) (lenOf own_pd33 rfl) rfl rfl (W := 0) (Nat.le_of_eq rfl) (hb hby at_86) (by decide) (by decide) (by decide) (by decide)
        obtain ⟨rs, rv, rk, rfl, Nx39, Et39, Er, Fvr, Fcr, Vr, hI⟩ := hQ39
        have hk39 : T39.heap.size ≤ T39.heap.size := Nat.le_refl _
        have N39 : Fr n0 L39 := fun y q => Nat.le_trans (Nat.le_trans Z0 O38.1) (Nx39 y q)
        have O39 := own_extt O38 Et39
        have Ex_b37_39 := Ex_b37_38.ext Et39
        have F_codePoint_b37_39 := Gp.ext Et39
        have N39' := Fr.app N38' N39
        refine own_st st39 ?_
        refine own_st (fun _ k => XS.astore X39.here hx rfl (hb hby at_89) rfl rfl (l' := #[.val (.int p1), .val (.int p2), .val (.int sl), .val (.int cp), .val (.ref rs), .unset, .unset, .unset]) rfl k) ?_
        refine own_st (fun _ k => XS.iloadN X39.here hx rfl (hb hby at_91) rfl k) ?_
        refine own_st (fun _ k => XS.bipush X39.here hx rfl (hb hby at_92) k) ?_
        show own_Go _ _ _ _ T39 (mkF m 94 #[.val (.int p1), .val (.int p2), .val (.int sl), .val (.int cp), .val (.ref rs), .unset, .unset, .unset] [(.int 10), (.int cp)])
        refine own_st (fun _ k => XS.icmpYes X39.here hx rfl (pc0 := 94) (pc' := 105) rfl (hb hby at_94) rfl (feq (n10 : ¬ (cp = (10 : Int32)))).2 (by decide) (by decide) k) ?_
        refine own_st (fun _ k => XS.iloadN X39.here hx rfl (hb hby at_105) rfl k) ?_
        refine own_st (fun _ k => XS.bipush X39.here hx rfl (hb hby at_106) k) ?_
        refine own_st (fun _ k => XS.icmpYes X39.here hx rfl (pc0 := 108) (pc' := 119) rfl (hb hby at_108) rfl (feq (n13 : ¬ (cp = (13 : Int32)))).2 (by decide) (by decide) k) ?_
        refine own_st (fun _ k => XS.iloadN X39.here hx rfl (hb hby at_119) rfl k) ?_
        refine own_st (fun _ k => XS.bipush X39.here hx rfl (hb hby at_120) k) ?_
        refine own_st (fun _ k => XS.icmpYes X39.here hx rfl (pc0 := 122) (pc' := 133) rfl (hb hby at_122) rfl (feq (n32 : ¬ (cp = (32 : Int32)))).2 (by decide) (by decide) k) ?_
        refine own_st (fun _ k => XS.iloadN X39.here hx rfl (hb hby at_133) rfl k) ?_
        show own_Go _ _ _ _ T39 (mkF m 134 #[.val (.int p1), .val (.int p2), .val (.int sl), .val (.int cp), .val (.ref rs), .unset, .unset, .unset] [(.int cp)])
        refine own_st (fun _ k => XS.bipush X39.here hx rfl (hb hby at_134) k) ?_
        refine own_st (fun _ k => XS.icmpYes X39.here hx rfl (pc0 := 136) (pc' := 147) rfl (hb hby at_136) rfl (feq (n9 : ¬ (cp = (9 : Int32)))).2 (by decide) (by decide) k) ?_
        refine own_st (fun _ k => XS.iloadN X39.here hx rfl (hb hby at_147) rfl k) ?_
        refine own_st (fun _ k => XS.bipush X39.here hx rfl (hb hby at_148) k) ?_
        refine own_st (fun _ k => XS.icmpYes X39.here hx rfl (pc0 := 150) (pc' := 161) rfl (hb hby at_150) rfl (feq (n12 : ¬ (cp = (12 : Int32)))).2 (by decide) (by decide) k) ?_
        refine own_st (fun _ k => XS.iloadN X39.here hx rfl (hb hby at_161) rfl k) ?_
        refine own_st (fun _ k => XS.bipush X39.here hx rfl (hb hby at_162) k) ?_
        refine own_st (fun _ k => XS.icmpYes X39.here hx rfl (pc0 := 164) (pc' := 175) rfl (hb hby at_164) rfl (feq (n8 : ¬ (cp = (8 : Int32)))).2 (by decide) (by decide) k) ?_
        show own_Go _ _ _ _ T39 (mkF m 175 #[.val (.int p1), .val (.int p2), .val (.int sl), .val (.int cp), .val (.ref rs), .unset, .unset, .unset] [])
        refine own_st (fun _ k => XS.iloadN X39.here hx rfl (hb hby at_175) rfl k) ?_
        refine own_st (X39.ldcInt hx hown (mvT hZ (own_w174 hw)) (g := (mkF m 176 #[.val (.int p1), .val (.int p2), .val (.int sl), .val (.int cp), .val (.ref rs), .unset, .unset, .unset] [(.int cp)])) rfl (hb hby at_176)) ?_
        refine own_st (fun _ k => XS.icmpYes X39.here hx rfl (pc0 := 178) (pc' := 218) rfl (hb hby at_178) rfl (flt (qC : ¬ (cp < (65536 : Int32)))).2.1 (by decide) (by decide) k) ?_
        refine own_st (fun _ k => XS.iloadN X39.here hx rfl (hb hby at_218) rfl k) ?_
        refine own_st (X39.ldcInt hx hown (mvT hZ (own_w174 hw)) (g := (mkF m 219 #[.val (.int p1), .val (.int p2), .val (.int sl), .val (.int cp), .val (.ref rs), .unset, .unset, .unset] [(.int cp)])) rfl (hb hby at_219)) ?_
        refine own_st (fun _ k => XS.isub X39.here hx rfl (hb hby at_221) rfl k) ?_
        refine own_st (fun _ k => XS.istore X39.here hx rfl (hb hby at_222) rfl (l' := #[.val (.int p1), .val (.int p2), .val (.int sl), .val (.int cp), .val (.ref rs), .val (.int (cp - (65536 : Int32))), .unset, .unset]) rfl k) ?_
        refine own_st (X39.ldcInt hx hown (mvT hZ (own_w260 hw)) (g := (mkF m 224 #[.val (.int p1), .val (.int p2), .val (.int sl), .val (.int cp), .val (.ref rs), .val (.int (cp - (65536 : Int32))), .unset, .unset] [])) rfl (hb hby at_224)) ?_
        show own_Go _ _ _ _ T39 (mkF m 226 #[.val (.int p1), .val (.int p2), .val (.int sl), .val (.int cp), .val (.ref rs), .val (.int (cp - (65536 : Int32))), .unset, .unset] [(.int 55296)])
        refine own_st (fun _ k => XS.iload X39.here hx rfl (hb hby at_226) rfl k) ?_
        refine own_st (fun _ k => XS.bipush X39.here hx rfl (hb hby at_228) k) ?_
        refine own_st (fun _ k => XS.iushr X39.here hx rfl (hb hby at_230) rfl k) ?_
        refine own_st (fun _ k => XS.iadd X39.here hx rfl (hb hby at_231) rfl k) ?_
        refine own_st (fun _ k => XS.i2c X39.here hx rfl (hb hby at_232) rfl k) ?_
        refine own_st (fun _ k => XS.istore X39.here hx rfl (hb hby at_233) rfl (l' := #[.val (.int p1), .val (.int p2), .val (.int sl), .val (.int cp), .val (.ref rs), .val (.int (cp - (65536 : Int32))), .val (.int (((55296 : Int32) + (((cp - (65536 : Int32)).toUInt32 >>> ((10 : Int32) &&& 31).toUInt32).toInt32)).toUInt32.toUInt16.toUInt32.toInt32)), .unset]) rfl k) ?_
        refine own_st (X39.ldcInt hx hown (mvT hZ (own_w261 hw)) (g := (mkF m 235 #[.val (.int p1), .val (.int p2), .val (.int sl), .val (.int cp), .val (.ref rs), .val (.int (cp - (65536 : Int32))), .val (.int (((55296 : Int32) + (((cp - (65536 : Int32)).toUInt32 >>> ((10 : Int32) &&& 31).toUInt32).toInt32)).toUInt32.toUInt16.toUInt32.toInt32)), .unset] [])) rfl (hb hby at_235)) ?_
        refine own_st (fun _ k => XS.iload X39.here hx rfl (hb hby at_237) rfl k) ?_
        show own_Go _ _ _ _ T39 (mkF m 239 #[.val (.int p1), .val (.int p2), .val (.int sl), .val (.int cp), .val (.ref rs), .val (.int (cp - (65536 : Int32))), .val (.int (((55296 : Int32) + (((cp - (65536 : Int32)).toUInt32 >>> ((10 : Int32) &&& 31).toUInt32).toInt32)).toUInt32.toUInt16.toUInt32.toInt32)), .unset] [(.int (cp - (65536 : Int32))), (.int 56320)])
        refine own_st (fun _ k => XS.sipush X39.here hx rfl (hb hby at_239) k) ?_
        refine own_st (fun _ k => XS.iand X39.here hx rfl (hb hby at_242) rfl k) ?_
        refine own_st (fun _ k => XS.iadd X39.here hx rfl (hb hby at_243) rfl k) ?_
        refine own_st (fun _ k => XS.i2c X39.here hx rfl (hb hby at_244) rfl k) ?_
        refine own_st (fun _ k => XS.istore X39.here hx rfl (hb hby at_245) rfl (l' := #[.val (.int p1), .val (.int p2), .val (.int sl), .val (.int cp), .val (.ref rs), .val (.int (cp - (65536 : Int32))), .val (.int (((55296 : Int32) + (((cp - (65536 : Int32)).toUInt32 >>> ((10 : Int32) &&& 31).toUInt32).toInt32)).toUInt32.toUInt16.toUInt32.toInt32)), .val (.int (((56320 : Int32) + ((cp - (65536 : Int32)) &&& (1023 : Int32))).toUInt32.toUInt16.toUInt32.toInt32))]) rfl k) ?_
        refine own_st (fun _ k => XS.aload X39.here hx rfl (hb hby at_247) rfl rfl k) ?_
        show own_Go _ _ _ _ T39 (mkF m 249 #[.val (.int p1), .val (.int p2), .val (.int sl), .val (.int cp), .val (.ref rs), .val (.int (cp - (65536 : Int32))), .val (.int (((55296 : Int32) + (((cp - (65536 : Int32)).toUInt32 >>> ((10 : Int32) &&& 31).toUInt32).toInt32)).toUInt32.toUInt16.toUInt32.toInt32)), .val (.int (((56320 : Int32) + ((cp - (65536 : Int32)) &&& (1023 : Int32))).toUInt32.toUInt16.toUInt32.toInt32))] [(.ref rs)])
        obtain ⟨v40, T40, L40, hQ40, X40, st40⟩ := own_callV X39 hx hZ (y := (⟨"java/lang/String", "length", "()I"⟩ : MethodName)) hown (own_w175 hw) (own_w59 hw) (own_w61 hw) (own_w60 hw) (own_w22 hw) (own_w62 hw) (by decide) (own_ln l hw [] rs rv rk [(.int (own_B0 (92 : Int32))), (.int (own_B1 (92 : Int32))), (.int (own_B0 (own_HS cp))), (.int (own_B1 (own_HS cp))), (.int (own_B0 (own_LS cp))), (.int (own_B1 (own_LS cp)))] cs (1 : Int32) (6 : Int32) (3 : Int32) T39.heap n0 (Nat.le_trans Z0 O39.1) zn (own_extt OZ O39) Scs hcs (by decide) (by decide) Er Fvr Fcr Vr) rfl Er (g := (mkF m 249 #[.val (.int p1), .val (.int p2), .val (.int sl), .val (.int cp), .val (.ref rs), .val (.int (cp - (65536 : Int32))), .val (.int (((55296 : Int32) + (((cp - (65536 : Int32)).toUInt32 >>> ((10 : Int32) &&& 31).toUInt32).toInt32)).toUInt32.toUInt16.toUInt32.toInt32)), .val (.int (((56320 : Int32) + ((cp - (65536 : Int32)) &&& (1023 : Int32))).toUInt32.toUInt16.toUInt32.toInt32))] [(.ref rs)])) rfl (by rw [hml]; rfl) (argsL := []) (rest := []) (lenOf own_pd16 rfl) rfl rfl (W := 0) (Nat.le_of_eq rfl) (hb hby at_249) (by decide) (by decide) (by decide) (by decide)
        obtain ⟨rfl, N40, e40⟩ := hQ40
        have N40' := Fr.app N39' N40
        refine own_st st40 ?_
        refine own_st (fun _ k => XS.iconst X40.here hx rfl (hb hby at_252) k) ?_
        refine own_st (fun _ k => XS.icmpNo X40.here hx rfl (hb hby at_253) rfl (teq (by decide : (3 : Int32) = (3 : Int32))).2 k) ?_
        refine own_st (fun _ k => XS.aload X40.here hx rfl (hb hby at_256) rfl rfl k) ?_
        refine own_st (fun _ k => XS.iconst X40.here hx rfl (hb hby at_258) k) ?_
        obtain ⟨v41, T41, L41, hQ41, X41, st41⟩ := own_callV X40 hx hZ (y := (⟨"java/lang/String", "charAt", "(I)C"⟩ : MethodName)) hown (own_w176 hw) (own_w177 hw) (own_w179 hw) (own_w178 hw) (own_w22 hw) (own_w180 hw) (by decide) (own_cu0 l hw [] rs rv rk [(.int (own_B0 (92 : Int32))), (.int (own_B1 (92 : Int32))), (.int (own_B0 (own_HS cp))), (.int (own_B1 (own_HS cp))), (.int (own_B0 (own_LS cp))), (.int (own_B1 (own_LS cp)))] (0 : Int32) (6 : Int32) (own_B0 (92 : Int32)) (own_B1 (92 : Int32)) cs fm T39.heap n0 (Nat.le_trans Z0 O39.1) zn (own_extt OZ O39) Scs hcs Sad Shi Slo Sfm hfm rfl (by decide) (by decide) rfl rfl (by decide) Er Fvr Fcr Vr) e40 Er (g := (mkF m 259 #[.val (.int p1), .val (.int p2), .val (.int sl), .val (.int cp), .val (.ref rs), .val (.int (cp - (65536 : Int32))), .val (.int (((55296 : Int32) + (((cp - (65536 : Int32)).toUInt32 >>> ((10 : Int32) &&& 31).toUInt32).toInt32)).toUInt32.toUInt16.toUInt32.toInt32)), .val (.int (((56320 : Int32) + ((cp - (65536 : Int32)) &&& (1023 : Int32))).toUInt32.toUInt16.toUInt32.toInt32))] [(.int 0), (.ref rs)])) rfl (by rw [hml]; rfl) (argsL := [(.int 0)]) (rest := []) (lenOf own_pd9 rfl) rfl rfl (W := 0) (Nat.le_of_eq rfl) (hb hby at_259) (by decide) (by decide) (by decide) (by decide)
        obtain ⟨rfl, N41, e41⟩ := hQ41
        have N41' := Fr.app N40' N41
        refine own_st st41 ?_
        show own_Go _ _ _ _ T41 (mkF m 262 #[.val (.int p1), .val (.int p2), .val (.int sl), .val (.int cp), .val (.ref rs), .val (.int (cp - (65536 : Int32))), .val (.int (((55296 : Int32) + (((cp - (65536 : Int32)).toUInt32 >>> ((10 : Int32) &&& 31).toUInt32).toInt32)).toUInt32.toUInt16.toUInt32.toInt32)), .val (.int (((56320 : Int32) + ((cp - (65536 : Int32)) &&& (1023 : Int32))).toUInt32.toUInt16.toUInt32.toInt32))] [(.int (own_gc (own_B0 (92 : Int32)) (own_B1 (92 : Int32))))])
        rw [own_gc92]
        refine own_st (fun _ k => XS.bipush X41.here hx rfl (hb hby at_262) k) ?_
        refine own_st (fun _ k => XS.icmpNo X41.here hx rfl (hb hby at_264) rfl (teq (by decide : (92 : Int32) = (92 : Int32))).2 k) ?_
        refine own_st (fun _ k => XS.aload X41.here hx rfl (hb hby at_267) rfl rfl k) ?_
        refine own_st (fun _ k => XS.iconst X41.here hx rfl (hb hby at_269) k) ?_
        obtain ⟨v42, T42, L42, hQ42, X42, st42⟩ := own_callV X41 hx hZ (y := (⟨"java/lang/String", "charAt", "(I)C"⟩ : MethodName)) hown (own_w176 hw) (own_w177 hw) (own_w179 hw) (own_w178 hw) (own_w22 hw) (own_w180 hw) (by decide) (own_cu1 l hw [] rs rv rk [(.int (own_B0 (92 : Int32))), (.int (own_B1 (92 : Int32))), (.int (own_B0 (own_HS cp))), (.int (own_B1 (own_HS cp))), (.int (own_B0 (own_LS cp))), (.int (own_B1 (own_LS cp)))] (1 : Int32) (6 : Int32) (own_B0 (own_HS cp)) (own_B1 (own_HS cp)) cs fm T39.heap n0 (Nat.le_trans Z0 O39.1) zn (own_extt OZ O39) Scs hcs Sad Shi Slo Sfm hfm rfl (by decide) (by decide) rfl rfl (by decide) Er Fvr Fcr Vr) e41 Er (g := (mkF m 270 #[.val (.int p1), .val (.int p2), .val (.int sl), .val (.int cp), .val (.ref rs), .val (.int (cp - (65536 : Int32))), .val (.int (((55296 : Int32) + (((cp - (65536 : Int32)).toUInt32 >>> ((10 : Int32) &&& 31).toUInt32).toInt32)).toUInt32.toUInt16.toUInt32.toInt32)), .val (.int (((56320 : Int32) + ((cp - (65536 : Int32)) &&& (1023 : Int32))).toUInt32.toUInt16.toUInt32.toInt32))] [(.int 1), (.ref rs)])) rfl (by rw [hml]; rfl) (argsL := [(.int 1)]) (rest := []) (lenOf own_pd9 rfl) rfl rfl (W := 0) (Nat.le_of_eq rfl) (hb hby at_270) (by decide) (by decide) (by decide) (by decide)
        obtain ⟨rfl, N42, e42⟩ := hQ42
        have N42' := Fr.app N41' N42
        refine own_st st42 ?_
        show own_Go _ _ _ _ T42 (mkF m 273 #[.val (.int p1), .val (.int p2), .val (.int sl), .val (.int cp), .val (.ref rs), .val (.int (cp - (65536 : Int32))), .val (.int (((55296 : Int32) + (((cp - (65536 : Int32)).toUInt32 >>> ((10 : Int32) &&& 31).toUInt32).toInt32)).toUInt32.toUInt16.toUInt32.toInt32)), .val (.int (((56320 : Int32) + ((cp - (65536 : Int32)) &&& (1023 : Int32))).toUInt32.toUInt16.toUInt32.toInt32))] [(.int (own_gc (own_B0 (own_HS cp)) (own_B1 (own_HS cp))))])
        rw [own_gcp _ (own_HSr cp).1 (own_HSr cp).2, own_hi cp (own_geD qC) hr.2]
        refine own_st (fun _ k => XS.iload X42.here hx rfl (hb hby at_273) rfl k) ?_
        refine own_st (fun _ k => XS.icmpNo X42.here hx rfl (hb hby at_275) rfl (teq (rfl : (((55296 : Int32) + (((cp - (65536 : Int32)).toUInt32 >>> ((10 : Int32) &&& 31).toUInt32).toInt32)).toUInt32.toUInt16.toUInt32.toInt32) = (((55296 : Int32) + (((cp - (65536 : Int32)).toUInt32 >>> ((10 : Int32) &&& 31).toUInt32).toInt32)).toUInt32.toUInt16.toUInt32.toInt32))).2 k) ?_
        refine own_st (fun _ k => XS.aload X42.here hx rfl (hb hby at_278) rfl rfl k) ?_
        refine own_st (fun _ k => XS.iconst X42.here hx rfl (hb hby at_280) k) ?_
        obtain ⟨v43, T43, L43, hQ43, X43, st43⟩ := own_callV X42 hx hZ (y := (⟨"java/lang/String", "charAt", "(I)C"⟩ : MethodName)) hown (own_w176 hw) (own_w177 hw) (own_w179 hw) (own_w178 hw) (own_w22 hw) (own_w180 hw) (by decide) (own_cu2 l hw [] rs rv rk [(.int (own_B0 (92 : Int32))), (.int (own_B1 (92 : Int32))), (.int (own_B0 (own_HS cp))), (.int (own_B1 (own_HS cp))), (.int (own_B0 (own_LS cp))), (.int (own_B1 (own_LS cp)))] (2 : Int32) (6 : Int32) (own_B0 (own_LS cp)) (own_B1 (own_LS cp)) cs fm T39.heap n0 (Nat.le_trans Z0 O39.1) zn (own_extt OZ O39) Scs hcs Sad Shi Slo Sfm hfm rfl (by decide) (by decide) rfl rfl (by decide) Er Fvr Fcr Vr) e42 Er (g := (mkF m 281 #[.val (.int p1), .val (.int p2), .val (.int sl), .val (.int cp), .val (.ref rs), .val (.int (cp - (65536 : Int32))), .val (.int (((55296 : Int32) + (((cp - (65536 : Int32)).toUInt32 >>> ((10 : Int32) &&& 31).toUInt32).toInt32)).toUInt32.toUInt16.toUInt32.toInt32)), .val (.int (((56320 : Int32) + ((cp - (65536 : Int32)) &&& (1023 : Int32))).toUInt32.toUInt16.toUInt32.toInt32))] [(.int 2), (.ref rs)])) rfl (by rw [hml]; rfl) (argsL := [(.int 2)]) (rest := []) (lenOf own_pd9 rfl) rfl rfl (W := 0) (Nat.le_of_eq rfl) (hb hby at_281) (by decide) (by decide) (by decide) (by decide)
        obtain ⟨rfl, N43, e43⟩ := hQ43
        have N43' := Fr.app N42' N43
        refine own_st st43 ?_
        show own_Go _ _ _ _ T43 (mkF m 284 #[.val (.int p1), .val (.int p2), .val (.int sl), .val (.int cp), .val (.ref rs), .val (.int (cp - (65536 : Int32))), .val (.int (((55296 : Int32) + (((cp - (65536 : Int32)).toUInt32 >>> ((10 : Int32) &&& 31).toUInt32).toInt32)).toUInt32.toUInt16.toUInt32.toInt32)), .val (.int (((56320 : Int32) + ((cp - (65536 : Int32)) &&& (1023 : Int32))).toUInt32.toUInt16.toUInt32.toInt32))] [(.int (own_gc (own_B0 (own_LS cp)) (own_B1 (own_LS cp))))])
        rw [own_gcp _ (own_LSr cp).1 (own_LSr cp).2, own_lo cp (own_geD qC) hr.2]
        refine own_st (fun _ k => XS.iload X43.here hx rfl (hb hby at_284) rfl k) ?_
        refine own_st (fun _ k => XS.icmpNo X43.here hx rfl (hb hby at_286) rfl (teq (rfl : (((56320 : Int32) + ((cp - (65536 : Int32)) &&& (1023 : Int32))).toUInt32.toUInt16.toUInt32.toInt32) = (((56320 : Int32) + ((cp - (65536 : Int32)) &&& (1023 : Int32))).toUInt32.toUInt16.toUInt32.toInt32))).2 k) ?_
        refine own_st (fun _ k => XS.iconst X43.here hx rfl (hb hby at_289) k) ?_
        refine own_st (fun _ k => XS.goto X43.here hx rfl (pc0 := 290) (pc' := 294) rfl (hb hby at_290) (by decide) (by decide) k) ?_
        exact own_retNW X43 hS (by rw [e43]; exact hk39) hx hret (by simp) hlk (hb hby at_294) ⟨rfl, N43'⟩ (by decide) (by decide)
    · show own_Go _ _ _ _ Tt (mkF m 78 #[.val (.int p1), .val (.int p2), .val (.int sl), .val (.int cp), .unset, .unset, .unset, .unset] [])
      have hc0 : ¬ cp < 0 := own_ge0 hr.1
      obtain ⟨T44, hp44, X44, e44, Et44, A44, D44, -, st44⟩ := newO Xt hx hZ hown (own_w0 hw) (own_w1 hw) (own_w2 hw) et (g := (mkF m 78 #[.val (.int p1), .val (.int p2), .val (.int sl), .val (.int cp), .unset, .unset, .unset, .unset] [])) rfl (hb hby at_78) (by decide) (by decide)
      obtain ⟨b44, g44⟩ : ∃ z, z = ht.size := ⟨_, rfl⟩
      rw [← g44] at A44 D44 st44
      have s_b44 : h0.size ≤ b44 := Nat.le_trans Ot.1 (Nat.le_of_eq g44.symm)
      have g_b44 : n0 ≤ b44 := Nat.le_trans Z0 s_b44
      have hk44 := Nat.le_trans hkt Et44.1
      have O44 := own_extt Ot Et44
      have F_codePoint_b44 : Fld Z hp44 b44 "com/example/isoscope/isoscope/Edn$Char" "codePoint" "I" (.int 0) := D44 (Or.inr (own_w15 hw)) (ty := .int) (by decide)
      refine own_st st44 ?_
      refine own_st (fun _ k => XS.dup X44.here hx rfl (hb hby at_81) rfl rfl k) ?_
      refine own_st (fun _ k => XS.iloadN X44.here hx rfl (hb hby at_82) rfl k) ?_
      obtain ⟨v45, T45, L45, hQ45, X45, st45⟩ := own_callI X44 hx hZ (y := (⟨"com/example/isoscope/isoscope/Edn$Char", "<init>", "(I)V"⟩ : MethodName)) rfl hown (own_w3 hw) (own_w4 hw) (own_w2 hw) (own_w5 hw) (by decide) (own_chi l hw [] b44 cp hp44 n0 (Nat.le_trans Z0 O44.1) g_b44 A44 F_codePoint_b44) e44 (g := (mkF m 83 #[.val (.int p1), .val (.int p2), .val (.int sl), .val (.int cp), .unset, .unset, .unset, .unset] [(.int cp), (.ref b44), (.ref b44)])) rfl (by rw [hml]; rfl) (argsL := [(.int cp)]) (rest := [(.ref b44)]) (lenOf own_pd15 rfl) rfl rfl (W := 1) (Nat.le_of_eq rfl) (hb hby at_83) (by decide) (by decide) (by decide) (by decide)
      obtain ⟨rfl, N45, K45, Gp⟩ := hQ45
      have O45 := own_extk O44 K45 s_b44
      have hk45 := Nat.le_trans hk44 K45.1
      have Ex_b44_45 := A44.keep K45
      have N45' := Fr.app Nt N45
      refine own_st st45 ?_
      obtain ⟨v46, T46, L46, hQ46, X46, hS, hZ, hown, st46⟩ := own_callVW (J := fun vm => IB Z vm []) X45 hS hk45 hx hZ (y := (⟨"com/example/isoscope/isoscope/Edn$Char", "toString", "()Ljava/lang/String;"⟩ : MethodName)) hown (own_w16 hw) (own_w17 hw) (own_w19 hw) (own_w18 hw) (own_w2 hw) (own_w20 hw) (by decide) (own_tB l hw [] b44 cs fm cp T45.heap T45.heap.size (Nat.le_refl _) rfl hcw hh34c (own_extt OZ O45).1 (own_extt OZ O45) Scs hcs Sad Shi Slo Sfm hfm n8 n9 n10 n12 n13 n32 hc0 qB Ex_b44_45 Gp) (fun vm q => own_ibw hJ q) rfl Ex_b44_45 (g := (mkF m 86 #[.val (.int p1), .val (.int p2), .val (.int sl), .val (.int cp), .unset, .unset, .unset, .unset] [(.ref b44)])) rfl (by rw [hml]; rfl) (argsL := []) (rest := []) (lenOf own_pd33 rfl) rfl rfl (W := 0) (Nat.le_of_eq rfl) (hb hby at_86) (by decide) (by decide) (by decide) (by decide)
      obtain ⟨rs, rv, rk, rfl, Nx46, Et46, Er, Fvr, Fcr, Vr, hI⟩ := hQ46
      have hk46 : T46.heap.size ≤ T46.heap.size := Nat.le_refl _
      have N46 : Fr n0 L46 := fun y q => Nat.le_trans (Nat.le_trans Z0 O45.1) (Nx46 y q)
      have O46 := own_extt O45 Et46
      have Ex_b44_46 := Ex_b44_45.ext Et46
      have F_codePoint_b44_46 := Gp.ext Et46
      have N46' := Fr.app N45' N46
      refine own_st st46 ?_
      refine own_st (fun _ k => XS.astore X46.here hx rfl (hb hby at_89) rfl rfl (l' := #[.val (.int p1), .val (.int p2), .val (.int sl), .val (.int cp), .val (.ref rs), .unset, .unset, .unset]) rfl k) ?_
      refine own_st (fun _ k => XS.iloadN X46.here hx rfl (hb hby at_91) rfl k) ?_
      refine own_st (fun _ k => XS.bipush X46.here hx rfl (hb hby at_92) k) ?_
      show own_Go _ _ _ _ T46 (mkF m 94 #[.val (.int p1), .val (.int p2), .val (.int sl), .val (.int cp), .val (.ref rs), .unset, .unset, .unset] [(.int 10), (.int cp)])
      refine own_st (fun _ k => XS.icmpYes X46.here hx rfl (pc0 := 94) (pc' := 105) rfl (hb hby at_94) rfl (feq (n10 : ¬ (cp = (10 : Int32)))).2 (by decide) (by decide) k) ?_
      refine own_st (fun _ k => XS.iloadN X46.here hx rfl (hb hby at_105) rfl k) ?_
      refine own_st (fun _ k => XS.bipush X46.here hx rfl (hb hby at_106) k) ?_
      refine own_st (fun _ k => XS.icmpYes X46.here hx rfl (pc0 := 108) (pc' := 119) rfl (hb hby at_108) rfl (feq (n13 : ¬ (cp = (13 : Int32)))).2 (by decide) (by decide) k) ?_
      refine own_st (fun _ k => XS.iloadN X46.here hx rfl (hb hby at_119) rfl k) ?_
      refine own_st (fun _ k => XS.bipush X46.here hx rfl (hb hby at_120) k) ?_
      refine own_st (fun _ k => XS.icmpYes X46.here hx rfl (pc0 := 122) (pc' := 133) rfl (hb hby at_122) rfl (feq (n32 : ¬ (cp = (32 : Int32)))).2 (by decide) (by decide) k) ?_
      refine own_st (fun _ k => XS.iloadN X46.here hx rfl (hb hby at_133) rfl k) ?_
      show own_Go _ _ _ _ T46 (mkF m 134 #[.val (.int p1), .val (.int p2), .val (.int sl), .val (.int cp), .val (.ref rs), .unset, .unset, .unset] [(.int cp)])
      refine own_st (fun _ k => XS.bipush X46.here hx rfl (hb hby at_134) k) ?_
      refine own_st (fun _ k => XS.icmpYes X46.here hx rfl (pc0 := 136) (pc' := 147) rfl (hb hby at_136) rfl (feq (n9 : ¬ (cp = (9 : Int32)))).2 (by decide) (by decide) k) ?_
      refine own_st (fun _ k => XS.iloadN X46.here hx rfl (hb hby at_147) rfl k) ?_
      refine own_st (fun _ k => XS.bipush X46.here hx rfl (hb hby at_148) k) ?_
      refine own_st (fun _ k => XS.icmpYes X46.here hx rfl (pc0 := 150) (pc' := 161) rfl (hb hby at_150) rfl (feq (n12 : ¬ (cp = (12 : Int32)))).2 (by decide) (by decide) k) ?_
      refine own_st (fun _ k => XS.iloadN X46.here hx rfl (hb hby at_161) rfl k) ?_
      refine own_st (fun _ k => XS.bipush X46.here hx rfl (hb hby at_162) k) ?_
      refine own_st (fun _ k => XS.icmpYes X46.here hx rfl (pc0 := 164) (pc' := 175) rfl (hb hby at_164) rfl (feq (n8 : ¬ (cp = (8 : Int32)))).2 (by decide) (by decide) k) ?_
      show own_Go _ _ _ _ T46 (mkF m 175 #[.val (.int p1), .val (.int p2), .val (.int sl), .val (.int cp), .val (.ref rs), .unset, .unset, .unset] [])
      refine own_st (fun _ k => XS.iloadN X46.here hx rfl (hb hby at_175) rfl k) ?_
      refine own_st (X46.ldcInt hx hown (mvT hZ (own_w174 hw)) (g := (mkF m 176 #[.val (.int p1), .val (.int p2), .val (.int sl), .val (.int cp), .val (.ref rs), .unset, .unset, .unset] [(.int cp)])) rfl (hb hby at_176)) ?_
      refine own_st (fun _ k => XS.icmpNo X46.here hx rfl (hb hby at_178) rfl (tlt (own_ltB qB : cp < (65536 : Int32))).2.1 k) ?_
      refine own_st (fun _ k => XS.aload X46.here hx rfl (hb hby at_181) rfl rfl k) ?_
      show own_Go _ _ _ _ T46 (mkF m 183 #[.val (.int p1), .val (.int p2), .val (.int sl), .val (.int cp), .val (.ref rs), .unset, .unset, .unset] [(.ref rs)])
      obtain ⟨v47, T47, L47, hQ47, X47, st47⟩ := own_callV X46 hx hZ (y := (⟨"java/lang/String", "length", "()I"⟩ : MethodName)) hown (own_w175 hw) (own_w59 hw) (own_w61 hw) (own_w60 hw) (own_w22 hw) (own_w62 hw) (by decide) (own_ln l hw [] rs rv rk [(.int 92), (.int (own_Bl (cp.toUInt32.toUInt16.toUInt32.toInt32)))] cs (0 : Int32) (2 : Int32) (2 : Int32) T46.heap n0 (Nat.le_trans Z0 O46.1) zn (own_extt OZ O46) Scs hcs (by decide) (by decide) Er Fvr Fcr Vr) rfl Er (g := (mkF m 183 #[.val (.int p1), .val (.int p2), .val (.int sl), .val (.int cp), .val (.ref rs), .unset, .unset, .unset] [(.ref rs)])) rfl (by rw [hml]; rfl) (argsL := []) (rest := []) (lenOf own_pd16 rfl) rfl rfl (W := 0) (Nat.le_of_eq rfl) (hb hby at_183) (by decide) (by decide) (by decide) (by decide)
      obtain ⟨rfl, N47, e47⟩ := hQ47
      have N47' := Fr.app N46' N47
      refine own_st st47 ?_
      refine own_st (fun _ k => XS.iconst X47.here hx rfl (hb hby at_186) k) ?_
      refine own_st (fun _ k => XS.icmpNo X47.here hx rfl (hb hby at_187) rfl (teq (by decide : (2 : Int32) = (2 : Int32))).2 k) ?_
      refine own_st (fun _ k => XS.aload X47.here hx rfl (hb hby at_190) rfl rfl k) ?_
      refine own_st (fun _ k => XS.iconst X47.here hx rfl (hb hby at_192) k) ?_
      obtain ⟨v48, T48, L48, hQ48, X48, st48⟩ := own_callV X47 hx hZ (y := (⟨"java/lang/String", "charAt", "(I)C"⟩ : MethodName)) hown (own_w176 hw) (own_w177 hw) (own_w179 hw) (own_w178 hw) (own_w22 hw) (own_w180 hw) (by decide) (own_cl l hw [] rs rv rk [(.int 92), (.int (own_Bl (cp.toUInt32.toUInt16.toUInt32.toInt32)))] (0 : Int32) (2 : Int32) (92 : Int32) cs fm T46.heap n0 (Nat.le_trans Z0 O46.1) zn (own_extt OZ O46) Scs hcs Sfm hfm (by decide) (by decide) rfl Er Fvr Fcr Vr) e47 Er (g := (mkF m 193 #[.val (.int p1), .val (.int p2), .val (.int sl), .val (.int cp), .val (.ref rs), .unset, .unset, .unset] [(.int 0), (.ref rs)])) rfl (by rw [hml]; rfl) (argsL := [(.int 0)]) (rest := []) (lenOf own_pd9 rfl) rfl rfl (W := 0) (Nat.le_of_eq rfl) (hb hby at_193) (by decide) (by decide) (by decide) (by decide)
      obtain ⟨rfl, N48, e48⟩ := hQ48
      have N48' := Fr.app N47' N48
      refine own_st st48 ?_
      show own_Go _ _ _ _ T48 (mkF m 196 #[.val (.int p1), .val (.int p2), .val (.int sl), .val (.int cp), .val (.ref rs), .unset, .unset, .unset] [(.int (own_c1 (92 : Int32)))])
      rw [own_c192]
      refine own_st (fun _ k => XS.bipush X48.here hx rfl (hb hby at_196) k) ?_
      refine own_st (fun _ k => XS.icmpNo X48.here hx rfl (hb hby at_198) rfl (teq (by decide : (92 : Int32) = (92 : Int32))).2 k) ?_
      refine own_st (fun _ k => XS.aload X48.here hx rfl (hb hby at_201) rfl rfl k) ?_
      refine own_st (fun _ k => XS.iconst X48.here hx rfl (hb hby at_203) k) ?_
      obtain ⟨v49, T49, L49, hQ49, X49, st49⟩ := own_callV X48 hx hZ (y := (⟨"java/lang/String", "charAt", "(I)C"⟩ : MethodName)) hown (own_w176 hw) (own_w177 hw) (own_w179 hw) (own_w178 hw) (own_w22 hw) (own_w180 hw) (by decide) (own_cl l hw [] rs rv rk [(.int 92), (.int (own_Bl (cp.toUInt32.toUInt16.toUInt32.toInt32)))] (1 : Int32) (2 : Int32) (own_Bl (cp.toUInt32.toUInt16.toUInt32.toInt32)) cs fm T46.heap n0 (Nat.le_trans Z0 O46.1) zn (own_extt OZ O46) Scs hcs Sfm hfm (by decide) (by decide) rfl Er Fvr Fcr Vr) e48 Er (g := (mkF m 204 #[.val (.int p1), .val (.int p2), .val (.int sl), .val (.int cp), .val (.ref rs), .unset, .unset, .unset] [(.int 1), (.ref rs)])) rfl (by rw [hml]; rfl) (argsL := [(.int 1)]) (rest := []) (lenOf own_pd9 rfl) rfl rfl (W := 0) (Nat.le_of_eq rfl) (hb hby at_204) (by decide) (by decide) (by decide) (by decide)
      obtain ⟨rfl, N49, e49⟩ := hQ49
      have N49' := Fr.app N48' N49
      refine own_st st49 ?_
      show own_Go _ _ _ _ T49 (mkF m 207 #[.val (.int p1), .val (.int p2), .val (.int sl), .val (.int cp), .val (.ref rs), .unset, .unset, .unset] [(.int (own_c1 (own_Bl (cp.toUInt32.toUInt16.toUInt32.toInt32))))])
      rw [own_c1b cp hr.1 (own_le255 qB)]
      refine own_st (fun _ k => XS.iloadN X49.here hx rfl (hb hby at_207) rfl k) ?_
      refine own_st (fun _ k => XS.i2c X49.here hx rfl (hb hby at_208) rfl k) ?_
      refine own_st (fun _ k => XS.icmpNo X49.here hx rfl (hb hby at_209) rfl (teq (rfl : (cp.toUInt32.toUInt16.toUInt32.toInt32) = (cp.toUInt32.toUInt16.toUInt32.toInt32))).2 k) ?_
      refine own_st (fun _ k => XS.iconst X49.here hx rfl (hb hby at_212) k) ?_
      refine own_st (fun _ k => XS.goto X49.here hx rfl (pc0 := 213) (pc' := 217) rfl (hb hby at_213) (by decide) (by decide) k) ?_
      exact own_retNW X49 hS (by rw [e49]; exact hk46) hx hret (by simp) hlk (hb hby at_217) ⟨rfl, N49'⟩ (by decide) (by decide)
  refine own_st (fun _ k => XS.iloadN X0.here hx rfl (hb hby at_0) rfl k) ?_
  refine own_st (fun _ k => XS.bipush X0.here hx rfl (hb hby at_1) k) ?_
  refine own_st (fun _ k => XS.iand X0.here hx rfl (hb hby at_3) rfl k) ?_
  refine own_st (fun _ k => XS.istoreN X0.here hx rfl (hb hby at_4) rfl (l' := #[.val (.int p1), .val (.int p2), .val (.int (p1 &&& (7 : Int32))), .unset, .unset, .unset, .unset, .unset]) rfl k) ?_
  refine own_st (fun _ k => XS.iloadN X0.here hx rfl (hb hby at_5) rfl k) ?_
  by_cases hs0 : (p1 &&& (7 : Int32)) = (0 : Int32)
  · refine own_st (fun _ k => XS.ifNo X0.here hx rfl (hb hby at_6) rfl ((if0 _ _).trans (teq (hs0 : (p1 &&& (7 : Int32)) = (0 : Int32))).2) k) ?_
    refine own_st (fun _ k => XS.bipush X0.here hx rfl (hb hby at_9) k) ?_
    refine own_st (fun _ k => XS.istoreN X0.here hx rfl (hb hby at_11) rfl (l' := #[.val (.int p1), .val (.int p2), .val (.int (p1 &&& (7 : Int32))), .val (.int 10), .unset, .unset, .unset, .unset]) rfl k) ?_
    show own_Go _ _ _ _ T0 (mkF m 12 #[.val (.int p1), .val (.int p2), .val (.int (p1 &&& (7 : Int32))), .val (.int 10), .unset, .unset, .unset, .unset] [])
    refine own_st (fun _ k => XS.goto X0.here hx rfl (pc0 := 12) (pc' := 78) rfl (hb hby at_12) (by decide) (by decide) k) ?_
    show own_Go _ _ _ _ T0 (mkF m 78 #[.val (.int p1), .val (.int p2), .val (.int (p1 &&& (7 : Int32))), .val (.int 10), .unset, .unset, .unset, .unset] [])
    exact t78 _ _ _ X0 N0 e0 O0 _ _ (by decide)
  · refine own_st (fun _ k => XS.ifYes X0.here hx rfl (pc0 := 6) (pc' := 15) rfl (hb hby at_6) rfl ((if0 _ _).trans (feq (hs0 : ¬ ((p1 &&& (7 : Int32)) = (0 : Int32)))).2) (by decide) (by decide) k) ?_
    refine own_st (fun _ k => XS.iloadN X0.here hx rfl (hb hby at_15) rfl k) ?_
    refine own_st (fun _ k => XS.iconst X0.here hx rfl (hb hby at_16) k) ?_
    show own_Go _ _ _ _ T0 (mkF m 17 #[.val (.int p1), .val (.int p2), .val (.int (p1 &&& (7 : Int32))), .unset, .unset, .unset, .unset, .unset] [(.int 1), (.int (p1 &&& (7 : Int32)))])
    by_cases hs1 : (p1 &&& (7 : Int32)) = (1 : Int32)
    · refine own_st (fun _ k => XS.icmpNo X0.here hx rfl (hb hby at_17) rfl (teq (hs1 : (p1 &&& (7 : Int32)) = (1 : Int32))).2 k) ?_
      refine own_st (fun _ k => XS.bipush X0.here hx rfl (hb hby at_20) k) ?_
      refine own_st (fun _ k => XS.istoreN X0.here hx rfl (hb hby at_22) rfl (l' := #[.val (.int p1), .val (.int p2), .val (.int (p1 &&& (7 : Int32))), .val (.int 13), .unset, .unset, .unset, .unset]) rfl k) ?_
      refine own_st (fun _ k => XS.goto X0.here hx rfl (pc0 := 23) (pc' := 78) rfl (hb hby at_23) (by decide) (by decide) k) ?_
      show own_Go _ _ _ _ T0 (mkF m 78 #[.val (.int p1), .val (.int p2), .val (.int (p1 &&& (7 : Int32))), .val (.int 13), .unset, .unset, .unset, .unset] [])
      exact t78 _ _ _ X0 N0 e0 O0 _ _ (by decide)
    · refine own_st (fun _ k => XS.icmpYes X0.here hx rfl (pc0 := 17) (pc' := 26) rfl (hb hby at_17) rfl (feq (hs1 : ¬ ((p1 &&& (7 : Int32)) = (1 : Int32)))).2 (by decide) (by decide) k) ?_
      refine own_st (fun _ k => XS.iloadN X0.here hx rfl (hb hby at_26) rfl k) ?_
      refine own_st (fun _ k => XS.iconst X0.here hx rfl (hb hby at_27) k) ?_
      by_cases hs2 : (p1 &&& (7 : Int32)) = (2 : Int32)
      · refine own_st (fun _ k => XS.icmpNo X0.here hx rfl (hb hby at_28) rfl (teq (hs2 : (p1 &&& (7 : Int32)) = (2 : Int32))).2 k) ?_
        refine own_st (fun _ k => XS.bipush X0.here hx rfl (hb hby at_31) k) ?_
        refine own_st (fun _ k => XS.istoreN X0.here hx rfl (hb hby at_33) rfl (l' := #[.val (.int p1), .val (.int p2), .val (.int (p1 &&& (7 : Int32))), .val (.int 32), .unset, .unset, .unset, .unset]) rfl k) ?_
        refine own_st (fun _ k => XS.goto X0.here hx rfl (pc0 := 34) (pc' := 78) rfl (hb hby at_34) (by decide) (by decide) k) ?_
        show own_Go _ _ _ _ T0 (mkF m 78 #[.val (.int p1), .val (.int p2), .val (.int (p1 &&& (7 : Int32))), .val (.int 32), .unset, .unset, .unset, .unset] [])
        exact t78 _ _ _ X0 N0 e0 O0 _ _ (by decide)
      · refine own_st (fun _ k => XS.icmpYes X0.here hx rfl (pc0 := 28) (pc' := 37) rfl (hb hby at_28) rfl (feq (hs2 : ¬ ((p1 &&& (7 : Int32)) = (2 : Int32)))).2 (by decide) (by decide) k) ?_
        refine own_st (fun _ k => XS.iloadN X0.here hx rfl (hb hby at_37) rfl k) ?_
        refine own_st (fun _ k => XS.iconst X0.here hx rfl (hb hby at_38) k) ?_
        by_cases hs3 : (p1 &&& (7 : Int32)) = (3 : Int32)
        · refine own_st (fun _ k => XS.icmpNo X0.here hx rfl (hb hby at_39) rfl (teq (hs3 : (p1 &&& (7 : Int32)) = (3 : Int32))).2 k) ?_
          refine own_st (fun _ k => XS.bipush X0.here hx rfl (hb hby at_42) k) ?_
          show own_Go _ _ _ _ T0 (mkF m 44 #[.val (.int p1), .val (.int p2), .val (.int (p1 &&& (7 : Int32))), .unset, .unset, .unset, .unset, .unset] [(.int 9)])
          refine own_st (fun _ k => XS.istoreN X0.here hx rfl (hb hby at_44) rfl (l' := #[.val (.int p1), .val (.int p2), .val (.int (p1 &&& (7 : Int32))), .val (.int 9), .unset, .unset, .unset, .unset]) rfl k) ?_
          refine own_st (fun _ k => XS.goto X0.here hx rfl (pc0 := 45) (pc' := 78) rfl (hb hby at_45) (by decide) (by decide) k) ?_
          show own_Go _ _ _ _ T0 (mkF m 78 #[.val (.int p1), .val (.int p2), .val (.int (p1 &&& (7 : Int32))), .val (.int 9), .unset, .unset, .unset, .unset] [])
          exact t78 _ _ _ X0 N0 e0 O0 _ _ (by decide)
        · refine own_st (fun _ k => XS.icmpYes X0.here hx rfl (pc0 := 39) (pc' := 48) rfl (hb hby at_39) rfl (feq (hs3 : ¬ ((p1 &&& (7 : Int32)) = (3 : Int32)))).2 (by decide) (by decide) k) ?_
          refine own_st (fun _ k => XS.iloadN X0.here hx rfl (hb hby at_48) rfl k) ?_
          show own_Go _ _ _ _ T0 (mkF m 49 #[.val (.int p1), .val (.int p2), .val (.int (p1 &&& (7 : Int32))), .unset, .unset, .unset, .unset, .unset] [(.int (p1 &&& (7 : Int32)))])
          refine own_st (fun _ k => XS.iconst X0.here hx rfl (hb hby at_49) k) ?_
          by_cases hs4 : (p1 &&& (7 : Int32)) = (4 : Int32)
          · refine own_st (fun _ k => XS.icmpNo X0.here hx rfl (hb hby at_50) rfl (teq (hs4 : (p1 &&& (7 : Int32)) = (4 : Int32))).2 k) ?_
            refine own_st (fun _ k => XS.bipush X0.here hx rfl (hb hby at_53) k) ?_
            refine own_st (fun _ k => XS.istoreN X0.here hx rfl (hb hby at_55) rfl (l' := #[.val (.int p1), .val (.int p2), .val (.int (p1 &&& (7 : Int32))), .val (.int 12), .unset, .unset, .unset, .unset]) rfl k) ?_
            refine own_st (fun _ k => XS.goto X0.here hx rfl (pc0 := 56) (pc' := 78) rfl (hb hby at_56) (by decide) (by decide) k) ?_
            show own_Go _ _ _ _ T0 (mkF m 78 #[.val (.int p1), .val (.int p2), .val (.int (p1 &&& (7 : Int32))), .val (.int 12), .unset, .unset, .unset, .unset] [])
            exact t78 _ _ _ X0 N0 e0 O0 _ _ (by decide)
          · refine own_st (fun _ k => XS.icmpYes X0.here hx rfl (pc0 := 50) (pc' := 59) rfl (hb hby at_50) rfl (feq (hs4 : ¬ ((p1 &&& (7 : Int32)) = (4 : Int32)))).2 (by decide) (by decide) k) ?_
            refine own_st (fun _ k => XS.iloadN X0.here hx rfl (hb hby at_59) rfl k) ?_
            refine own_st (fun _ k => XS.iconst X0.here hx rfl (hb hby at_60) k) ?_
            by_cases hs5 : (p1 &&& (7 : Int32)) = (5 : Int32)
            · refine own_st (fun _ k => XS.icmpNo X0.here hx rfl (hb hby at_61) rfl (teq (hs5 : (p1 &&& (7 : Int32)) = (5 : Int32))).2 k) ?_
              refine own_st (fun _ k => XS.bipush X0.here hx rfl (hb hby at_64) k) ?_
              refine own_st (fun _ k => XS.istoreN X0.here hx rfl (hb hby at_66) rfl (l' := #[.val (.int p1), .val (.int p2), .val (.int (p1 &&& (7 : Int32))), .val (.int 8), .unset, .unset, .unset, .unset]) rfl k) ?_
              refine own_st (fun _ k => XS.goto X0.here hx rfl (pc0 := 67) (pc' := 78) rfl (hb hby at_67) (by decide) (by decide) k) ?_
              show own_Go _ _ _ _ T0 (mkF m 78 #[.val (.int p1), .val (.int p2), .val (.int (p1 &&& (7 : Int32))), .val (.int 8), .unset, .unset, .unset, .unset] [])
              exact t78 _ _ _ X0 N0 e0 O0 _ _ (by decide)
            · refine own_st (fun _ k => XS.icmpYes X0.here hx rfl (pc0 := 61) (pc' := 70) rfl (hb hby at_61) rfl (feq (hs5 : ¬ ((p1 &&& (7 : Int32)) = (5 : Int32)))).2 (by decide) (by decide) k) ?_
              refine own_st (fun _ k => XS.iloadN X0.here hx rfl (hb hby at_70) rfl k) ?_
              refine own_st (X0.ldcInt hx hown (mvT hZ (own_w156 hw)) (g := (mkF m 71 #[.val (.int p1), .val (.int p2), .val (.int (p1 &&& (7 : Int32))), .unset, .unset, .unset, .unset, .unset] [(.int p2)])) rfl (hb hby at_71)) ?_
              refine own_st (fun _ k => XS.iand X0.here hx rfl (hb hby at_73) rfl k) ?_
              show own_Go _ _ _ _ T0 (mkF m 74 #[.val (.int p1), .val (.int p2), .val (.int (p1 &&& (7 : Int32))), .unset, .unset, .unset, .unset, .unset] [(.int (p2 &&& (2147483647 : Int32)))])
              refine own_st (X0.ldcInt hx hown (mvT hZ (own_w157 hw)) (g := (mkF m 74 #[.val (.int p1), .val (.int p2), .val (.int (p1 &&& (7 : Int32))), .unset, .unset, .unset, .unset, .unset] [(.int (p2 &&& (2147483647 : Int32)))])) rfl (hb hby at_74)) ?_
              refine own_st (fun _ k => iremM X0 hx rfl (hb hby at_76) rfl (by decide) k) ?_
              refine own_st (fun _ k => XS.istoreN X0.here hx rfl (hb hby at_77) rfl (l' := #[.val (.int p1), .val (.int p2), .val (.int (p1 &&& (7 : Int32))), .val (.int ((p2 &&& (2147483647 : Int32)) % (1114112 : Int32))), .unset, .unset, .unset, .unset]) rfl k) ?_
              show own_Go _ _ _ _ T0 (mkF m 78 #[.val (.int p1), .val (.int p2), .val (.int (p1 &&& (7 : Int32))), .val (.int ((p2 &&& (2147483647 : Int32)) % (1114112 : Int32))), .unset, .unset, .unset, .unset] [])
              exact t78 _ _ _ X0 N0 e0 O0 _ _ (own_remN _ 1114112 1114112 (c_and p2 2147483647 (by decide)).1 (by decide) (by decide))
set_option maxRecDepth 65536 in
set_option maxHeartbeats 40000000 in
theorem comes_1 {Post : Tables → Env → Array Value → State → Outcome → State → Prop} (hpost : ∀ tb e args s v u, (limb_1_1.after args s (.returned v) u = true ∧ limb_1_2.after args s (.returned v) u = true ∧ True) → ReturnedEndW s (.returned v) u (Jvm.fieldLocs frame_1_writes args s ++ Jvm.arrayLocs frame_1_arrays args s ++ Jvm.staticLocs frame_1_statics s) 56 13632 → Post tb e args s (.returned v) u) :
    ArmFor flags0 classFile x code maxLocals ret World_1 tables_1 room_1 Calls_1 rest_1 Pre_1 Post := by
  intro l hfl _ _ p e ha hc hk s m args below hf hA hF happ hP
  obtain ⟨hcalls, hrest, hpre⟩ := hP
  obtain ⟨-, -, -, hnamed, -, -, -, hat⟩ := (Spec.applies_iff hf).mp happ
  obtain ⟨hg, hn⟩ := and_e (Cond.before_iff.mp (show (Jvm.Cond.and given_1 narrow_1).before args s = true from hpre))
  obtain ⟨q1, q2⟩ := and_e hg
  obtain ⟨q3, q4⟩ := and_e q2
  obtain ⟨w0_, w1_, rfl⟩ : ∃ w0_ w1_ : Value, args = #[w0_, w1_] := by
    have hs : args.size = 2 := by simpa [Cond.value, given_1] using q1
    obtain ⟨L⟩ := args
    match L, hs with
    | [w0_, w1_], _ => exact ⟨w0_, w1_, rfl⟩
  have hw : own_W s _ := fun d (hd : d ∈ tables_1) => atoms_spec (ws := Jvm.Cond.code x code maxLocals ret :: tables_1) hat d (List.mem_cons_of_mem _ hd)
  have hfit : Fit s := fun {y c} hc i hi => by
    obtain ⟨ha, rfl⟩ := Array.getElem?_eq_some_iff.mp hc
    have q := List.all_eq_true.mp ((Array.all_eq_true_iff_forall_mem.mp hF) _ (Array.getElem_mem ha)) i (List.mem_range.mpr hi)
    simpa [Array.getElem?_eq_getElem hi] using q
  obtain ⟨i0, ei0⟩ := is_v q3
  obtain rfl : w0_ = (.int i0) := Option.some.inj ei0
  obtain ⟨i1, ei1⟩ := is_v q4
  obtain rfl : w1_ = (.int i1) := Option.some.inj ei1
  obtain ⟨hsets, hown0⟩ := atoms_of _ (rest_1_c_eq ▸ (show rest_1_c.before _ s = true from hrest))
  have z1 := Cond.before_iff.mp (hsets _ (List.mem_of_getElem? (i := 1) rfl))
  have z2 := not_v (Cond.before_iff.mp (hsets _ (List.mem_of_getElem? (i := 2) rfl)))
  obtain ⟨cs, vcs⟩ := is_v z1
  have Scs := Sta.start vcs (Or.inl (hsets _ (List.mem_of_getElem? (i := 0) rfl)))
  have hcs : ¬ cs = 0 := fun e => by
    have q := eq_i vcs (Term.int_eval 0) (congrArg Value.int e)
    rw [q] at z2
    cases z2
  have hcw : Jvm.Lit.compactW.before _ s = true := (hsets _ (List.mem_of_getElem? (i := 2) rfl))
  obtain ⟨fm, vfm, hfm⟩ := isR_v (Cond.before_iff.mp (hsets _ (List.mem_of_getElem? (i := 8) rfl)))
  have Sfm := Sta.start vfm (Or.inl (hsets _ (List.mem_of_getElem? (i := 7) rfl)))
  have Sad := Sta.start (own_eqi (Cond.before_iff.mp (hsets _ (List.mem_of_getElem? (i := 12) rfl)))) (Or.inl (hsets _ (List.mem_of_getElem? (i := 11) rfl)))
  have Shi := Sta.start (own_eqi (Cond.before_iff.mp (hsets _ (List.mem_of_getElem? (i := 15) rfl)))) (Or.inl (hsets _ (List.mem_of_getElem? (i := 14) rfl)))
  have Slo := Sta.start (own_eqi (Cond.before_iff.mp (hsets _ (List.mem_of_getElem? (i := 18) rfl)))) (Or.inl (hsets _ (List.mem_of_getElem? (i := 17) rfl)))
  have hh13 : Jvm.Lit.constHeld s "com/example/isoscope/isoscope/Edn$Char" 13 := hcalls.1 ("com/example/isoscope/isoscope/Edn$Char", 13) (by simp [consts_1])
  have hh15 : Jvm.Lit.constHeld s "com/example/isoscope/isoscope/Edn$Char" 15 := hcalls.1 ("com/example/isoscope/isoscope/Edn$Char", 15) (by simp [consts_1])
  have hh17 : Jvm.Lit.constHeld s "com/example/isoscope/isoscope/Edn$Char" 17 := hcalls.1 ("com/example/isoscope/isoscope/Edn$Char", 17) (by simp [consts_1])
  have hh19 : Jvm.Lit.constHeld s "com/example/isoscope/isoscope/Edn$Char" 19 := hcalls.1 ("com/example/isoscope/isoscope/Edn$Char", 19) (by simp [consts_1])
  have hh21 : Jvm.Lit.constHeld s "com/example/isoscope/isoscope/Edn$Char" 21 := hcalls.1 ("com/example/isoscope/isoscope/Edn$Char", 21) (by simp [consts_1])
  have hh23 : Jvm.Lit.constHeld s "com/example/isoscope/isoscope/Edn$Char" 23 := hcalls.1 ("com/example/isoscope/isoscope/Edn$Char", 23) (by simp [consts_1])
  have hh34c : Jvm.Lit.constHeld s "com/example/isoscope/isoscope/Edn$Char" 34 := hcalls.1 ("com/example/isoscope/isoscope/Edn$Char", 34) (by simp [consts_1])
  have hhl18 : Jvm.Lit.constHeld s "com/example/isoscope/isoscope/CharToStringPinLaw" 18 := hcalls.1 ("com/example/isoscope/isoscope/CharToStringPinLaw", 18) (by simp [consts_1])
  have hhl26 : Jvm.Lit.constHeld s "com/example/isoscope/isoscope/CharToStringPinLaw" 26 := hcalls.1 ("com/example/isoscope/isoscope/CharToStringPinLaw", 26) (by simp [consts_1])
  have hhl28 : Jvm.Lit.constHeld s "com/example/isoscope/isoscope/CharToStringPinLaw" 28 := hcalls.1 ("com/example/isoscope/isoscope/CharToStringPinLaw", 28) (by simp [consts_1])
  have hhl30 : Jvm.Lit.constHeld s "com/example/isoscope/isoscope/CharToStringPinLaw" 30 := hcalls.1 ("com/example/isoscope/isoscope/CharToStringPinLaw", 30) (by simp [consts_1])
  have hhl32 : Jvm.Lit.constHeld s "com/example/isoscope/isoscope/CharToStringPinLaw" 32 := hcalls.1 ("com/example/isoscope/isoscope/CharToStringPinLaw", 32) (by simp [consts_1])
  have hhl34 : Jvm.Lit.constHeld s "com/example/isoscope/isoscope/CharToStringPinLaw" 34 := hcalls.1 ("com/example/isoscope/isoscope/CharToStringPinLaw", 34) (by simp [consts_1])
  obtain ⟨n, o, r1, r2, r3, _, L, rfl, ⟨rfl, N⟩, hq⟩ := own_law l hw tables_1 i0 i1 cs fm s.heap s.heap.size (Nat.le_refl _) rfl hcw hh13 hh15 hh17 hh19 hh21 hh23 hh34c hhl18 hhl26 hhl28 hhl30 hhl32 hhl34 (Nat.le_refl _) (own_extr _) Scs hcs Sad Shi Slo Sfm hfm p e ha hc hk s m _ below hf ((Spec.applies_iff_loose hf).mp happ).1 ⟨rfl, State.Warmed39.refl s, rfl, IB.start⟩ trivial
  refine ⟨n, _, r1, r2, r3, hpost _ _ _ _ _ _ ⟨Cond.after_iff.mpr rfl, Cond.after_iff.mpr (eq_i res_at (Term.int_eval (1)) rfl), trivial⟩ ⟨hq.1, hq.2.1, hq.2.2.1, (hq.2.2.2.sift fun y hy => Or.inr (N y hy)).mono (by decide) (by decide)⟩⟩
theorem main_1_1 : Claimed_1_1 := comes_1 fun _ _ _ _ _ _ h hF => ⟨h.1, hF⟩
theorem main_1_2 : Claimed_1_2 := comes_1 fun _ _ _ _ _ _ h hF => ⟨h.2.1, hF⟩
end Jvm.Pilot.@@N@@
namespace Jvm.Pilot.@@N@@
open Jvm Jvm.ClassFile Sem Op Lib Jvm.Free Jvm.Stand Jvm.Pilot.@@N@@.Jvm.D
/-! MADE BY PROGRAM (witnessworld.py) out of the Statement's table words and the real class files: 26 classes; the members and pool entries that the words name. The judged class is class 1, her method 1. -/
namespace start1
open Jvm.ClassFile
def u (s : String) : CpInfo := .utf8 (stringToUtf16 s)
/-- a pool by its gaps: so many unusable entries, then the entry; so many at the end -/
def gap : Nat → List CpInfo → List CpInfo
  | 0, r => r
  | n + 1, r => .unusable :: gap n r
def poolList (es : List (Nat × CpInfo)) (last : Nat) : List CpInfo := es.foldr (fun e r => gap e.1 (e.2 :: r)) (gap last [])
def pool (es : List (Nat × CpInfo)) (last : Nat) : Array CpInfo := ⟨poolList es last⟩
def fileOf (pool : Array CpInfo) (this : Nat) (attrs : Array Attribute := #[]) (ms : Array MethodInfo := #[]) (fl : Nat := 33) (sup : Nat := 0) (ifs : Array Nat := #[]) (fds : Array FieldInfo := #[]) : ClassFile where
  minorVersion := 0
  majorVersion := 65
  constantPool := pool
  accessFlags := fl
  thisClass := this
  superClass := sup
  interfaces := ifs
  fields := fds
  methods := ms
  attributes := attrs
def plain (name : String) (sup : Option ClassId) : Class where
  name := name
  kind := .ordinary
  loader := none
  accessFlags := 33
  super := sup
  interfaces := #[]
  cf := none
  fields := #[]
  methods := #[]
  instanceTypes := #[]
  staticTypes := #[]
  resolved := #[]
  callSites := []
  init := .initialized
  statics := none
  mirror := none

def pool0 : Array CpInfo := pool [(5, u "<init>"), (0, u "()V"), (1, .class_ 10), (1, u "java/lang/Object")] 113

def k0c0 : Code := { maxStack := 0, maxLocals := 1, code := object_method_1_code, exceptionTable := #[], attributes := #[] }
def k0m0 : Method := { name := "<init>", desc := "()V", sig := { parameters := [], returnType := none }, accessFlags := 1, code := some k0c0 }
/-- java/lang/Object -/
def k0 : Class := { plain "java/lang/Object" none with
  accessFlags := 33
  interfaces := #[]
  cf := some (fileOf pool0 8 #[] #[{ accessFlags := 1, nameIndex := 5, descriptorIndex := 6, attributes := #[] }] 33 0 #[] #[])
  fields := #[]
  methods := #[k0m0]
  instanceTypes := #[]
  staticTypes := #[]
  resolved := Array.replicate 124 none
  statics := none }

def pool1 : Array CpInfo := pool [(2, .class_ 4), (1, u "java/lang/Object"), (0, u "<init>"), (0, u "()V"), (0, .integer 2147483647), (0, .integer 1114112), (0, .class_ 10), (0, u "com/example/isoscope/isoscope/Edn$Char"), (0, .methodref 9 12), (0, .nameAndType 5 13), (0, u "(I)V"), (0, .methodref 9 15), (0, .nameAndType 16 17), (0, u "toString"), (0, u "()Ljava/lang/String;"), (0, .string 19), (0, u "\\newline"), (0, .methodref 21 22), (0, .class_ 23), (0, .nameAndType 24 25), (0, u "java/lang/String"), (0, u "equals"), (0, u "(Ljava/lang/Object;)Z"), (0, .string 27), (0, u "\\return"), (0, .string 29), (0, u "\\space"), (0, .string 31), (0, u "\\tab"), (0, .string 33), (0, u "\\formfeed"), (0, .string 35), (0, u "\\backspace"), (0, .integer 65536), (0, .methodref 21 38), (0, .nameAndType 39 40), (0, u "length"), (0, u "()I"), (0, .methodref 21 42), (0, .nameAndType 43 44), (0, u "charAt"), (0, u "(I)C"), (0, .integer 55296), (0, .integer 56320), (0, .class_ 48), (0, u "com/example/isoscope/isoscope/CharToStringPinLaw"), (2, u "law"), (0, u "(II)Z")] 7

def k1m0 : Method := { name := "<init>", desc := "()V", sig := { parameters := [], returnType := none }, accessFlags := 1, code := none }
def k1c1 : Code := { maxStack := 3, maxLocals := 8, code := code, exceptionTable := #[], attributes := #[] }
def k1m1 : Method := { name := "law", desc := "(II)Z", sig := { parameters := [.int, .int], returnType := some .boolean }, accessFlags := 9, code := some k1c1 }
/-- com/example/isoscope/isoscope/CharToStringPinLaw -/
def k1 : Class := { plain "com/example/isoscope/isoscope/CharToStringPinLaw" (some 0) with
  accessFlags := 49
  interfaces := #[]
  cf := some (fileOf pool1 47 #[] #[{ accessFlags := 1, nameIndex := 5, descriptorIndex := 6, attributes := #[] }, { accessFlags := 9, nameIndex := 51, descriptorIndex := 52, attributes := #[] }] 49 2 #[] #[])
  fields := #[]
  methods := #[k1m0, k1m1]
  instanceTypes := #[]
  staticTypes := #[]
  resolved := Array.replicate 60 none
  statics := none }

def pool2 : Array CpInfo := pool [(1, .methodref 2 3), (0, .class_ 4), (0, .nameAndType 5 6), (0, u "java/lang/Object"), (0, u "<init>"), (0, u "()V"), (0, .class_ 8), (0, u "java/lang/Record")] 13

def k2c0 : Code := { maxStack := 1, maxLocals := 1, code := jdk_30_method_1_code, exceptionTable := #[], attributes := #[] }
def k2m0 : Method := { name := "<init>", desc := "()V", sig := { parameters := [], returnType := none }, accessFlags := 4, code := some k2c0 }
/-- java/lang/Record -/
def k2 : Class := { plain "java/lang/Record" (some 0) with
  accessFlags := 1057
  interfaces := #[]
  cf := some (fileOf pool2 7 #[] #[{ accessFlags := 4, nameIndex := 5, descriptorIndex := 6, attributes := #[] }] 1057 2 #[] #[])
  fields := #[]
  methods := #[k2m0]
  instanceTypes := #[]
  staticTypes := #[]
  resolved := Array.replicate 22 none
  statics := none }

def pool3 : Array CpInfo := pool [(1, .methodref 2 3), (0, .class_ 4), (0, .nameAndType 5 6), (0, u "java/lang/Record"), (0, u "<init>"), (0, u "()V"), (0, .fieldref 8 9), (0, .class_ 10), (0, .nameAndType 11 12), (0, u "com/example/isoscope/isoscope/Edn$Char"), (0, u "codePoint"), (0, u "I"), (0, .string 14), (0, u "newline"), (0, .string 16), (0, u "return"), (0, .string 18), (0, u "space"), (0, .string 20), (0, u "tab"), (0, .string 22), (0, u "formfeed"), (0, .string 24), (0, u "backspace"), (0, .methodref 26 27), (0, .class_ 28), (0, .nameAndType 29 30), (0, u "java/lang/Character"), (0, u "toString"), (0, u "(I)Ljava/lang/String;"), (0, .class_ 32), (0, u "java/lang/StringBuilder"), (0, .methodref 31 3), (0, .string 35), (0, u "\\"), (0, .methodref 31 37), (0, .nameAndType 38 39), (0, u "append"), (0, u "(Ljava/lang/String;)Ljava/lang/StringBuilder;"), (0, .methodref 31 41), (0, .nameAndType 29 42), (0, u "()Ljava/lang/String;"), (8, u "(I)V"), (11, .class_ 64), (0, u "com/example/isoscope/isoscope/Edn")] 18

def k3c0 : Code := { maxStack := 2, maxLocals := 2, code := prog_8_method_1_code, exceptionTable := #[], attributes := #[] }
def k3m0 : Method := { name := "<init>", desc := "(I)V", sig := { parameters := [.int], returnType := none }, accessFlags := 0, code := some k3c0 }
def k3c1 : Code := { maxStack := 2, maxLocals := 2, code := prog_8_method_2_code, exceptionTable := #[], attributes := #[] }
def k3m1 : Method := { name := "toString", desc := "()Ljava/lang/String;", sig := { parameters := [], returnType := some (.object "java/lang/String") }, accessFlags := 1, code := some k3c1 }
/-- com/example/isoscope/isoscope/Edn$Char -/
def k3 : Class := { plain "com/example/isoscope/isoscope/Edn$Char" (some 2) with
  accessFlags := 48
  interfaces := #[]
  cf := some (fileOf pool3 8 #[.nestHost 63] #[{ accessFlags := 0, nameIndex := 5, descriptorIndex := 51, attributes := #[] }, { accessFlags := 1, nameIndex := 29, descriptorIndex := 42, attributes := #[] }] 48 2 #[] #[{ accessFlags := 18, nameIndex := 11, descriptorIndex := 12, attributes := #[] }])
  fields := #[{ name := "codePoint", type := .int, accessFlags := 18, slot := 0, constantValue := 0 }]
  methods := #[k3m0, k3m1]
  instanceTypes := #[.int]
  staticTypes := #[]
  resolved := Array.replicate 83 none
  statics := none }

def pool4 : Array CpInfo := pool [(1, .class_ 2), (0, u "java/io/Serializable"), (0, .class_ 4), (0, u "java/lang/Object")] 2

/-- java/io/Serializable -/
def k4 : Class := { plain "java/io/Serializable" (some 0) with
  accessFlags := 1537
  interfaces := #[]
  cf := some (fileOf pool4 1 #[] #[] 1537 3 #[] #[])
  fields := #[]
  methods := #[]
  instanceTypes := #[]
  staticTypes := #[]
  resolved := Array.replicate 7 none
  statics := none }

def pool5 : Array CpInfo := pool [(1, .class_ 2), (0, u "java/lang/Comparable"), (0, .class_ 4), (0, u "java/lang/Object")] 7

/-- java/lang/Comparable -/
def k5 : Class := { plain "java/lang/Comparable" (some 0) with
  accessFlags := 1537
  interfaces := #[]
  cf := some (fileOf pool5 1 #[] #[] 1537 3 #[] #[])
  fields := #[]
  methods := #[]
  instanceTypes := #[]
  staticTypes := #[]
  resolved := Array.replicate 12 none
  statics := none }

def pool6 : Array CpInfo := pool [(2, .class_ 4), (1, u "java/lang/CharSequence"), (42, .class_ 48), (0, u "java/lang/CharSequence$1CodePointIterator"), (10, .class_ 60), (0, u "java/lang/CharSequence$1CharIterator"), (5, .class_ 67), (0, u "java/lang/Object")] 63

/-- java/lang/CharSequence -/
def k6 : Class := { plain "java/lang/CharSequence" (some 0) with
  accessFlags := 1537
  interfaces := #[]
  cf := some (fileOf pool6 2 #[.nestMembers #[47, 59]] #[] 1537 66 #[] #[])
  fields := #[]
  methods := #[]
  instanceTypes := #[]
  staticTypes := #[]
  resolved := Array.replicate 131 none
  statics := none }

def pool7 : Array CpInfo := pool [(1, .class_ 2), (0, u "java/lang/constant/Constable"), (0, .class_ 4), (0, u "java/lang/Object")] 6

/-- java/lang/constant/Constable -/
def k7 : Class := { plain "java/lang/constant/Constable" (some 0) with
  accessFlags := 1537
  interfaces := #[]
  cf := some (fileOf pool7 1 #[] #[] 1537 3 #[] #[])
  fields := #[]
  methods := #[]
  instanceTypes := #[]
  staticTypes := #[]
  resolved := Array.replicate 11 none
  statics := none }

def pool8 : Array CpInfo := pool [(1, .class_ 2), (0, u "java/lang/constant/ConstantDesc"), (0, .class_ 4), (0, u "java/lang/Object")] 32

/-- java/lang/constant/ConstantDesc -/
def k8 : Class := { plain "java/lang/constant/ConstantDesc" (some 0) with
  accessFlags := 1537
  interfaces := #[]
  cf := some (fileOf pool8 1 #[] #[] 1537 3 #[] #[])
  fields := #[]
  methods := #[]
  instanceTypes := #[]
  staticTypes := #[]
  resolved := Array.replicate 37 none
  statics := none }

def pool9 : Array CpInfo := pool [(1, .methodref 2 3), (0, .class_ 4), (0, .nameAndType 5 6), (0, u "java/lang/Object"), (0, u "<init>"), (0, u "()V"), (2, .fieldref 10 11), (0, .class_ 12), (0, .nameAndType 13 14), (0, u "java/lang/String"), (0, u "value"), (0, u "[B"), (0, .fieldref 10 16), (0, .nameAndType 17 18), (0, u "coder"), (0, u "B"), (2, u "hash"), (0, u "I"), (2, u "hashIsZero"), (0, u "Z"), (9, u "checkBoundsOffCount"), (0, u "(III)I"), (0, .fieldref 10 39), (0, .nameAndType 40 26), (0, u "COMPACT_STRINGS"), (1, .class_ 44), (1, u "java/lang/StringUTF16"), (8, u "toBytes"), (0, .methodref 55 56), (0, .class_ 57), (0, .nameAndType 58 59), (0, u "java/util/Arrays"), (0, u "copyOfRange"), (0, u "([BII)[B"), (3, u "(I)[B"), (43, .class_ 109), (1, u "java/lang/StringLatin1"), (32, u "()Z"), (50, .class_ 195), (1, u "java/lang/System"), (13, .methodref 10 210), (0, .nameAndType 5 211), (0, u "([BB)V"), (0, .methodref 193 213), (0, .nameAndType 214 215), (0, u "arraycopy"), (0, u "(Ljava/lang/Object;ILjava/lang/Object;II)V"), (118, u "()I"), (0, .methodref 10 336), (0, .nameAndType 17 337), (0, u "()B"), (2, u "()[B"), (22, u "([BI)C"), (1, .class_ 367), (1, u "java/lang/Character"), (20, u "(I)Z"), (2, u "(II)V"), (26, .methodref 365 419), (0, .nameAndType 420 388), (0, u "isSupplementaryCodePoint"), (6, u "(I)C"), (61, .methodref 10 490), (0, .nameAndType 5 491), (0, u "(Ljava/lang/AbstractStringBuilder;Ljava/lang/Void;)V"), (0, .methodref 10 493), (0, .nameAndType 494 142), (0, u "isLatin1"), (0, .methodref 107 496), (0, .nameAndType 497 363), (0, u "charAt"), (0, .methodref 42 496), (2, u "checkIndex"), (4, .nameAndType 507 334), (0, u "length"), (24, u "getBytes"), (8, .methodref 107 542), (0, .nameAndType 543 544), (0, u "equals"), (0, u "([B[B)Z"), (4, .methodref 550 506), (0, .class_ 551), (0, u "java/lang/AbstractStringBuilder"), (0, .methodref 550 553), (0, .nameAndType 554 340), (0, u "getValue"), (18, u "(Ljava/lang/Object;)Z"), (1, .class_ 576), (0, u "java/lang/CharSequence"), (22, u "CASE_INSENSITIVE_ORDER"), (0, u "Ljava/util/Comparator;"), (220, u "([BIB)V"), (70, u "(I)Ljava/lang/String;"), (124, u "canEncode"), (0, .methodref 107 1019), (0, .nameAndType 53 1020), (0, u "(C)[B"), (0, .methodref 42 1019), (25, .methodref 550 493), (0, .fieldref 550 1049), (0, .nameAndType 1050 26), (0, u "maybeLatin1"), (2, .fieldref 1054 1055), (0, .class_ 1056), (0, .nameAndType 1057 1058), (0, u "jdk/internal/util/Preconditions"), (0, u "SIOOBE_FORMATTER"), (0, u "Ljava/util/function/BiFunction;"), (0, .methodref 1054 1060), (0, .nameAndType 501 1061), (0, u "(IILjava/util/function/BiFunction;)I"), (2, u "(IIILjava/util/function/BiFunction;)I"), (0, .methodref 1054 1066), (0, .nameAndType 1067 1064), (0, u "checkFromIndexSize"), (0, .methodref 107 1069), (0, .nameAndType 1017 388), (0, .methodref 365 1071), (0, .nameAndType 1072 388), (0, u "isBmpCodePoint"), (0, .methodref 42 1074), (0, .nameAndType 1075 63), (0, u "toBytesSupplementary"), (25, u "serialPersistentFields"), (0, u "[Ljava/io/ObjectStreamField;"), (0, .class_ 1104), (0, u "java/lang/String$CaseInsensitiveComparator"), (1, .class_ 1107), (0, u "java/io/Serializable"), (0, .class_ 1109), (0, u "java/lang/Comparable"), (0, .class_ 1111), (0, u "java/lang/constant/Constable"), (0, .class_ 1113), (0, u "java/lang/constant/ConstantDesc"), (2, u "serialVersionUID"), (0, u "J"), (3, u "REPL"), (0, u "C"), (2, u "LATIN1"), (1, u "UTF16"), (105, u "(Ljava/lang/StringBuilder;)V"), (160, u "valueOfCodePoint")] 56

def k9m0 : Method := { name := "<init>", desc := "()V", sig := { parameters := [], returnType := none }, accessFlags := 1, code := none }
def k9c1 : Code := { maxStack := 3, maxLocals := 2, code := jdk_42_method_53_code, exceptionTable := #[], attributes := #[] }
def k9m1 : Method := { name := "<init>", desc := "(Ljava/lang/StringBuilder;)V", sig := { parameters := [(.object "java/lang/StringBuilder")], returnType := none }, accessFlags := 1, code := some k9c1 }
def k9c2 : Code := { maxStack := 2, maxLocals := 1, code := jdk_42_method_54_code, exceptionTable := #[], attributes := #[] }
def k9m2 : Method := { name := "length", desc := "()I", sig := { parameters := [], returnType := some .int }, accessFlags := 1, code := some k9c2 }
def k9c3 : Code := { maxStack := 2, maxLocals := 2, code := jdk_42_method_56_code, exceptionTable := #[], attributes := #[] }
def k9m3 : Method := { name := "charAt", desc := "(I)C", sig := { parameters := [.int], returnType := some .char }, accessFlags := 1, code := some k9c3 }
def k9c4 : Code := { maxStack := 2, maxLocals := 3, code := jdk_42_method_66_code, exceptionTable := #[], attributes := #[] }
def k9m4 : Method := { name := "equals", desc := "(Ljava/lang/Object;)Z", sig := { parameters := [(.object "java/lang/Object")], returnType := some .boolean }, accessFlags := 1, code := some k9c4 }
def k9c5 : Code := { maxStack := 5, maxLocals := 4, code := jdk_42_method_147_code, exceptionTable := #[], attributes := #[] }
def k9m5 : Method := { name := "getBytes", desc := "([BIB)V", sig := { parameters := [(.array .byte), .int, .byte], returnType := none }, accessFlags := 0, code := some k9c5 }
def k9c6 : Code := { maxStack := 5, maxLocals := 5, code := jdk_42_method_150_code, exceptionTable := #[], attributes := #[] }
def k9m6 : Method := { name := "<init>", desc := "(Ljava/lang/AbstractStringBuilder;Ljava/lang/Void;)V", sig := { parameters := [(.object "java/lang/AbstractStringBuilder"), (.object "java/lang/Void")], returnType := none }, accessFlags := 0, code := some k9c6 }
def k9c7 : Code := { maxStack := 2, maxLocals := 3, code := jdk_42_method_151_code, exceptionTable := #[], attributes := #[] }
def k9m7 : Method := { name := "<init>", desc := "([BB)V", sig := { parameters := [(.array .byte), .byte], returnType := none }, accessFlags := 0, code := some k9c7 }
def k9c8 : Code := { maxStack := 1, maxLocals := 1, code := jdk_42_method_152_code, exceptionTable := #[], attributes := #[] }
def k9m8 : Method := { name := "coder", desc := "()B", sig := { parameters := [], returnType := some .byte }, accessFlags := 0, code := some k9c8 }
def k9c9 : Code := { maxStack := 1, maxLocals := 1, code := jdk_42_method_154_code, exceptionTable := #[], attributes := #[] }
def k9m9 : Method := { name := "isLatin1", desc := "()Z", sig := { parameters := [], returnType := some .boolean }, accessFlags := 0, code := some k9c9 }
def k9c10 : Code := { maxStack := 3, maxLocals := 2, code := jdk_42_method_155_code, exceptionTable := #[], attributes := #[] }
def k9m10 : Method := { name := "checkIndex", desc := "(II)V", sig := { parameters := [.int, .int], returnType := none }, accessFlags := 8, code := some k9c10 }
def k9c11 : Code := { maxStack := 4, maxLocals := 3, code := jdk_42_method_157_code, exceptionTable := #[], attributes := #[] }
def k9m11 : Method := { name := "checkBoundsOffCount", desc := "(III)I", sig := { parameters := [.int, .int, .int], returnType := some .int }, accessFlags := 8, code := some k9c11 }
def k9c12 : Code := { maxStack := 7, maxLocals := 1, code := jdk_42_method_159_code, exceptionTable := #[], attributes := #[] }
def k9m12 : Method := { name := "valueOfCodePoint", desc := "(I)Ljava/lang/String;", sig := { parameters := [.int], returnType := some (.object "java/lang/String") }, accessFlags := 8, code := some k9c12 }
/-- java/lang/String -/
def k9 : Class := { plain "java/lang/String" (some 0) with
  accessFlags := 49
  interfaces := #[4, 5, 6, 7, 8]
  cf := some (fileOf pool9 10 #[.nestMembers #[1103]] #[{ accessFlags := 1, nameIndex := 5, descriptorIndex := 6, attributes := #[] }, { accessFlags := 1, nameIndex := 5, descriptorIndex := 1233, attributes := #[] }, { accessFlags := 1, nameIndex := 507, descriptorIndex := 334, attributes := #[] }, { accessFlags := 1, nameIndex := 497, descriptorIndex := 427, attributes := #[] }, { accessFlags := 1, nameIndex := 543, descriptorIndex := 573, attributes := #[] }, { accessFlags := 0, nameIndex := 532, descriptorIndex := 821, attributes := #[] }, { accessFlags := 0, nameIndex := 5, descriptorIndex := 491, attributes := #[] }, { accessFlags := 0, nameIndex := 5, descriptorIndex := 211, attributes := #[] }, { accessFlags := 0, nameIndex := 17, descriptorIndex := 337, attributes := #[] }, { accessFlags := 0, nameIndex := 494, descriptorIndex := 142, attributes := #[] }, { accessFlags := 8, nameIndex := 501, descriptorIndex := 391, attributes := #[] }, { accessFlags := 8, nameIndex := 36, descriptorIndex := 37, attributes := #[] }, { accessFlags := 8, nameIndex := 1394, descriptorIndex := 892, attributes := #[] }] 49 2 #[1106, 1108, 575, 1110, 1112] #[{ accessFlags := 18, nameIndex := 13, descriptorIndex := 14, attributes := #[] }, { accessFlags := 18, nameIndex := 17, descriptorIndex := 18, attributes := #[] }, { accessFlags := 2, nameIndex := 21, descriptorIndex := 22, attributes := #[] }, { accessFlags := 2, nameIndex := 25, descriptorIndex := 26, attributes := #[] }, { accessFlags := 26, nameIndex := 1116, descriptorIndex := 1117, attributes := #[] }, { accessFlags := 24, nameIndex := 40, descriptorIndex := 26, attributes := #[] }, { accessFlags := 26, nameIndex := 1101, descriptorIndex := 1102, attributes := #[] }, { accessFlags := 26, nameIndex := 1121, descriptorIndex := 1122, attributes := #[] }, { accessFlags := 25, nameIndex := 599, descriptorIndex := 600, attributes := #[] }, { accessFlags := 24, nameIndex := 1125, descriptorIndex := 18, attributes := #[] }, { accessFlags := 24, nameIndex := 1127, descriptorIndex := 18, attributes := #[] }])
  fields := #[{ name := "value", type := (.array .byte), accessFlags := 18, slot := 0, constantValue := 0 }, { name := "coder", type := .byte, accessFlags := 18, slot := 1, constantValue := 0 }, { name := "hash", type := .int, accessFlags := 2, slot := 2, constantValue := 0 }, { name := "hashIsZero", type := .boolean, accessFlags := 2, slot := 3, constantValue := 0 }, { name := "serialVersionUID", type := .long, accessFlags := 26, slot := 0, constantValue := 0 }, { name := "COMPACT_STRINGS", type := .boolean, accessFlags := 24, slot := 1, constantValue := 0 }, { name := "serialPersistentFields", type := (.array (.object "java/io/ObjectStreamField")), accessFlags := 26, slot := 2, constantValue := 0 }, { name := "REPL", type := .char, accessFlags := 26, slot := 3, constantValue := 0 }, { name := "CASE_INSENSITIVE_ORDER", type := (.object "java/util/Comparator"), accessFlags := 25, slot := 4, constantValue := 0 }, { name := "LATIN1", type := .byte, accessFlags := 24, slot := 5, constantValue := 0 }, { name := "UTF16", type := .byte, accessFlags := 24, slot := 6, constantValue := 0 }]
  methods := #[k9m0, k9m1, k9m2, k9m3, k9m4, k9m5, k9m6, k9m7, k9m8, k9m9, k9m10, k9m11, k9m12]
  instanceTypes := #[(.array .byte), .byte, .int, .boolean]
  staticTypes := #[.long, .boolean, (.array (.object "java/io/ObjectStreamField")), .char, (.object "java/util/Comparator"), .byte, .byte]
  resolved := Array.replicate 1451 none
  statics := some 0 }

def pool10 : Array CpInfo := pool [(1, .class_ 2), (0, u "java/lang/Appendable"), (0, .class_ 4), (0, u "java/lang/Object")] 9

/-- java/lang/Appendable -/
def k10 : Class := { plain "java/lang/Appendable" (some 0) with
  accessFlags := 1537
  interfaces := #[]
  cf := some (fileOf pool10 1 #[] #[] 1537 3 #[] #[])
  fields := #[]
  methods := #[]
  instanceTypes := #[]
  staticTypes := #[]
  resolved := Array.replicate 14 none
  statics := none }

def pool11 : Array CpInfo := pool [(1, .class_ 2), (0, u "java/lang/String"), (0, .methodref 4 5), (0, .class_ 6), (0, .nameAndType 7 8), (0, u "java/lang/Object"), (0, u "<init>"), (0, u "()V"), (1, .class_ 12), (1, u "java/lang/AbstractStringBuilder"), (0, u "EMPTYVALUE"), (0, u "[B"), (0, .fieldref 10 16), (0, .nameAndType 17 14), (0, u "value"), (0, .fieldref 1 19), (0, .nameAndType 20 21), (0, u "COMPACT_STRINGS"), (0, u "Z"), (0, .fieldref 10 23), (0, .nameAndType 24 25), (0, u "coder"), (0, u "B"), (0, .methodref 27 28), (0, .class_ 29), (0, .nameAndType 30 31), (0, u "java/lang/StringUTF16"), (0, u "newBytesFor"), (0, u "(I)[B"), (0, .methodref 1 33), (0, .nameAndType 34 35), (0, u "length"), (0, u "()I"), (4, .methodref 1 41), (0, .nameAndType 24 42), (0, u "()B"), (2, u "append"), (0, u "(Ljava/lang/String;)Ljava/lang/AbstractStringBuilder;"), (1, .class_ 49), (0, u "java/lang/CharSequence"), (19, u "(Ljava/lang/String;)V"), (5, u "maybeLatin1"), (3, .fieldref 10 80), (0, .nameAndType 81 82), (0, u "count"), (0, u "I"), (0, .methodref 10 84), (0, .nameAndType 85 86), (0, u "isLatin1"), (0, u "()Z"), (1, .class_ 90), (1, u "java/lang/StringLatin1"), (9, .methodref 10 101), (0, .nameAndType 102 103), (0, u "ensureCapacityInternal"), (0, u "(I)V"), (21, .methodref 88 126), (0, .nameAndType 127 128), (0, u "inflate"), (0, u "([BI[BII)V"), (66, .methodref 10 196), (0, .nameAndType 127 8), (11, .methodref 10 209), (0, .nameAndType 210 211), (0, u "putStringAt"), (0, u "(ILjava/lang/String;)V"), (5, u "inflateIfNeededFor"), (2, .nameAndType 221 222), (0, u "getBytes"), (0, u "([BIB)V"), (174, .methodref 10 398), (0, .nameAndType 217 69), (0, .methodref 1 220), (3, u "()[B"), (40, .class_ 445), (0, u "java/lang/Appendable"), (106, u "getValue")] 56

def k11m0 : Method := { name := "<init>", desc := "()V", sig := { parameters := [], returnType := none }, accessFlags := 0, code := none }
def k11c1 : Code := { maxStack := 2, maxLocals := 2, code := jdk_68_method_2_code, exceptionTable := #[], attributes := #[] }
def k11m1 : Method := { name := "<init>", desc := "(I)V", sig := { parameters := [.int], returnType := none }, accessFlags := 0, code := some k11c1 }
def k11c2 : Code := { maxStack := 1, maxLocals := 1, code := jdk_68_method_6_code, exceptionTable := #[], attributes := #[] }
def k11m2 : Method := { name := "length", desc := "()I", sig := { parameters := [], returnType := some .int }, accessFlags := 1, code := some k11c2 }
def k11c3 : Code := { maxStack := 4, maxLocals := 3, code := jdk_68_method_9_code, exceptionTable := #[], attributes := #[] }
def k11m3 : Method := { name := "ensureCapacityInternal", desc := "(I)V", sig := { parameters := [.int], returnType := none }, accessFlags := 2, code := some k11c3 }
def k11c4 : Code := { maxStack := 5, maxLocals := 2, code := jdk_68_method_11_code, exceptionTable := #[], attributes := #[] }
def k11m4 : Method := { name := "inflate", desc := "()V", sig := { parameters := [], returnType := none }, accessFlags := 2, code := some k11c4 }
def k11c5 : Code := { maxStack := 3, maxLocals := 3, code := jdk_68_method_22_code, exceptionTable := #[], attributes := #[] }
def k11m5 : Method := { name := "append", desc := "(Ljava/lang/String;)Ljava/lang/AbstractStringBuilder;", sig := { parameters := [(.object "java/lang/String")], returnType := some (.object "java/lang/AbstractStringBuilder") }, accessFlags := 1, code := some k11c5 }
def k11c6 : Code := { maxStack := 1, maxLocals := 1, code := jdk_68_method_64_code, exceptionTable := #[], attributes := #[] }
def k11m6 : Method := { name := "getValue", desc := "()[B", sig := { parameters := [], returnType := some (.array .byte) }, accessFlags := 16, code := some k11c6 }
def k11c7 : Code := { maxStack := 1, maxLocals := 1, code := jdk_68_method_68_code, exceptionTable := #[], attributes := #[] }
def k11m7 : Method := { name := "isLatin1", desc := "()Z", sig := { parameters := [], returnType := some .boolean }, accessFlags := 16, code := some k11c7 }
def k11c8 : Code := { maxStack := 2, maxLocals := 2, code := jdk_68_method_71_code, exceptionTable := #[], attributes := #[] }
def k11m8 : Method := { name := "inflateIfNeededFor", desc := "(Ljava/lang/String;)V", sig := { parameters := [(.object "java/lang/String")], returnType := none }, accessFlags := 2, code := some k11c8 }
def k11c9 : Code := { maxStack := 4, maxLocals := 3, code := jdk_68_method_73_code, exceptionTable := #[], attributes := #[] }
def k11m9 : Method := { name := "putStringAt", desc := "(ILjava/lang/String;)V", sig := { parameters := [.int, (.object "java/lang/String")], returnType := none }, accessFlags := 2, code := some k11c9 }
/-- java/lang/AbstractStringBuilder -/
def k11 : Class := { plain "java/lang/AbstractStringBuilder" (some 0) with
  accessFlags := 1056
  interfaces := #[10, 6]
  cf := some (fileOf pool11 10 #[] #[{ accessFlags := 0, nameIndex := 7, descriptorIndex := 8, attributes := #[] }, { accessFlags := 0, nameIndex := 7, descriptorIndex := 103, attributes := #[] }, { accessFlags := 1, nameIndex := 34, descriptorIndex := 35, attributes := #[] }, { accessFlags := 2, nameIndex := 102, descriptorIndex := 103, attributes := #[] }, { accessFlags := 2, nameIndex := 127, descriptorIndex := 8, attributes := #[] }, { accessFlags := 1, nameIndex := 45, descriptorIndex := 46, attributes := #[] }, { accessFlags := 16, nameIndex := 552, descriptorIndex := 403, attributes := #[] }, { accessFlags := 16, nameIndex := 85, descriptorIndex := 86, attributes := #[] }, { accessFlags := 2, nameIndex := 217, descriptorIndex := 69, attributes := #[] }, { accessFlags := 2, nameIndex := 210, descriptorIndex := 211, attributes := #[] }] 1056 4 #[444, 48] #[{ accessFlags := 0, nameIndex := 17, descriptorIndex := 14, attributes := #[] }, { accessFlags := 0, nameIndex := 24, descriptorIndex := 25, attributes := #[] }, { accessFlags := 0, nameIndex := 75, descriptorIndex := 21, attributes := #[] }, { accessFlags := 0, nameIndex := 81, descriptorIndex := 82, attributes := #[] }, { accessFlags := 26, nameIndex := 13, descriptorIndex := 14, attributes := #[] }])
  fields := #[{ name := "value", type := (.array .byte), accessFlags := 0, slot := 0, constantValue := 0 }, { name := "coder", type := .byte, accessFlags := 0, slot := 1, constantValue := 0 }, { name := "maybeLatin1", type := .boolean, accessFlags := 0, slot := 2, constantValue := 0 }, { name := "count", type := .int, accessFlags := 0, slot := 3, constantValue := 0 }, { name := "EMPTYVALUE", type := (.array .byte), accessFlags := 26, slot := 0, constantValue := 0 }]
  methods := #[k11m0, k11m1, k11m2, k11m3, k11m4, k11m5, k11m6, k11m7, k11m8, k11m9]
  instanceTypes := #[(.array .byte), .byte, .boolean, .int]
  staticTypes := #[(.array .byte)]
  resolved := Array.replicate 609 none
  statics := none }

def pool12 : Array CpInfo := pool [(1, .methodref 2 3), (0, .class_ 4), (0, .nameAndType 5 6), (0, u "java/lang/AbstractStringBuilder"), (0, u "<init>"), (0, u "(I)V"), (11, .class_ 20), (1, u "java/lang/String"), (3, .class_ 26), (1, u "java/lang/StringBuilder"), (0, u "append"), (0, u "(Ljava/lang/String;)Ljava/lang/StringBuilder;"), (0, .methodref 2 30), (0, .nameAndType 27 31), (0, u "(Ljava/lang/String;)Ljava/lang/AbstractStringBuilder;"), (105, .methodref 18 138), (0, .nameAndType 5 139), (0, u "(Ljava/lang/StringBuilder;)V"), (5, u "()V"), (10, u "()I"), (186, .methodref 2 344), (0, .nameAndType 345 156), (0, u "length"), (3, .class_ 350), (0, u "java/lang/Appendable"), (0, .class_ 352), (0, u "java/io/Serializable"), (0, .class_ 354), (0, u "java/lang/Comparable"), (0, .class_ 356), (0, u "java/lang/CharSequence"), (0, u "serialVersionUID"), (0, u "J"), (40, u "toString"), (0, u "()Ljava/lang/String;")] 21

def k12c0 : Code := { maxStack := 2, maxLocals := 1, code := jdk_67_method_1_code, exceptionTable := #[], attributes := #[] }
def k12m0 : Method := { name := "<init>", desc := "()V", sig := { parameters := [], returnType := none }, accessFlags := 1, code := some k12c0 }
def k12c1 : Code := { maxStack := 2, maxLocals := 2, code := jdk_67_method_7_code, exceptionTable := #[], attributes := #[] }
def k12m1 : Method := { name := "append", desc := "(Ljava/lang/String;)Ljava/lang/StringBuilder;", sig := { parameters := [(.object "java/lang/String")], returnType := some (.object "java/lang/StringBuilder") }, accessFlags := 1, code := some k12c1 }
def k12c2 : Code := { maxStack := 3, maxLocals := 1, code := jdk_67_method_42_code, exceptionTable := #[], attributes := #[] }
def k12m2 : Method := { name := "toString", desc := "()Ljava/lang/String;", sig := { parameters := [], returnType := some (.object "java/lang/String") }, accessFlags := 1, code := some k12c2 }
def k12c3 : Code := { maxStack := 1, maxLocals := 1, code := jdk_67_method_93_code, exceptionTable := #[], attributes := #[] }
def k12m3 : Method := { name := "length", desc := "()I", sig := { parameters := [], returnType := some .int }, accessFlags := 4161, code := some k12c3 }
/-- java/lang/StringBuilder -/
def k12 : Class := { plain "java/lang/StringBuilder" (some 11) with
  accessFlags := 49
  interfaces := #[10, 4, 5, 6]
  cf := some (fileOf pool12 24 #[] #[{ accessFlags := 1, nameIndex := 5, descriptorIndex := 145, attributes := #[] }, { accessFlags := 1, nameIndex := 27, descriptorIndex := 28, attributes := #[] }, { accessFlags := 1, nameIndex := 399, descriptorIndex := 400, attributes := #[] }, { accessFlags := 4161, nameIndex := 345, descriptorIndex := 156, attributes := #[] }] 49 2 #[349, 351, 353, 355] #[{ accessFlags := 24, nameIndex := 357, descriptorIndex := 358, attributes := #[] }])
  fields := #[{ name := "serialVersionUID", type := .long, accessFlags := 24, slot := 0, constantValue := 0 }]
  methods := #[k12m0, k12m1, k12m2, k12m3]
  instanceTypes := #[(.array .byte), .byte, .boolean, .int]
  staticTypes := #[.long]
  resolved := Array.replicate 422 none
  statics := none }

def pool13 : Array CpInfo := pool [(2, .class_ 4), (1, u "java/lang/Object"), (0, u "<init>"), (0, u "()V"), (1, .class_ 10), (1, u "java/lang/System"), (0, u "allowSecurityManager"), (0, u "I"), (16, u "cons"), (0, u "Ljava/io/Console;"), (77, .class_ 110), (1, u "java/lang/System$CallersHolder"), (43, u "initialErrStream"), (0, u "Ljava/io/PrintStream;"), (19, u "security"), (0, u "Ljava/lang/SecurityManager;"), (31, .class_ 209), (0, u "java/lang/System$1"), (7, u "props"), (0, u "Ljava/util/Properties;"), (2, u "lineSeparator"), (0, u "Ljava/lang/String;"), (96, .class_ 321), (1, u "java/lang/System$LoggerFinder"), (5, .class_ 328), (0, u "java/lang/System$Logger"), (67, u "err"), (2, u "out"), (91, u "notSupportedJnuEncoding"), (15, u "in"), (17, u "initialIn"), (0, u "Ljava/io/InputStream;"), (35, u "bootLayer"), (0, u "Ljava/lang/ModuleLayer;"), (99, .class_ 664), (0, u "java/lang/System$2"), (9, u "NEVER"), (2, u "MAYBE"), (49, u "arraycopy"), (0, u "(Ljava/lang/Object;ILjava/lang/Object;II)V"), (72, .class_ 802), (0, u "java/lang/System$Logger$Level")] 31

def k13m0 : Method := { name := "<init>", desc := "()V", sig := { parameters := [], returnType := none }, accessFlags := 2, code := none }
def k13m1 : Method := { name := "arraycopy", desc := "(Ljava/lang/Object;ILjava/lang/Object;II)V", sig := { parameters := [(.object "java/lang/Object"), .int, (.object "java/lang/Object"), .int, .int], returnType := none }, accessFlags := 265, code := none }
/-- java/lang/System -/
def k13 : Class := { plain "java/lang/System" (some 0) with
  accessFlags := 49
  interfaces := #[]
  cf := some (fileOf pool13 8 #[.nestMembers #[319, 327, 801, 108, 663, 208]] #[{ accessFlags := 2, nameIndex := 5, descriptorIndex := 6, attributes := #[] }, { accessFlags := 265, nameIndex := 727, descriptorIndex := 728, attributes := #[] }] 49 2 #[] #[{ accessFlags := 25, nameIndex := 507, descriptorIndex := 526, attributes := #[] }, { accessFlags := 25, nameIndex := 399, descriptorIndex := 155, attributes := #[] }, { accessFlags := 25, nameIndex := 396, descriptorIndex := 155, attributes := #[] }, { accessFlags := 10, nameIndex := 525, descriptorIndex := 526, attributes := #[] }, { accessFlags := 26, nameIndex := 674, descriptorIndex := 12, attributes := #[] }, { accessFlags := 26, nameIndex := 677, descriptorIndex := 12, attributes := #[] }, { accessFlags := 10, nameIndex := 11, descriptorIndex := 12, attributes := #[] }, { accessFlags := 74, nameIndex := 175, descriptorIndex := 176, attributes := #[] }, { accessFlags := 10, nameIndex := 491, descriptorIndex := 222, attributes := #[] }, { accessFlags := 74, nameIndex := 29, descriptorIndex := 30, attributes := #[] }, { accessFlags := 74, nameIndex := 154, descriptorIndex := 155, attributes := #[] }, { accessFlags := 10, nameIndex := 217, descriptorIndex := 218, attributes := #[] }, { accessFlags := 10, nameIndex := 221, descriptorIndex := 222, attributes := #[] }, { accessFlags := 8, nameIndex := 562, descriptorIndex := 563, attributes := #[] }])
  fields := #[{ name := "in", type := (.object "java/io/InputStream"), accessFlags := 25, slot := 0, constantValue := 0 }, { name := "out", type := (.object "java/io/PrintStream"), accessFlags := 25, slot := 1, constantValue := 0 }, { name := "err", type := (.object "java/io/PrintStream"), accessFlags := 25, slot := 2, constantValue := 0 }, { name := "initialIn", type := (.object "java/io/InputStream"), accessFlags := 10, slot := 3, constantValue := 0 }, { name := "NEVER", type := .int, accessFlags := 26, slot := 4, constantValue := 0 }, { name := "MAYBE", type := .int, accessFlags := 26, slot := 5, constantValue := 0 }, { name := "allowSecurityManager", type := .int, accessFlags := 10, slot := 6, constantValue := 0 }, { name := "security", type := (.object "java/lang/SecurityManager"), accessFlags := 74, slot := 7, constantValue := 0 }, { name := "notSupportedJnuEncoding", type := (.object "java/lang/String"), accessFlags := 10, slot := 8, constantValue := 0 }, { name := "cons", type := (.object "java/io/Console"), accessFlags := 74, slot := 9, constantValue := 0 }, { name := "initialErrStream", type := (.object "java/io/PrintStream"), accessFlags := 74, slot := 10, constantValue := 0 }, { name := "props", type := (.object "java/util/Properties"), accessFlags := 10, slot := 11, constantValue := 0 }, { name := "lineSeparator", type := (.object "java/lang/String"), accessFlags := 10, slot := 12, constantValue := 0 }, { name := "bootLayer", type := (.object "java/lang/ModuleLayer"), accessFlags := 8, slot := 13, constantValue := 0 }]
  methods := #[k13m0, k13m1]
  instanceTypes := #[]
  staticTypes := #[(.object "java/io/InputStream"), (.object "java/io/PrintStream"), (.object "java/io/PrintStream"), (.object "java/io/InputStream"), .int, .int, .int, (.object "java/lang/SecurityManager"), (.object "java/lang/String"), (.object "java/io/Console"), (.object "java/io/PrintStream"), (.object "java/util/Properties"), (.object "java/lang/String"), (.object "java/lang/ModuleLayer")]
  resolved := Array.replicate 834 none
  statics := none }

def pool14 : Array CpInfo := pool [(2, .class_ 4), (1, u "java/lang/Object"), (0, u "<init>"), (0, u "()V"), (7, .class_ 16), (1, u "java/util/Arrays"), (57, .class_ 76), (1, u "java/util/Arrays$NaturalOrder"), (36, .class_ 115), (1, u "java/util/Arrays$LegacyMergeSort"), (1, u "Z"), (21, u "copyOfRange"), (10, .methodref 151 152), (0, .class_ 153), (0, .nameAndType 154 155), (0, u "java/lang/System"), (0, u "arraycopy"), (0, u "(Ljava/lang/Object;ILjava/lang/Object;II)V"), (148, .methodref 305 306), (0, .class_ 307), (0, .nameAndType 308 309), (0, u "java/lang/Math"), (0, u "min"), (0, u "(II)I"), (29, .methodref 14 340), (0, .nameAndType 341 342), (0, u "copyOfRangeByte"), (0, u "([BII)[B"), (0, .methodref 14 344), (0, .nameAndType 345 346), (0, u "checkLength"), (0, u "(II)V"), (28, .class_ 376), (0, u "java/util/Arrays$ArrayList"), (68, u "$assertionsDisabled"), (269, u "MIN_ARRAY_SORT_GRAN"), (0, u "I"), (2, u "INSERTIONSORT_THRESHOLD"), (255, .class_ 976), (0, u "java/util/Arrays$ArrayItr")] 52

def k14m0 : Method := { name := "<init>", desc := "()V", sig := { parameters := [], returnType := none }, accessFlags := 2, code := none }
def k14c1 : Code := { maxStack := 4, maxLocals := 2, code := jdk_65_method_131_code, exceptionTable := #[], attributes := #[] }
def k14m1 : Method := { name := "checkLength", desc := "(II)V", sig := { parameters := [.int, .int], returnType := none }, accessFlags := 10, code := some k14c1 }
def k14c2 : Code := { maxStack := 3, maxLocals := 3, code := jdk_65_method_132_code, exceptionTable := #[], attributes := #[] }
def k14m2 : Method := { name := "copyOfRange", desc := "([BII)[B", sig := { parameters := [(.array .byte), .int, .int], returnType := some (.array .byte) }, accessFlags := 9, code := some k14c2 }
def k14c3 : Code := { maxStack := 6, maxLocals := 5, code := jdk_65_method_133_code, exceptionTable := #[], attributes := #[] }
def k14m3 : Method := { name := "copyOfRangeByte", desc := "([BII)[B", sig := { parameters := [(.array .byte), .int, .int], returnType := some (.array .byte) }, accessFlags := 10, code := some k14c3 }
/-- java/util/Arrays -/
def k14 : Class := { plain "java/util/Arrays" (some 0) with
  accessFlags := 49
  interfaces := #[]
  cf := some (fileOf pool14 14 #[.nestMembers #[975, 375, 113, 74]] #[{ accessFlags := 2, nameIndex := 5, descriptorIndex := 6, attributes := #[] }, { accessFlags := 10, nameIndex := 345, descriptorIndex := 346, attributes := #[] }, { accessFlags := 9, nameIndex := 139, descriptorIndex := 342, attributes := #[] }, { accessFlags := 10, nameIndex := 341, descriptorIndex := 342, attributes := #[] }] 49 2 #[] #[{ accessFlags := 26, nameIndex := 715, descriptorIndex := 716, attributes := #[] }, { accessFlags := 26, nameIndex := 719, descriptorIndex := 716, attributes := #[] }, { accessFlags := 4120, nameIndex := 445, descriptorIndex := 117, attributes := #[] }])
  fields := #[{ name := "MIN_ARRAY_SORT_GRAN", type := .int, accessFlags := 26, slot := 0, constantValue := 0 }, { name := "INSERTIONSORT_THRESHOLD", type := .int, accessFlags := 26, slot := 1, constantValue := 0 }, { name := "$assertionsDisabled", type := .boolean, accessFlags := 4120, slot := 2, constantValue := 0 }]
  methods := #[k14m0, k14m1, k14m2, k14m3]
  instanceTypes := #[]
  staticTypes := #[.int, .int, .boolean]
  resolved := Array.replicate 1029 none
  statics := none }

def pool15 : Array CpInfo := pool [(1, .class_ 2), (0, u "java/lang/Math"), (1, .class_ 6), (1, u "java/lang/Object"), (0, u "<init>"), (0, u "()V"), (89, .class_ 100), (1, u "java/lang/Math$RandomNumberGeneratorHolder"), (71, u "negativeZeroFloatBits"), (0, u "J"), (2, u "negativeZeroDoubleBits"), (24, u "min"), (43, u "$assertionsDisabled"), (0, u "Z"), (88, u "(II)I"), (2, u "twoToTheDoubleScaleDown"), (0, u "D"), (4, u "twoToTheDoubleScaleUp"), (9, u "E"), (3, u "PI"), (2, u "TAU"), (2, u "DEGREES_TO_RADIANS"), (0, u "RADIANS_TO_DEGREES")] 94

def k15m0 : Method := { name := "<init>", desc := "()V", sig := { parameters := [], returnType := none }, accessFlags := 2, code := none }
def k15c1 : Code := { maxStack := 2, maxLocals := 2, code := jdk_29_method_69_code, exceptionTable := #[], attributes := #[] }
def k15m1 : Method := { name := "min", desc := "(II)I", sig := { parameters := [.int, .int], returnType := some .int }, accessFlags := 9, code := some k15c1 }
/-- java/lang/Math -/
def k15 : Class := { plain "java/lang/Math" (some 0) with
  accessFlags := 49
  interfaces := #[]
  cf := some (fileOf pool15 1 #[.nestMembers #[98]] #[{ accessFlags := 2, nameIndex := 7, descriptorIndex := 8, attributes := #[] }, { accessFlags := 9, nameIndex := 201, descriptorIndex := 335, attributes := #[] }] 49 4 #[] #[{ accessFlags := 25, nameIndex := 354, descriptorIndex := 339, attributes := #[] }, { accessFlags := 25, nameIndex := 358, descriptorIndex := 339, attributes := #[] }, { accessFlags := 25, nameIndex := 361, descriptorIndex := 339, attributes := #[] }, { accessFlags := 26, nameIndex := 364, descriptorIndex := 339, attributes := #[] }, { accessFlags := 26, nameIndex := 365, descriptorIndex := 339, attributes := #[] }, { accessFlags := 26, nameIndex := 172, descriptorIndex := 173, attributes := #[] }, { accessFlags := 26, nameIndex := 176, descriptorIndex := 173, attributes := #[] }, { accessFlags := 8, nameIndex := 344, descriptorIndex := 339, attributes := #[] }, { accessFlags := 8, nameIndex := 338, descriptorIndex := 339, attributes := #[] }, { accessFlags := 4120, nameIndex := 245, descriptorIndex := 246, attributes := #[] }])
  fields := #[{ name := "E", type := .double, accessFlags := 25, slot := 0, constantValue := 0 }, { name := "PI", type := .double, accessFlags := 25, slot := 1, constantValue := 0 }, { name := "TAU", type := .double, accessFlags := 25, slot := 2, constantValue := 0 }, { name := "DEGREES_TO_RADIANS", type := .double, accessFlags := 26, slot := 3, constantValue := 0 }, { name := "RADIANS_TO_DEGREES", type := .double, accessFlags := 26, slot := 4, constantValue := 0 }, { name := "negativeZeroFloatBits", type := .long, accessFlags := 26, slot := 5, constantValue := 0 }, { name := "negativeZeroDoubleBits", type := .long, accessFlags := 26, slot := 6, constantValue := 0 }, { name := "twoToTheDoubleScaleUp", type := .double, accessFlags := 8, slot := 7, constantValue := 0 }, { name := "twoToTheDoubleScaleDown", type := .double, accessFlags := 8, slot := 8, constantValue := 0 }, { name := "$assertionsDisabled", type := .boolean, accessFlags := 4120, slot := 9, constantValue := 0 }]
  methods := #[k15m0, k15m1]
  instanceTypes := #[]
  staticTypes := #[.double, .double, .double, .double, .double, .long, .long, .double, .double, .boolean]
  resolved := Array.replicate 460 none
  statics := none }

def pool16 : Array CpInfo := pool [(1, .class_ 2), (0, u "java/lang/String"), (1, .class_ 6), (1, u "java/lang/Object"), (0, u "<init>"), (0, u "()V"), (0, .methodref 1 10), (0, .nameAndType 11 12), (0, u "checkIndex"), (0, u "(II)V"), (1, .class_ 16), (1, u "java/lang/StringLatin1"), (0, u "inflate"), (2, .class_ 22), (1, u "java/lang/StringUTF16"), (3, .nameAndType 17 27), (0, u "([BI[BII)V"), (25, u "([BI)C"), (36, u "canEncode"), (0, u "(I)Z"), (29, u "$assertionsDisabled"), (0, u "Z"), (98, .class_ 223), (1, u "java/lang/StringLatin1$LinesSpliterator"), (16, .methodref 20 26), (11, u "charAt"), (28, u "equals"), (0, u "([B[B)Z"), (97, u "toBytes"), (1, u "(C)[B"), (7, .class_ 391), (0, u "java/lang/StringLatin1$CharsSpliterator")] 3

def k16m0 : Method := { name := "<init>", desc := "()V", sig := { parameters := [], returnType := none }, accessFlags := 0, code := none }
def k16c1 : Code := { maxStack := 2, maxLocals := 2, code := jdk_43_method_2_code, exceptionTable := #[], attributes := #[] }
def k16m1 : Method := { name := "charAt", desc := "([BI)C", sig := { parameters := [(.array .byte), .int], returnType := some .char }, accessFlags := 9, code := some k16c1 }
def k16c2 : Code := { maxStack := 2, maxLocals := 1, code := jdk_43_method_4_code, exceptionTable := #[], attributes := #[] }
def k16m2 : Method := { name := "canEncode", desc := "(I)Z", sig := { parameters := [.int], returnType := some .boolean }, accessFlags := 9, code := some k16c2 }
def k16c3 : Code := { maxStack := 3, maxLocals := 3, code := jdk_43_method_13_code, exceptionTable := #[], attributes := #[] }
def k16m3 : Method := { name := "equals", desc := "([B[B)Z", sig := { parameters := [(.array .byte), (.array .byte)], returnType := some .boolean }, accessFlags := 9, code := some k16c3 }
def k16c4 : Code := { maxStack := 4, maxLocals := 1, code := jdk_43_method_46_code, exceptionTable := #[], attributes := #[] }
def k16m4 : Method := { name := "toBytes", desc := "(C)[B", sig := { parameters := [.char], returnType := some (.array .byte) }, accessFlags := 9, code := some k16c4 }
def k16c5 : Code := { maxStack := 5, maxLocals := 5, code := jdk_43_method_50_code, exceptionTable := #[], attributes := #[] }
def k16m5 : Method := { name := "inflate", desc := "([BI[BII)V", sig := { parameters := [(.array .byte), .int, (.array .byte), .int, .int], returnType := none }, accessFlags := 9, code := some k16c5 }
/-- java/lang/StringLatin1 -/
def k16 : Class := { plain "java/lang/StringLatin1" (some 0) with
  accessFlags := 48
  interfaces := #[]
  cf := some (fileOf pool16 14 #[.nestMembers #[390, 221]] #[{ accessFlags := 0, nameIndex := 7, descriptorIndex := 8, attributes := #[] }, { accessFlags := 9, nameIndex := 252, descriptorIndex := 53, attributes := #[] }, { accessFlags := 9, nameIndex := 90, descriptorIndex := 91, attributes := #[] }, { accessFlags := 9, nameIndex := 281, descriptorIndex := 282, attributes := #[] }, { accessFlags := 9, nameIndex := 380, descriptorIndex := 382, attributes := #[] }, { accessFlags := 9, nameIndex := 17, descriptorIndex := 27, attributes := #[] }] 48 4 #[] #[{ accessFlags := 4120, nameIndex := 121, descriptorIndex := 122, attributes := #[] }])
  fields := #[{ name := "$assertionsDisabled", type := .boolean, accessFlags := 4120, slot := 0, constantValue := 0 }]
  methods := #[k16m0, k16m1, k16m2, k16m3, k16m4, k16m5]
  instanceTypes := #[]
  staticTypes := #[.boolean]
  resolved := Array.replicate 395 none
  statics := none }

def pool17 : Array CpInfo := pool [(1, .class_ 2), (0, u "java/lang/Character"), (18, u "value"), (0, u "C"), (19, .class_ 44), (1, u "java/lang/Object"), (3, .class_ 50), (1, u "java/lang/Character$CharacterCache"), (14, .class_ 67), (1, u "java/lang/String"), (1, .methodref 65 70), (0, .nameAndType 71 72), (0, u "valueOfCodePoint"), (0, u "(I)Ljava/lang/String;"), (0, .integer 65536), (0, .integer 1114112), (1, .integer 56320), (14, u "(I)C"), (18, .integer 55232), (2, u "isBmpCodePoint"), (0, u "(I)Z"), (20, u "lowSurrogate"), (2, u "highSurrogate"), (145, u "$assertionsDisabled"), (0, u "Z"), (21, .class_ 309), (1, u "java/lang/Character$UnicodeBlock"), (6, u "toString"), (66, u "TYPE"), (0, u "Ljava/lang/Class;"), (0, .class_ 386), (0, u "java/io/Serializable"), (0, .class_ 388), (0, u "java/lang/Comparable"), (0, .class_ 390), (0, u "java/lang/constant/Constable"), (0, u "MIN_RADIX"), (0, u "I"), (2, u "MAX_RADIX"), (1, u "MIN_VALUE"), (1, u "MAX_VALUE"), (3, u "UNASSIGNED"), (0, u "B"), (0, u "UPPERCASE_LETTER"), (1, u "LOWERCASE_LETTER"), (0, u "TITLECASE_LETTER"), (1, u "MODIFIER_LETTER"), (1, u "OTHER_LETTER"), (1, u "NON_SPACING_MARK"), (1, u "ENCLOSING_MARK"), (1, u "COMBINING_SPACING_MARK"), (1, u "DECIMAL_DIGIT_NUMBER"), (1, u "LETTER_NUMBER"), (1, u "OTHER_NUMBER"), (1, u "SPACE_SEPARATOR"), (1, u "LINE_SEPARATOR"), (1, u "PARAGRAPH_SEPARATOR"), (1, u "CONTROL"), (1, u "FORMAT"), (1, u "PRIVATE_USE"), (1, u "SURROGATE"), (1, u "DASH_PUNCTUATION"), (1, u "START_PUNCTUATION"), (1, u "END_PUNCTUATION"), (1, u "CONNECTOR_PUNCTUATION"), (1, u "OTHER_PUNCTUATION"), (1, u "MATH_SYMBOL"), (1, u "CURRENCY_SYMBOL"), (1, u "MODIFIER_SYMBOL"), (1, u "OTHER_SYMBOL"), (1, u "INITIAL_QUOTE_PUNCTUATION"), (1, u "FINAL_QUOTE_PUNCTUATION"), (1, u "ERROR"), (1, u "DIRECTIONALITY_UNDEFINED"), (0, u "DIRECTIONALITY_LEFT_TO_RIGHT"), (0, u "DIRECTIONALITY_RIGHT_TO_LEFT"), (0, u "DIRECTIONALITY_RIGHT_TO_LEFT_ARABIC"), (0, u "DIRECTIONALITY_EUROPEAN_NUMBER"), (0, u "DIRECTIONALITY_EUROPEAN_NUMBER_SEPARATOR"), (0, u "DIRECTIONALITY_EUROPEAN_NUMBER_TERMINATOR"), (0, u "DIRECTIONALITY_ARABIC_NUMBER"), (0, u "DIRECTIONALITY_COMMON_NUMBER_SEPARATOR"), (0, u "DIRECTIONALITY_NONSPACING_MARK"), (0, u "DIRECTIONALITY_BOUNDARY_NEUTRAL"), (0, u "DIRECTIONALITY_PARAGRAPH_SEPARATOR"), (0, u "DIRECTIONALITY_SEGMENT_SEPARATOR"), (0, u "DIRECTIONALITY_WHITESPACE"), (0, u "DIRECTIONALITY_OTHER_NEUTRALS"), (0, u "DIRECTIONALITY_LEFT_TO_RIGHT_EMBEDDING"), (0, u "DIRECTIONALITY_LEFT_TO_RIGHT_OVERRIDE"), (0, u "DIRECTIONALITY_RIGHT_TO_LEFT_EMBEDDING"), (0, u "DIRECTIONALITY_RIGHT_TO_LEFT_OVERRIDE"), (1, u "DIRECTIONALITY_POP_DIRECTIONAL_FORMAT"), (0, u "DIRECTIONALITY_LEFT_TO_RIGHT_ISOLATE"), (0, u "DIRECTIONALITY_RIGHT_TO_LEFT_ISOLATE"), (0, u "DIRECTIONALITY_FIRST_STRONG_ISOLATE"), (0, u "DIRECTIONALITY_POP_DIRECTIONAL_ISOLATE"), (0, u "MIN_HIGH_SURROGATE"), (0, u "MAX_HIGH_SURROGATE"), (1, u "MIN_LOW_SURROGATE"), (0, u "MAX_LOW_SURROGATE"), (1, u "MIN_SURROGATE"), (0, u "MAX_SURROGATE"), (0, u "MIN_SUPPLEMENTARY_CODE_POINT"), (0, u "MIN_CODE_POINT"), (0, u "MAX_CODE_POINT"), (1, u "serialVersionUID"), (0, u "J"), (2, u "SIZE"), (0, u "BYTES"), (22, u "isSupplementaryCodePoint"), (65, .class_ 596), (0, u "java/lang/Character$UnicodeScript"), (0, .class_ 598), (0, u "java/lang/Character$Subset")] 5

def k17c0 : Code := { maxStack := 1, maxLocals := 1, code := jdk_89_method_10_code, exceptionTable := #[], attributes := #[] }
def k17m0 : Method := { name := "toString", desc := "(I)Ljava/lang/String;", sig := { parameters := [.int], returnType := some (.object "java/lang/String") }, accessFlags := 9, code := some k17c0 }
def k17c1 : Code := { maxStack := 2, maxLocals := 1, code := jdk_89_method_12_code, exceptionTable := #[], attributes := #[] }
def k17m1 : Method := { name := "isBmpCodePoint", desc := "(I)Z", sig := { parameters := [.int], returnType := some .boolean }, accessFlags := 9, code := some k17c1 }
def k17c2 : Code := { maxStack := 2, maxLocals := 1, code := jdk_89_method_13_code, exceptionTable := #[], attributes := #[] }
def k17m2 : Method := { name := "isSupplementaryCodePoint", desc := "(I)Z", sig := { parameters := [.int], returnType := some .boolean }, accessFlags := 9, code := some k17c2 }
def k17c3 : Code := { maxStack := 2, maxLocals := 1, code := jdk_89_method_28_code, exceptionTable := #[], attributes := #[] }
def k17m3 : Method := { name := "highSurrogate", desc := "(I)C", sig := { parameters := [.int], returnType := some .char }, accessFlags := 9, code := some k17c3 }
def k17c4 : Code := { maxStack := 2, maxLocals := 1, code := jdk_89_method_29_code, exceptionTable := #[], attributes := #[] }
def k17m4 : Method := { name := "lowSurrogate", desc := "(I)C", sig := { parameters := [.int], returnType := some .char }, accessFlags := 9, code := some k17c4 }
/-- java/lang/Character -/
def k17 : Class := { plain "java/lang/Character" (some 0) with
  accessFlags := 49
  interfaces := #[4, 5, 7]
  cf := some (fileOf pool17 1 #[.nestMembers #[48, 595, 307, 597]] #[{ accessFlags := 9, nameIndex := 316, descriptorIndex := 72, attributes := #[] }, { accessFlags := 9, nameIndex := 113, descriptorIndex := 114, attributes := #[] }, { accessFlags := 9, nameIndex := 529, descriptorIndex := 114, attributes := #[] }, { accessFlags := 9, nameIndex := 138, descriptorIndex := 91, attributes := #[] }, { accessFlags := 9, nameIndex := 135, descriptorIndex := 91, attributes := #[] }] 49 42 #[385, 387, 389] #[{ accessFlags := 25, nameIndex := 391, descriptorIndex := 392, attributes := #[] }, { accessFlags := 25, nameIndex := 395, descriptorIndex := 392, attributes := #[] }, { accessFlags := 25, nameIndex := 397, descriptorIndex := 22, attributes := #[] }, { accessFlags := 25, nameIndex := 399, descriptorIndex := 22, attributes := #[] }, { accessFlags := 25, nameIndex := 383, descriptorIndex := 384, attributes := #[] }, { accessFlags := 25, nameIndex := 403, descriptorIndex := 404, attributes := #[] }, { accessFlags := 25, nameIndex := 405, descriptorIndex := 404, attributes := #[] }, { accessFlags := 25, nameIndex := 407, descriptorIndex := 404, attributes := #[] }, { accessFlags := 25, nameIndex := 408, descriptorIndex := 404, attributes := #[] }, { accessFlags := 25, nameIndex := 410, descriptorIndex := 404, attributes := #[] }, { accessFlags := 25, nameIndex := 412, descriptorIndex := 404, attributes := #[] }, { accessFlags := 25, nameIndex := 414, descriptorIndex := 404, attributes := #[] }, { accessFlags := 25, nameIndex := 416, descriptorIndex := 404, attributes := #[] }, { accessFlags := 25, nameIndex := 418, descriptorIndex := 404, attributes := #[] }, { accessFlags := 25, nameIndex := 420, descriptorIndex := 404, attributes := #[] }, { accessFlags := 25, nameIndex := 422, descriptorIndex := 404, attributes := #[] }, { accessFlags := 25, nameIndex := 424, descriptorIndex := 404, attributes := #[] }, { accessFlags := 25, nameIndex := 426, descriptorIndex := 404, attributes := #[] }, { accessFlags := 25, nameIndex := 428, descriptorIndex := 404, attributes := #[] }, { accessFlags := 25, nameIndex := 430, descriptorIndex := 404, attributes := #[] }, { accessFlags := 25, nameIndex := 432, descriptorIndex := 404, attributes := #[] }, { accessFlags := 25, nameIndex := 434, descriptorIndex := 404, attributes := #[] }, { accessFlags := 25, nameIndex := 436, descriptorIndex := 404, attributes := #[] }, { accessFlags := 25, nameIndex := 438, descriptorIndex := 404, attributes := #[] }, { accessFlags := 25, nameIndex := 440, descriptorIndex := 404, attributes := #[] }, { accessFlags := 25, nameIndex := 442, descriptorIndex := 404, attributes := #[] }, { accessFlags := 25, nameIndex := 444, descriptorIndex := 404, attributes := #[] }, { accessFlags := 25, nameIndex := 446, descriptorIndex := 404, attributes := #[] }, { accessFlags := 25, nameIndex := 448, descriptorIndex := 404, attributes := #[] }, { accessFlags := 25, nameIndex := 450, descriptorIndex := 404, attributes := #[] }, { accessFlags := 25, nameIndex := 452, descriptorIndex := 404, attributes := #[] }, { accessFlags := 25, nameIndex := 454, descriptorIndex := 404, attributes := #[] }, { accessFlags := 25, nameIndex := 456, descriptorIndex := 404, attributes := #[] }, { accessFlags := 25, nameIndex := 458, descriptorIndex := 404, attributes := #[] }, { accessFlags := 25, nameIndex := 460, descriptorIndex := 404, attributes := #[] }, { accessFlags := 24, nameIndex := 462, descriptorIndex := 392, attributes := #[] }, { accessFlags := 25, nameIndex := 464, descriptorIndex := 404, attributes := #[] }, { accessFlags := 25, nameIndex := 465, descriptorIndex := 404, attributes := #[] }, { accessFlags := 25, nameIndex := 466, descriptorIndex := 404, attributes := #[] }, { accessFlags := 25, nameIndex := 467, descriptorIndex := 404, attributes := #[] }, { accessFlags := 25, nameIndex := 468, descriptorIndex := 404, attributes := #[] }, { accessFlags := 25, nameIndex := 469, descriptorIndex := 404, attributes := #[] }, { accessFlags := 25, nameIndex := 470, descriptorIndex := 404, attributes := #[] }, { accessFlags := 25, nameIndex := 471, descriptorIndex := 404, attributes := #[] }, { accessFlags := 25, nameIndex := 472, descriptorIndex := 404, attributes := #[] }, { accessFlags := 25, nameIndex := 473, descriptorIndex := 404, attributes := #[] }, { accessFlags := 25, nameIndex := 474, descriptorIndex := 404, attributes := #[] }, { accessFlags := 25, nameIndex := 475, descriptorIndex := 404, attributes := #[] }, { accessFlags := 25, nameIndex := 476, descriptorIndex := 404, attributes := #[] }, { accessFlags := 25, nameIndex := 477, descriptorIndex := 404, attributes := #[] }, { accessFlags := 25, nameIndex := 478, descriptorIndex := 404, attributes := #[] }, { accessFlags := 25, nameIndex := 479, descriptorIndex := 404, attributes := #[] }, { accessFlags := 25, nameIndex := 480, descriptorIndex := 404, attributes := #[] }, { accessFlags := 25, nameIndex := 481, descriptorIndex := 404, attributes := #[] }, { accessFlags := 25, nameIndex := 482, descriptorIndex := 404, attributes := #[] }, { accessFlags := 25, nameIndex := 484, descriptorIndex := 404, attributes := #[] }, { accessFlags := 25, nameIndex := 485, descriptorIndex := 404, attributes := #[] }, { accessFlags := 25, nameIndex := 486, descriptorIndex := 404, attributes := #[] }, { accessFlags := 25, nameIndex := 487, descriptorIndex := 404, attributes := #[] }, { accessFlags := 25, nameIndex := 488, descriptorIndex := 404, attributes := #[] }, { accessFlags := 25, nameIndex := 489, descriptorIndex := 22, attributes := #[] }, { accessFlags := 25, nameIndex := 490, descriptorIndex := 22, attributes := #[] }, { accessFlags := 25, nameIndex := 492, descriptorIndex := 22, attributes := #[] }, { accessFlags := 25, nameIndex := 493, descriptorIndex := 22, attributes := #[] }, { accessFlags := 25, nameIndex := 495, descriptorIndex := 22, attributes := #[] }, { accessFlags := 25, nameIndex := 496, descriptorIndex := 22, attributes := #[] }, { accessFlags := 25, nameIndex := 497, descriptorIndex := 392, attributes := #[] }, { accessFlags := 25, nameIndex := 498, descriptorIndex := 392, attributes := #[] }, { accessFlags := 25, nameIndex := 499, descriptorIndex := 392, attributes := #[] }, { accessFlags := 18, nameIndex := 21, descriptorIndex := 22, attributes := #[] }, { accessFlags := 26, nameIndex := 501, descriptorIndex := 502, attributes := #[] }, { accessFlags := 25, nameIndex := 505, descriptorIndex := 392, attributes := #[] }, { accessFlags := 25, nameIndex := 506, descriptorIndex := 392, attributes := #[] }, { accessFlags := 4120, nameIndex := 284, descriptorIndex := 285, attributes := #[] }])
  fields := #[{ name := "MIN_RADIX", type := .int, accessFlags := 25, slot := 0, constantValue := 0 }, { name := "MAX_RADIX", type := .int, accessFlags := 25, slot := 1, constantValue := 0 }, { name := "MIN_VALUE", type := .char, accessFlags := 25, slot := 2, constantValue := 0 }, { name := "MAX_VALUE", type := .char, accessFlags := 25, slot := 3, constantValue := 0 }, { name := "TYPE", type := (.object "java/lang/Class"), accessFlags := 25, slot := 4, constantValue := 0 }, { name := "UNASSIGNED", type := .byte, accessFlags := 25, slot := 5, constantValue := 0 }, { name := "UPPERCASE_LETTER", type := .byte, accessFlags := 25, slot := 6, constantValue := 0 }, { name := "LOWERCASE_LETTER", type := .byte, accessFlags := 25, slot := 7, constantValue := 0 }, { name := "TITLECASE_LETTER", type := .byte, accessFlags := 25, slot := 8, constantValue := 0 }, { name := "MODIFIER_LETTER", type := .byte, accessFlags := 25, slot := 9, constantValue := 0 }, { name := "OTHER_LETTER", type := .byte, accessFlags := 25, slot := 10, constantValue := 0 }, { name := "NON_SPACING_MARK", type := .byte, accessFlags := 25, slot := 11, constantValue := 0 }, { name := "ENCLOSING_MARK", type := .byte, accessFlags := 25, slot := 12, constantValue := 0 }, { name := "COMBINING_SPACING_MARK", type := .byte, accessFlags := 25, slot := 13, constantValue := 0 }, { name := "DECIMAL_DIGIT_NUMBER", type := .byte, accessFlags := 25, slot := 14, constantValue := 0 }, { name := "LETTER_NUMBER", type := .byte, accessFlags := 25, slot := 15, constantValue := 0 }, { name := "OTHER_NUMBER", type := .byte, accessFlags := 25, slot := 16, constantValue := 0 }, { name := "SPACE_SEPARATOR", type := .byte, accessFlags := 25, slot := 17, constantValue := 0 }, { name := "LINE_SEPARATOR", type := .byte, accessFlags := 25, slot := 18, constantValue := 0 }, { name := "PARAGRAPH_SEPARATOR", type := .byte, accessFlags := 25, slot := 19, constantValue := 0 }, { name := "CONTROL", type := .byte, accessFlags := 25, slot := 20, constantValue := 0 }, { name := "FORMAT", type := .byte, accessFlags := 25, slot := 21, constantValue := 0 }, { name := "PRIVATE_USE", type := .byte, accessFlags := 25, slot := 22, constantValue := 0 }, { name := "SURROGATE", type := .byte, accessFlags := 25, slot := 23, constantValue := 0 }, { name := "DASH_PUNCTUATION", type := .byte, accessFlags := 25, slot := 24, constantValue := 0 }, { name := "START_PUNCTUATION", type := .byte, accessFlags := 25, slot := 25, constantValue := 0 }, { name := "END_PUNCTUATION", type := .byte, accessFlags := 25, slot := 26, constantValue := 0 }, { name := "CONNECTOR_PUNCTUATION", type := .byte, accessFlags := 25, slot := 27, constantValue := 0 }, { name := "OTHER_PUNCTUATION", type := .byte, accessFlags := 25, slot := 28, constantValue := 0 }, { name := "MATH_SYMBOL", type := .byte, accessFlags := 25, slot := 29, constantValue := 0 }, { name := "CURRENCY_SYMBOL", type := .byte, accessFlags := 25, slot := 30, constantValue := 0 }, { name := "MODIFIER_SYMBOL", type := .byte, accessFlags := 25, slot := 31, constantValue := 0 }, { name := "OTHER_SYMBOL", type := .byte, accessFlags := 25, slot := 32, constantValue := 0 }, { name := "INITIAL_QUOTE_PUNCTUATION", type := .byte, accessFlags := 25, slot := 33, constantValue := 0 }, { name := "FINAL_QUOTE_PUNCTUATION", type := .byte, accessFlags := 25, slot := 34, constantValue := 0 }, { name := "ERROR", type := .int, accessFlags := 24, slot := 35, constantValue := 0 }, { name := "DIRECTIONALITY_UNDEFINED", type := .byte, accessFlags := 25, slot := 36, constantValue := 0 }, { name := "DIRECTIONALITY_LEFT_TO_RIGHT", type := .byte, accessFlags := 25, slot := 37, constantValue := 0 }, { name := "DIRECTIONALITY_RIGHT_TO_LEFT", type := .byte, accessFlags := 25, slot := 38, constantValue := 0 }, { name := "DIRECTIONALITY_RIGHT_TO_LEFT_ARABIC", type := .byte, accessFlags := 25, slot := 39, constantValue := 0 }, { name := "DIRECTIONALITY_EUROPEAN_NUMBER", type := .byte, accessFlags := 25, slot := 40, constantValue := 0 }, { name := "DIRECTIONALITY_EUROPEAN_NUMBER_SEPARATOR", type := .byte, accessFlags := 25, slot := 41, constantValue := 0 }, { name := "DIRECTIONALITY_EUROPEAN_NUMBER_TERMINATOR", type := .byte, accessFlags := 25, slot := 42, constantValue := 0 }, { name := "DIRECTIONALITY_ARABIC_NUMBER", type := .byte, accessFlags := 25, slot := 43, constantValue := 0 }, { name := "DIRECTIONALITY_COMMON_NUMBER_SEPARATOR", type := .byte, accessFlags := 25, slot := 44, constantValue := 0 }, { name := "DIRECTIONALITY_NONSPACING_MARK", type := .byte, accessFlags := 25, slot := 45, constantValue := 0 }, { name := "DIRECTIONALITY_BOUNDARY_NEUTRAL", type := .byte, accessFlags := 25, slot := 46, constantValue := 0 }, { name := "DIRECTIONALITY_PARAGRAPH_SEPARATOR", type := .byte, accessFlags := 25, slot := 47, constantValue := 0 }, { name := "DIRECTIONALITY_SEGMENT_SEPARATOR", type := .byte, accessFlags := 25, slot := 48, constantValue := 0 }, { name := "DIRECTIONALITY_WHITESPACE", type := .byte, accessFlags := 25, slot := 49, constantValue := 0 }, { name := "DIRECTIONALITY_OTHER_NEUTRALS", type := .byte, accessFlags := 25, slot := 50, constantValue := 0 }, { name := "DIRECTIONALITY_LEFT_TO_RIGHT_EMBEDDING", type := .byte, accessFlags := 25, slot := 51, constantValue := 0 }, { name := "DIRECTIONALITY_LEFT_TO_RIGHT_OVERRIDE", type := .byte, accessFlags := 25, slot := 52, constantValue := 0 }, { name := "DIRECTIONALITY_RIGHT_TO_LEFT_EMBEDDING", type := .byte, accessFlags := 25, slot := 53, constantValue := 0 }, { name := "DIRECTIONALITY_RIGHT_TO_LEFT_OVERRIDE", type := .byte, accessFlags := 25, slot := 54, constantValue := 0 }, { name := "DIRECTIONALITY_POP_DIRECTIONAL_FORMAT", type := .byte, accessFlags := 25, slot := 55, constantValue := 0 }, { name := "DIRECTIONALITY_LEFT_TO_RIGHT_ISOLATE", type := .byte, accessFlags := 25, slot := 56, constantValue := 0 }, { name := "DIRECTIONALITY_RIGHT_TO_LEFT_ISOLATE", type := .byte, accessFlags := 25, slot := 57, constantValue := 0 }, { name := "DIRECTIONALITY_FIRST_STRONG_ISOLATE", type := .byte, accessFlags := 25, slot := 58, constantValue := 0 }, { name := "DIRECTIONALITY_POP_DIRECTIONAL_ISOLATE", type := .byte, accessFlags := 25, slot := 59, constantValue := 0 }, { name := "MIN_HIGH_SURROGATE", type := .char, accessFlags := 25, slot := 60, constantValue := 0 }, { name := "MAX_HIGH_SURROGATE", type := .char, accessFlags := 25, slot := 61, constantValue := 0 }, { name := "MIN_LOW_SURROGATE", type := .char, accessFlags := 25, slot := 62, constantValue := 0 }, { name := "MAX_LOW_SURROGATE", type := .char, accessFlags := 25, slot := 63, constantValue := 0 }, { name := "MIN_SURROGATE", type := .char, accessFlags := 25, slot := 64, constantValue := 0 }, { name := "MAX_SURROGATE", type := .char, accessFlags := 25, slot := 65, constantValue := 0 }, { name := "MIN_SUPPLEMENTARY_CODE_POINT", type := .int, accessFlags := 25, slot := 66, constantValue := 0 }, { name := "MIN_CODE_POINT", type := .int, accessFlags := 25, slot := 67, constantValue := 0 }, { name := "MAX_CODE_POINT", type := .int, accessFlags := 25, slot := 68, constantValue := 0 }, { name := "value", type := .char, accessFlags := 18, slot := 0, constantValue := 0 }, { name := "serialVersionUID", type := .long, accessFlags := 26, slot := 69, constantValue := 0 }, { name := "SIZE", type := .int, accessFlags := 25, slot := 70, constantValue := 0 }, { name := "BYTES", type := .int, accessFlags := 25, slot := 71, constantValue := 0 }, { name := "$assertionsDisabled", type := .boolean, accessFlags := 4120, slot := 72, constantValue := 0 }]
  methods := #[k17m0, k17m1, k17m2, k17m3, k17m4]
  instanceTypes := #[.char]
  staticTypes := #[.int, .int, .char, .char, (.object "java/lang/Class"), .byte, .byte, .byte, .byte, .byte, .byte, .byte, .byte, .byte, .byte, .byte, .byte, .byte, .byte, .byte, .byte, .byte, .byte, .byte, .byte, .byte, .byte, .byte, .byte, .byte, .byte, .byte, .byte, .byte, .byte, .int, .byte, .byte, .byte, .byte, .byte, .byte, .byte, .byte, .byte, .byte, .byte, .byte, .byte, .byte, .byte, .byte, .byte, .byte, .byte, .byte, .byte, .byte, .byte, .byte, .char, .char, .char, .char, .char, .char, .int, .int, .int, .long, .int, .int, .boolean]
  resolved := Array.replicate 604 none
  statics := none }

def pool18 : Array CpInfo := pool [(2, .class_ 4), (1, u "java/lang/Object"), (0, u "<init>"), (0, u "()V"), (17, .class_ 26), (1, u "jdk/internal/util/Preconditions"), (6, u "checkIndex"), (15, u "checkFromIndexSize"), (5, .class_ 56), (0, u "jdk/internal/util/Preconditions$4"), (57, .class_ 115), (0, u "jdk/internal/util/Preconditions$1"), (7, u "SIOOBE_FORMATTER"), (0, u "Ljava/util/function/BiFunction;"), (0, .class_ 126), (0, u "jdk/internal/util/Preconditions$2"), (3, u "AIOOBE_FORMATTER"), (0, .class_ 132), (0, u "jdk/internal/util/Preconditions$3"), (3, u "IOOBE_FORMATTER"), (41, u "(IILjava/util/function/BiFunction;)I"), (4, u "(IIILjava/util/function/BiFunction;)I")] 10

def k18m0 : Method := { name := "<init>", desc := "()V", sig := { parameters := [], returnType := none }, accessFlags := 1, code := none }
def k18c1 : Code := { maxStack := 3, maxLocals := 3, code := jdk_41_method_11_code, exceptionTable := #[], attributes := #[] }
def k18m1 : Method := { name := "checkIndex", desc := "(IILjava/util/function/BiFunction;)I", sig := { parameters := [.int, .int, (.object "java/util/function/BiFunction")], returnType := some .int }, accessFlags := 9, code := some k18c1 }
def k18c2 : Code := { maxStack := 4, maxLocals := 4, code := jdk_41_method_13_code, exceptionTable := #[], attributes := #[] }
def k18m2 : Method := { name := "checkFromIndexSize", desc := "(IIILjava/util/function/BiFunction;)I", sig := { parameters := [.int, .int, .int, (.object "java/util/function/BiFunction")], returnType := some .int }, accessFlags := 9, code := some k18c2 }
/-- jdk/internal/util/Preconditions -/
def k18 : Class := { plain "jdk/internal/util/Preconditions" (some 0) with
  accessFlags := 33
  interfaces := #[]
  cf := some (fileOf pool18 24 #[.nestMembers #[55, 131, 125, 114]] #[{ accessFlags := 1, nameIndex := 5, descriptorIndex := 6, attributes := #[] }, { accessFlags := 9, nameIndex := 33, descriptorIndex := 178, attributes := #[] }, { accessFlags := 9, nameIndex := 49, descriptorIndex := 183, attributes := #[] }] 33 2 #[] #[{ accessFlags := 25, nameIndex := 123, descriptorIndex := 124, attributes := #[] }, { accessFlags := 25, nameIndex := 130, descriptorIndex := 124, attributes := #[] }, { accessFlags := 25, nameIndex := 136, descriptorIndex := 124, attributes := #[] }])
  fields := #[{ name := "SIOOBE_FORMATTER", type := (.object "java/util/function/BiFunction"), accessFlags := 25, slot := 0, constantValue := 0 }, { name := "AIOOBE_FORMATTER", type := (.object "java/util/function/BiFunction"), accessFlags := 25, slot := 1, constantValue := 0 }, { name := "IOOBE_FORMATTER", type := (.object "java/util/function/BiFunction"), accessFlags := 25, slot := 2, constantValue := 0 }]
  methods := #[k18m0, k18m1, k18m2]
  instanceTypes := #[]
  staticTypes := #[(.object "java/util/function/BiFunction"), (.object "java/util/function/BiFunction"), (.object "java/util/function/BiFunction")]
  resolved := Array.replicate 194 none
  statics := some 1 }

def pool19 : Array CpInfo := pool [(3, .class_ 4), (0, u "java/lang/String"), (1, .class_ 8), (1, u "java/lang/Object"), (0, u "<init>"), (0, u "()V"), (0, .methodref 12 13), (0, .class_ 14), (0, .nameAndType 15 16), (0, u "java/lang/StringUTF16"), (0, u "newBytesLength"), (0, u "(I)I"), (3, .integer 1073741823), (23, .fieldref 12 45), (0, .nameAndType 46 47), (0, u "$assertionsDisabled"), (0, u "Z"), (0, .methodref 12 49), (0, .nameAndType 50 51), (0, u "length"), (0, u "([B)I"), (7, .fieldref 12 60), (0, .nameAndType 61 62), (0, u "HI_BYTE_SHIFT"), (0, u "I"), (0, .fieldref 12 64), (0, .nameAndType 65 62), (0, u "LO_BYTE_SHIFT"), (1, .methodref 12 68), (0, .nameAndType 69 70), (0, u "checkIndex"), (0, u "(I[B)V"), (0, .methodref 12 72), (0, .nameAndType 73 74), (0, u "getChar"), (0, u "([BI)C"), (1, .class_ 78), (1, u "java/lang/Character"), (20, u "(II[B)V"), (9, u "newBytesFor"), (0, u "(I)[B"), (0, .methodref 12 112), (0, .nameAndType 113 114), (0, u "putChar"), (0, u "([BII)V"), (6, u "toBytes"), (18, u "inflate"), (0, u "([BI[BII)V"), (15, .methodref 76 158), (0, .nameAndType 159 160), (0, u "highSurrogate"), (0, u "(I)C"), (0, .methodref 76 162), (0, .nameAndType 163 160), (0, u "lowSurrogate"), (9, .methodref 12 174), (0, .nameAndType 175 99), (0, u "checkBoundsOffCount"), (105, u "(III)I"), (87, .class_ 371), (1, u "java/lang/StringUTF16$LinesSpliterator"), (20, u "charAt"), (21, .methodref 3 415), (0, .nameAndType 69 416), (0, u "(II)V"), (2, .methodref 3 420), (0, .nameAndType 175 281), (9, u "MAX_LENGTH"), (44, u "(C)[B"), (1, u "toBytesSupplementary"), (149, .class_ 628), (0, u "java/lang/StringUTF16$CodePointsSpliterator"), (0, .class_ 630), (0, u "java/lang/StringUTF16$CharsSpliterator")] 4

def k19m0 : Method := { name := "<init>", desc := "()V", sig := { parameters := [], returnType := none }, accessFlags := 0, code := none }
def k19c1 : Code := { maxStack := 1, maxLocals := 1, code := jdk_52_method_2_code, exceptionTable := #[], attributes := #[] }
def k19m1 : Method := { name := "newBytesFor", desc := "(I)[B", sig := { parameters := [.int], returnType := some (.array .byte) }, accessFlags := 9, code := some k19c1 }
def k19c2 : Code := { maxStack := 4, maxLocals := 1, code := jdk_52_method_3_code, exceptionTable := #[], attributes := #[] }
def k19m2 : Method := { name := "newBytesLength", desc := "(I)I", sig := { parameters := [.int], returnType := some .int }, accessFlags := 9, code := some k19c2 }
def k19c3 : Code := { maxStack := 4, maxLocals := 3, code := jdk_52_method_4_code, exceptionTable := #[], attributes := #[] }
def k19m3 : Method := { name := "putChar", desc := "([BII)V", sig := { parameters := [(.array .byte), .int, .int], returnType := none }, accessFlags := 8, code := some k19c3 }
def k19c4 : Code := { maxStack := 3, maxLocals := 2, code := jdk_52_method_5_code, exceptionTable := #[], attributes := #[] }
def k19m4 : Method := { name := "getChar", desc := "([BI)C", sig := { parameters := [(.array .byte), .int], returnType := some .char }, accessFlags := 8, code := some k19c4 }
def k19c5 : Code := { maxStack := 2, maxLocals := 1, code := jdk_52_method_6_code, exceptionTable := #[], attributes := #[] }
def k19m5 : Method := { name := "length", desc := "([B)I", sig := { parameters := [(.array .byte)], returnType := some .int }, accessFlags := 9, code := some k19c5 }
def k19c6 : Code := { maxStack := 3, maxLocals := 2, code := jdk_52_method_24_code, exceptionTable := #[], attributes := #[] }
def k19m6 : Method := { name := "toBytes", desc := "(C)[B", sig := { parameters := [.char], returnType := some (.array .byte) }, accessFlags := 9, code := some k19c6 }
def k19c7 : Code := { maxStack := 3, maxLocals := 2, code := jdk_52_method_25_code, exceptionTable := #[], attributes := #[] }
def k19m7 : Method := { name := "toBytesSupplementary", desc := "(I)[B", sig := { parameters := [.int], returnType := some (.array .byte) }, accessFlags := 8, code := some k19c7 }
def k19c8 : Code := { maxStack := 2, maxLocals := 2, code := jdk_52_method_83_code, exceptionTable := #[], attributes := #[] }
def k19m8 : Method := { name := "charAt", desc := "([BI)C", sig := { parameters := [(.array .byte), .int], returnType := some .char }, accessFlags := 9, code := some k19c8 }
def k19c9 : Code := { maxStack := 4, maxLocals := 6, code := jdk_52_method_86_code, exceptionTable := #[], attributes := #[] }
def k19m9 : Method := { name := "inflate", desc := "([BI[BII)V", sig := { parameters := [(.array .byte), .int, (.array .byte), .int, .int], returnType := none }, accessFlags := 9, code := some k19c9 }
def k19c10 : Code := { maxStack := 2, maxLocals := 2, code := jdk_52_method_91_code, exceptionTable := #[], attributes := #[] }
def k19m10 : Method := { name := "checkIndex", desc := "(I[B)V", sig := { parameters := [.int, (.array .byte)], returnType := none }, accessFlags := 9, code := some k19c10 }
def k19c11 : Code := { maxStack := 3, maxLocals := 3, code := jdk_52_method_94_code, exceptionTable := #[], attributes := #[] }
def k19m11 : Method := { name := "checkBoundsOffCount", desc := "(II[B)V", sig := { parameters := [.int, .int, (.array .byte)], returnType := none }, accessFlags := 9, code := some k19c11 }
/-- java/lang/StringUTF16 -/
def k19 : Class := { plain "java/lang/StringUTF16" (some 0) with
  accessFlags := 48
  interfaces := #[]
  cf := some (fileOf pool19 12 #[.nestMembers #[627, 629, 369]] #[{ accessFlags := 0, nameIndex := 9, descriptorIndex := 10, attributes := #[] }, { accessFlags := 9, nameIndex := 109, descriptorIndex := 110, attributes := #[] }, { accessFlags := 9, nameIndex := 15, descriptorIndex := 16, attributes := #[] }, { accessFlags := 8, nameIndex := 113, descriptorIndex := 114, attributes := #[] }, { accessFlags := 8, nameIndex := 73, descriptorIndex := 74, attributes := #[] }, { accessFlags := 9, nameIndex := 50, descriptorIndex := 51, attributes := #[] }, { accessFlags := 9, nameIndex := 121, descriptorIndex := 475, attributes := #[] }, { accessFlags := 8, nameIndex := 477, descriptorIndex := 110, attributes := #[] }, { accessFlags := 9, nameIndex := 392, descriptorIndex := 74, attributes := #[] }, { accessFlags := 9, nameIndex := 140, descriptorIndex := 141, attributes := #[] }, { accessFlags := 9, nameIndex := 69, descriptorIndex := 70, attributes := #[] }, { accessFlags := 9, nameIndex := 175, descriptorIndex := 99, attributes := #[] }] 48 6 #[] #[{ accessFlags := 26, nameIndex := 61, descriptorIndex := 62, attributes := #[] }, { accessFlags := 26, nameIndex := 65, descriptorIndex := 62, attributes := #[] }, { accessFlags := 24, nameIndex := 430, descriptorIndex := 62, attributes := #[] }, { accessFlags := 4120, nameIndex := 46, descriptorIndex := 47, attributes := #[] }])
  fields := #[{ name := "HI_BYTE_SHIFT", type := .int, accessFlags := 26, slot := 0, constantValue := 0 }, { name := "LO_BYTE_SHIFT", type := .int, accessFlags := 26, slot := 1, constantValue := 0 }, { name := "MAX_LENGTH", type := .int, accessFlags := 24, slot := 2, constantValue := 0 }, { name := "$assertionsDisabled", type := .boolean, accessFlags := 4120, slot := 3, constantValue := 0 }]
  methods := #[k19m0, k19m1, k19m2, k19m3, k19m4, k19m5, k19m6, k19m7, k19m8, k19m9, k19m10, k19m11]
  instanceTypes := #[]
  staticTypes := #[.int, .int, .int, .boolean]
  resolved := Array.replicate 635 none
  statics := some 2 }

def pool20 : Array CpInfo := pool [(9, u "<init>"), (6, .class_ 18), (1, u "java/lang/Object"), (0, u "()V"), (1, .class_ 23), (1, u "jdk/internal/util/ArraysSupport"), (0, u "LOG2_ARRAY_LONG_INDEX_SCALE"), (0, u "I"), (2, u "U"), (0, u "Ljdk/internal/misc/Unsafe;"), (8, u "BIG_ENDIAN"), (0, u "Z"), (8, u "LOG2_BYTE_BIT_SIZE"), (4, u "LOG2_ARRAY_INT_INDEX_SCALE"), (54, u "JLA"), (0, u "Ljdk/internal/access/JavaLangAccess;"), (11, u "LOG2_ARRAY_BOOLEAN_INDEX_SCALE"), (9, u "LOG2_ARRAY_BYTE_INDEX_SCALE"), (5, u "LOG2_ARRAY_CHAR_INDEX_SCALE"), (5, u "LOG2_ARRAY_SHORT_INDEX_SCALE"), (18, u "LOG2_ARRAY_FLOAT_INDEX_SCALE"), (24, u "LOG2_ARRAY_DOUBLE_INDEX_SCALE"), (89, u "T_BOOLEAN"), (2, u "T_CHAR"), (1, u "T_FLOAT"), (1, u "T_DOUBLE"), (1, u "T_BYTE"), (1, u "T_SHORT"), (1, u "T_INT"), (1, u "T_LONG"), (1, u "SOFT_MAX_ARRAY_LENGTH")] 83

def k20m0 : Method := { name := "<init>", desc := "()V", sig := { parameters := [], returnType := none }, accessFlags := 2, code := none }
/-- jdk/internal/util/ArraysSupport -/
def k20 : Class := { plain "jdk/internal/util/ArraysSupport" (some 0) with
  accessFlags := 33
  interfaces := #[]
  cf := some (fileOf pool20 21 #[] #[{ accessFlags := 2, nameIndex := 9, descriptorIndex := 19, attributes := #[] }] 33 16 #[] #[{ accessFlags := 24, nameIndex := 28, descriptorIndex := 29, attributes := #[] }, { accessFlags := 26, nameIndex := 38, descriptorIndex := 39, attributes := #[] }, { accessFlags := 25, nameIndex := 121, descriptorIndex := 25, attributes := #[] }, { accessFlags := 25, nameIndex := 131, descriptorIndex := 25, attributes := #[] }, { accessFlags := 25, nameIndex := 137, descriptorIndex := 25, attributes := #[] }, { accessFlags := 25, nameIndex := 143, descriptorIndex := 25, attributes := #[] }, { accessFlags := 25, nameIndex := 53, descriptorIndex := 25, attributes := #[] }, { accessFlags := 25, nameIndex := 24, descriptorIndex := 25, attributes := #[] }, { accessFlags := 25, nameIndex := 162, descriptorIndex := 25, attributes := #[] }, { accessFlags := 25, nameIndex := 187, descriptorIndex := 25, attributes := #[] }, { accessFlags := 26, nameIndex := 48, descriptorIndex := 25, attributes := #[] }, { accessFlags := 25, nameIndex := 277, descriptorIndex := 25, attributes := #[] }, { accessFlags := 25, nameIndex := 280, descriptorIndex := 25, attributes := #[] }, { accessFlags := 25, nameIndex := 282, descriptorIndex := 25, attributes := #[] }, { accessFlags := 25, nameIndex := 284, descriptorIndex := 25, attributes := #[] }, { accessFlags := 25, nameIndex := 286, descriptorIndex := 25, attributes := #[] }, { accessFlags := 25, nameIndex := 288, descriptorIndex := 25, attributes := #[] }, { accessFlags := 25, nameIndex := 290, descriptorIndex := 25, attributes := #[] }, { accessFlags := 25, nameIndex := 292, descriptorIndex := 25, attributes := #[] }, { accessFlags := 26, nameIndex := 108, descriptorIndex := 109, attributes := #[] }, { accessFlags := 25, nameIndex := 294, descriptorIndex := 25, attributes := #[] }])
  fields := #[{ name := "U", type := (.object "jdk/internal/misc/Unsafe"), accessFlags := 24, slot := 0, constantValue := 0 }, { name := "BIG_ENDIAN", type := .boolean, accessFlags := 26, slot := 1, constantValue := 0 }, { name := "LOG2_ARRAY_BOOLEAN_INDEX_SCALE", type := .int, accessFlags := 25, slot := 2, constantValue := 0 }, { name := "LOG2_ARRAY_BYTE_INDEX_SCALE", type := .int, accessFlags := 25, slot := 3, constantValue := 0 }, { name := "LOG2_ARRAY_CHAR_INDEX_SCALE", type := .int, accessFlags := 25, slot := 4, constantValue := 0 }, { name := "LOG2_ARRAY_SHORT_INDEX_SCALE", type := .int, accessFlags := 25, slot := 5, constantValue := 0 }, { name := "LOG2_ARRAY_INT_INDEX_SCALE", type := .int, accessFlags := 25, slot := 6, constantValue := 0 }, { name := "LOG2_ARRAY_LONG_INDEX_SCALE", type := .int, accessFlags := 25, slot := 7, constantValue := 0 }, { name := "LOG2_ARRAY_FLOAT_INDEX_SCALE", type := .int, accessFlags := 25, slot := 8, constantValue := 0 }, { name := "LOG2_ARRAY_DOUBLE_INDEX_SCALE", type := .int, accessFlags := 25, slot := 9, constantValue := 0 }, { name := "LOG2_BYTE_BIT_SIZE", type := .int, accessFlags := 26, slot := 10, constantValue := 0 }, { name := "T_BOOLEAN", type := .int, accessFlags := 25, slot := 11, constantValue := 0 }, { name := "T_CHAR", type := .int, accessFlags := 25, slot := 12, constantValue := 0 }, { name := "T_FLOAT", type := .int, accessFlags := 25, slot := 13, constantValue := 0 }, { name := "T_DOUBLE", type := .int, accessFlags := 25, slot := 14, constantValue := 0 }, { name := "T_BYTE", type := .int, accessFlags := 25, slot := 15, constantValue := 0 }, { name := "T_SHORT", type := .int, accessFlags := 25, slot := 16, constantValue := 0 }, { name := "T_INT", type := .int, accessFlags := 25, slot := 17, constantValue := 0 }, { name := "T_LONG", type := .int, accessFlags := 25, slot := 18, constantValue := 0 }, { name := "JLA", type := (.object "jdk/internal/access/JavaLangAccess"), accessFlags := 26, slot := 19, constantValue := 0 }, { name := "SOFT_MAX_ARRAY_LENGTH", type := .int, accessFlags := 25, slot := 20, constantValue := 0 }]
  methods := #[k20m0]
  instanceTypes := #[]
  staticTypes := #[(.object "jdk/internal/misc/Unsafe"), .boolean, .int, .int, .int, .int, .int, .int, .int, .int, .int, .int, .int, .int, .int, .int, .int, .int, .int, (.object "jdk/internal/access/JavaLangAccess"), .int]
  resolved := Array.replicate 378 none
  statics := none }

def pool21 : Array CpInfo := pool [(1, u "java/lang/Cloneable"), (0, .class_ 1), (0, u "java/lang/Object"), (0, .class_ 3)] 3

/-- java/lang/Cloneable -/
def k21 : Class := { plain "java/lang/Cloneable" (some 0) with
  accessFlags := 1537
  interfaces := #[]
  cf := some (fileOf pool21 2 #[] #[] 1537 4 #[] #[])
  fields := #[]
  methods := #[]
  instanceTypes := #[]
  staticTypes := #[]
  resolved := Array.replicate 8 none
  statics := none }

/-- the primitive byte -/
def k22 : Class := { plain "byte" none with kind := .primitive 'B', accessFlags := 0x411 }
/-- [B -/
def k23 : Class := { plain "[B" (some 0) with kind := .array 22 .byte, interfaces := #[21, 4], accessFlags := 1041 }

/-- the primitive int -/
def k24 : Class := { plain "int" none with kind := .primitive 'I', accessFlags := 0x411 }
/-- [I -/
def k25 : Class := { plain "[I" (some 0) with kind := .array 24 .int, interfaces := #[21, 4], accessFlags := 1041 }

def heap : Heap := #[{ cls := 9, slots := #[.long 0, .int 1, .null, .int 0, .null, .int 0, .int 0], vm := .statics 9 },
  { cls := 18, slots := #[.null, .null, .null], vm := .statics 18 },
  { cls := 19, slots := #[.int 0, .int 8, .int 0, .int 1], vm := .statics 19 }]
def classes : Array Class := #[k0, k1, k2, k3, k4, k5, k6, k7, k8, k9, k10, k11, k12, k13, k14, k15, k16, k17, k18, k19, k20, k21, k22, k23, k24, k25]
def interned : List (Array UInt16 × Addr) := []
def slotsUsed : Nat := 14
def theMethod : MethodId := ⟨1, 1⟩
def args0 : Array Value := #[.int 5, .int 1]
def aboutOver (below : List Frame) : State where
  vm := { classes := classes, interned := interned.toArray }
  heap := heap
  slotsUsed := slotsUsed
  threads := #[{ frames := .invoking theMethod args0 :: below }]
def below0 : List Frame := [.native { method := ⟨0, 0⟩, args := #[] }]
def about1 : State := aboutOver below0
def p0 : Program := .bare "" "" ""
def e0 : Env := launch0.env 0 0 0
theorem w_frames : about1.frames = Frame.invoking theMethod args0 :: below0 := rfl
set_option maxRecDepth 65536 in
theorem w_args : argsFit about1.vm theMethod args0 = true := by decide +kernel
set_option maxRecDepth 65536 in
theorem w_heap : heapFits about1 = true := by decide +kernel
set_option maxRecDepth 65536 in
theorem w_runnable : about1.curStatus? = some .runnable := by decide +kernel
set_option maxRecDepth 65536 in
theorem w_alone : about1.alone = true := by decide +kernel
set_option maxRecDepth 65536 in
theorem w_named : about1.methodNamed? x = some theMethod := by decide +kernel
set_option maxRecDepth 65536 in
theorem w_hears : about1.hears theMethod below0 = true := by decide +kernel
set_option maxRecDepth 65536 in
theorem w_ripe : about1.ripe theMethod args0 below0 = true := by decide +kernel
theorem w_running : about1.status = .running := rfl
set_option maxRecDepth 65536 in
theorem w_room : about1.hasRoom e0.platform room_1 = true :=
  launch0.hasRoom_least _ room_1 (by decide +kernel) (by decide +kernel) (by decide +kernel) (by decide +kernel) (by decide +kernel) (by decide +kernel)
theorem allAtoms_all (ts : List Jvm.Cond) (a : Array Jvm.Value) (st : Jvm.State) : (allAtoms ts).before a st = ts.all (fun c => c.before a st) := by
  induction ts with
  | nil => rfl
  | cons c t ih =>
    show (Jvm.Cond.and c (allAtoms t)).before a st = _
    rw [Jvm.Cond.before_and, ih, List.all_cons]
def words1 : List Jvm.Cond := Jvm.Cond.code x code maxLocals ret :: tables_1
/-- a 'code' word, met by the world's own term for the bytes: nothing is compared byte by byte -/
theorem code_word {y : MethodName} {bytes : ByteArray} {mx : Nat} {rt : Option FieldType} {a : Array Value} {s : State} {m : MethodId} {meth : Method} {c : Code} (h1 : s.methodNamed? y = some m) (h2 : s.vm.method? m = some meth) (h3 : meth.code = some c) (h4 : c.code = bytes)
    (h5 : (c.maxLocals == mx && c.exceptionTable.isEmpty && decide (c.maxStack ≤ mostOperands) && decide (meth.sig.returnType = rt) && !meth.locks && decide (parseMethodDescriptor y.desc = some meth.sig)) = true) : (Jvm.Cond.code y bytes mx rt).before a s = true := by
  simp only [Bool.and_eq_true, beq_iff_eq, Bool.not_eq_true', decide_eq_true_eq] at h5
  obtain ⟨⟨⟨⟨⟨g1, g2⟩, g3⟩, g4⟩, g5⟩, g6⟩ := h5
  simp [Cond.before, Cond.holds, Cond.value, h1, h2, h3, h4, g1, g2, g3, g4, g5, g6]
def isCode : Jvm.Cond → Bool
  | .code _ _ _ _ => true
  | _ => false
theorem all_split {L : List Jvm.Cond} {P : Jvm.Cond → Bool} (h1 : L.all (fun c => isCode c || P c) = true) (h2 : ∀ c ∈ L.filter isCode, P c = true) : L.all P = true := by
  refine List.all_eq_true.mpr fun c hc => ?_
  have h := List.all_eq_true.mp h1 c hc
  rcases Bool.eq_false_or_eq_true (isCode c) with hi | hi
  · exact h2 c (List.mem_filter.mpr ⟨hc, hi⟩)
  · simpa [hi] using h
set_option maxRecDepth 65536 in
theorem w_c0 : (Jvm.Cond.code x code maxLocals ret).before args0 about1 = true := code_word (m := ⟨1, 1⟩) (meth := k1m1) (c := k1c1) (by decide +kernel) rfl rfl rfl (by decide +kernel)
set_option maxRecDepth 65536 in
theorem w_c1 : (Jvm.Cond.code ({ cls := "com/example/isoscope/isoscope/Edn$Char", name := "<init>", desc := "(I)V" } : Jvm.MethodName) prog_8_method_1_code (2 : Nat) (Option.none : Option Jvm.ClassFile.FieldType)).before args0 about1 = true := code_word (m := ⟨3, 0⟩) (meth := k3m0) (c := k3c0) (by decide +kernel) rfl rfl rfl (by decide +kernel)
set_option maxRecDepth 65536 in
theorem w_c2 : (Jvm.Cond.code ({ cls := "java/lang/Record", name := "<init>", desc := "()V" } : Jvm.MethodName) jdk_30_method_1_code (1 : Nat) (Option.none : Option Jvm.ClassFile.FieldType)).before args0 about1 = true := code_word (m := ⟨2, 0⟩) (meth := k2m0) (c := k2c0) (by decide +kernel) rfl rfl rfl (by decide +kernel)
set_option maxRecDepth 65536 in
theorem w_c3 : (Jvm.Cond.code ({ cls := "java/lang/Object", name := "<init>", desc := "()V" } : Jvm.MethodName) object_method_1_code (1 : Nat) (Option.none : Option Jvm.ClassFile.FieldType)).before args0 about1 = true := code_word (m := ⟨0, 0⟩) (meth := k0m0) (c := k0c0) (by decide +kernel) rfl rfl rfl (by decide +kernel)
set_option maxRecDepth 65536 in
theorem w_c4 : (Jvm.Cond.code ({ cls := "com/example/isoscope/isoscope/Edn$Char", name := "toString", desc := "()Ljava/lang/String;" } : Jvm.MethodName) prog_8_method_2_code (2 : Nat) (Option.some (Jvm.ClassFile.FieldType.object "java/lang/String"))).before args0 about1 = true := code_word (m := ⟨3, 1⟩) (meth := k3m1) (c := k3c1) (by decide +kernel) rfl rfl rfl (by decide +kernel)
set_option maxRecDepth 65536 in
theorem w_c5 : (Jvm.Cond.code ({ cls := "java/lang/StringBuilder", name := "<init>", desc := "()V" } : Jvm.MethodName) jdk_67_method_1_code (1 : Nat) (Option.none : Option Jvm.ClassFile.FieldType)).before args0 about1 = true := code_word (m := ⟨12, 0⟩) (meth := k12m0) (c := k12c0) (by decide +kernel) rfl rfl rfl (by decide +kernel)
set_option maxRecDepth 65536 in
theorem w_c6 : (Jvm.Cond.code ({ cls := "java/lang/AbstractStringBuilder", name := "<init>", desc := "(I)V" } : Jvm.MethodName) jdk_68_method_2_code (2 : Nat) (Option.none : Option Jvm.ClassFile.FieldType)).before args0 about1 = true := code_word (m := ⟨11, 1⟩) (meth := k11m1) (c := k11c1) (by decide +kernel) rfl rfl rfl (by decide +kernel)
set_option maxRecDepth 65536 in
theorem w_c7 : (Jvm.Cond.code ({ cls := "java/lang/StringBuilder", name := "append", desc := "(Ljava/lang/String;)Ljava/lang/StringBuilder;" } : Jvm.MethodName) jdk_67_method_7_code (2 : Nat) (Option.some (Jvm.ClassFile.FieldType.object "java/lang/StringBuilder"))).before args0 about1 = true := code_word (m := ⟨12, 1⟩) (meth := k12m1) (c := k12c1) (by decide +kernel) rfl rfl rfl (by decide +kernel)
set_option maxRecDepth 65536 in
theorem w_c8 : (Jvm.Cond.code ({ cls := "java/lang/AbstractStringBuilder", name := "append", desc := "(Ljava/lang/String;)Ljava/lang/AbstractStringBuilder;" } : Jvm.MethodName) jdk_68_method_22_code (3 : Nat) (Option.some (Jvm.ClassFile.FieldType.object "java/lang/AbstractStringBuilder"))).before args0 about1 = true := code_word (m := ⟨11, 5⟩) (meth := k11m5) (c := k11c5) (by decide +kernel) rfl rfl rfl (by decide +kernel)
set_option maxRecDepth 65536 in
theorem w_c9 : (Jvm.Cond.code ({ cls := "java/lang/String", name := "length", desc := "()I" } : Jvm.MethodName) jdk_42_method_54_code (1 : Nat) (Option.some Jvm.ClassFile.FieldType.int)).before args0 about1 = true := code_word (m := ⟨9, 2⟩) (meth := k9m2) (c := k9c2) (by decide +kernel) rfl rfl rfl (by decide +kernel)
set_option maxRecDepth 65536 in
theorem w_c10 : (Jvm.Cond.code ({ cls := "java/lang/String", name := "coder", desc := "()B" } : Jvm.MethodName) jdk_42_method_152_code (1 : Nat) (Option.some Jvm.ClassFile.FieldType.byte)).before args0 about1 = true := code_word (m := ⟨9, 8⟩) (meth := k9m8) (c := k9c8) (by decide +kernel) rfl rfl rfl (by decide +kernel)
set_option maxRecDepth 65536 in
theorem w_c11 : (Jvm.Cond.code ({ cls := "java/lang/AbstractStringBuilder", name := "ensureCapacityInternal", desc := "(I)V" } : Jvm.MethodName) jdk_68_method_9_code (3 : Nat) (Option.none : Option Jvm.ClassFile.FieldType)).before args0 about1 = true := code_word (m := ⟨11, 3⟩) (meth := k11m3) (c := k11c3) (by decide +kernel) rfl rfl rfl (by decide +kernel)
set_option maxRecDepth 65536 in
theorem w_c12 : (Jvm.Cond.code ({ cls := "java/lang/AbstractStringBuilder", name := "putStringAt", desc := "(ILjava/lang/String;)V" } : Jvm.MethodName) jdk_68_method_73_code (3 : Nat) (Option.none : Option Jvm.ClassFile.FieldType)).before args0 about1 = true := code_word (m := ⟨11, 9⟩) (meth := k11m9) (c := k11c9) (by decide +kernel) rfl rfl rfl (by decide +kernel)
set_option maxRecDepth 65536 in
theorem w_c13 : (Jvm.Cond.code ({ cls := "java/lang/AbstractStringBuilder", name := "inflateIfNeededFor", desc := "(Ljava/lang/String;)V" } : Jvm.MethodName) jdk_68_method_71_code (2 : Nat) (Option.none : Option Jvm.ClassFile.FieldType)).before args0 about1 = true := code_word (m := ⟨11, 8⟩) (meth := k11m8) (c := k11c8) (by decide +kernel) rfl rfl rfl (by decide +kernel)
set_option maxRecDepth 65536 in
theorem w_c14 : (Jvm.Cond.code ({ cls := "java/lang/String", name := "getBytes", desc := "([BIB)V" } : Jvm.MethodName) jdk_42_method_147_code (4 : Nat) (Option.none : Option Jvm.ClassFile.FieldType)).before args0 about1 = true := code_word (m := ⟨9, 5⟩) (meth := k9m5) (c := k9c5) (by decide +kernel) rfl rfl rfl (by decide +kernel)
set_option maxRecDepth 65536 in
theorem w_c15 : (Jvm.Cond.code ({ cls := "java/lang/StringBuilder", name := "toString", desc := "()Ljava/lang/String;" } : Jvm.MethodName) jdk_67_method_42_code (1 : Nat) (Option.some (Jvm.ClassFile.FieldType.object "java/lang/String"))).before args0 about1 = true := code_word (m := ⟨12, 2⟩) (meth := k12m2) (c := k12c2) (by decide +kernel) rfl rfl rfl (by decide +kernel)
set_option maxRecDepth 65536 in
theorem w_c16 : (Jvm.Cond.code ({ cls := "java/lang/String", name := "<init>", desc := "(Ljava/lang/StringBuilder;)V" } : Jvm.MethodName) jdk_42_method_53_code (2 : Nat) (Option.none : Option Jvm.ClassFile.FieldType)).before args0 about1 = true := code_word (m := ⟨9, 1⟩) (meth := k9m1) (c := k9c1) (by decide +kernel) rfl rfl rfl (by decide +kernel)
set_option maxRecDepth 65536 in
theorem w_c17 : (Jvm.Cond.code ({ cls := "java/lang/String", name := "<init>", desc := "(Ljava/lang/AbstractStringBuilder;Ljava/lang/Void;)V" } : Jvm.MethodName) jdk_42_method_150_code (5 : Nat) (Option.none : Option Jvm.ClassFile.FieldType)).before args0 about1 = true := code_word (m := ⟨9, 6⟩) (meth := k9m6) (c := k9c6) (by decide +kernel) rfl rfl rfl (by decide +kernel)
set_option maxRecDepth 65536 in
theorem w_c18 : (Jvm.Cond.code ({ cls := "java/lang/AbstractStringBuilder", name := "getValue", desc := "()[B" } : Jvm.MethodName) jdk_68_method_64_code (1 : Nat) (Option.some (Jvm.ClassFile.FieldType.array Jvm.ClassFile.FieldType.byte))).before args0 about1 = true := code_word (m := ⟨11, 6⟩) (meth := k11m6) (c := k11c6) (by decide +kernel) rfl rfl rfl (by decide +kernel)
set_option maxRecDepth 65536 in
theorem w_c19 : (Jvm.Cond.code ({ cls := "java/lang/StringBuilder", name := "length", desc := "()I" } : Jvm.MethodName) jdk_67_method_93_code (1 : Nat) (Option.some Jvm.ClassFile.FieldType.int)).before args0 about1 = true := code_word (m := ⟨12, 3⟩) (meth := k12m3) (c := k12c3) (by decide +kernel) rfl rfl rfl (by decide +kernel)
set_option maxRecDepth 65536 in
theorem w_c20 : (Jvm.Cond.code ({ cls := "java/lang/AbstractStringBuilder", name := "length", desc := "()I" } : Jvm.MethodName) jdk_68_method_6_code (1 : Nat) (Option.some Jvm.ClassFile.FieldType.int)).before args0 about1 = true := code_word (m := ⟨11, 2⟩) (meth := k11m2) (c := k11c2) (by decide +kernel) rfl rfl rfl (by decide +kernel)
set_option maxRecDepth 65536 in
theorem w_c21 : (Jvm.Cond.code ({ cls := "java/lang/AbstractStringBuilder", name := "isLatin1", desc := "()Z" } : Jvm.MethodName) jdk_68_method_68_code (1 : Nat) (Option.some Jvm.ClassFile.FieldType.boolean)).before args0 about1 = true := code_word (m := ⟨11, 7⟩) (meth := k11m7) (c := k11c7) (by decide +kernel) rfl rfl rfl (by decide +kernel)
set_option maxRecDepth 65536 in
theorem w_c22 : (Jvm.Cond.code ({ cls := "java/util/Arrays", name := "copyOfRange", desc := "([BII)[B" } : Jvm.MethodName) jdk_65_method_132_code (3 : Nat) (Option.some (Jvm.ClassFile.FieldType.array Jvm.ClassFile.FieldType.byte))).before args0 about1 = true := code_word (m := ⟨14, 2⟩) (meth := k14m2) (c := k14c2) (by decide +kernel) rfl rfl rfl (by decide +kernel)
set_option maxRecDepth 65536 in
theorem w_c23 : (Jvm.Cond.code ({ cls := "java/util/Arrays", name := "copyOfRangeByte", desc := "([BII)[B" } : Jvm.MethodName) jdk_65_method_133_code (5 : Nat) (Option.some (Jvm.ClassFile.FieldType.array Jvm.ClassFile.FieldType.byte))).before args0 about1 = true := code_word (m := ⟨14, 3⟩) (meth := k14m3) (c := k14c3) (by decide +kernel) rfl rfl rfl (by decide +kernel)
set_option maxRecDepth 65536 in
theorem w_c24 : (Jvm.Cond.code ({ cls := "java/util/Arrays", name := "checkLength", desc := "(II)V" } : Jvm.MethodName) jdk_65_method_131_code (2 : Nat) (Option.none : Option Jvm.ClassFile.FieldType)).before args0 about1 = true := code_word (m := ⟨14, 1⟩) (meth := k14m1) (c := k14c1) (by decide +kernel) rfl rfl rfl (by decide +kernel)
set_option maxRecDepth 65536 in
theorem w_c25 : (Jvm.Cond.code ({ cls := "java/lang/Math", name := "min", desc := "(II)I" } : Jvm.MethodName) jdk_29_method_69_code (2 : Nat) (Option.some Jvm.ClassFile.FieldType.int)).before args0 about1 = true := code_word (m := ⟨15, 1⟩) (meth := k15m1) (c := k15c1) (by decide +kernel) rfl rfl rfl (by decide +kernel)
set_option maxRecDepth 65536 in
theorem w_c26 : (Jvm.Cond.code ({ cls := "java/lang/String", name := "equals", desc := "(Ljava/lang/Object;)Z" } : Jvm.MethodName) jdk_42_method_66_code (3 : Nat) (Option.some Jvm.ClassFile.FieldType.boolean)).before args0 about1 = true := code_word (m := ⟨9, 4⟩) (meth := k9m4) (c := k9c4) (by decide +kernel) rfl rfl rfl (by decide +kernel)
set_option maxRecDepth 65536 in
theorem w_c27 : (Jvm.Cond.code ({ cls := "java/lang/StringLatin1", name := "equals", desc := "([B[B)Z" } : Jvm.MethodName) jdk_43_method_13_code (3 : Nat) (Option.some Jvm.ClassFile.FieldType.boolean)).before args0 about1 = true := code_word (m := ⟨16, 3⟩) (meth := k16m3) (c := k16c3) (by decide +kernel) rfl rfl rfl (by decide +kernel)
set_option maxRecDepth 65536 in
theorem w_c28 : (Jvm.Cond.code ({ cls := "java/lang/Character", name := "toString", desc := "(I)Ljava/lang/String;" } : Jvm.MethodName) jdk_89_method_10_code (1 : Nat) (Option.some (Jvm.ClassFile.FieldType.object "java/lang/String"))).before args0 about1 = true := code_word (m := ⟨17, 0⟩) (meth := k17m0) (c := k17c0) (by decide +kernel) rfl rfl rfl (by decide +kernel)
set_option maxRecDepth 65536 in
theorem w_c29 : (Jvm.Cond.code ({ cls := "java/lang/String", name := "valueOfCodePoint", desc := "(I)Ljava/lang/String;" } : Jvm.MethodName) jdk_42_method_159_code (1 : Nat) (Option.some (Jvm.ClassFile.FieldType.object "java/lang/String"))).before args0 about1 = true := code_word (m := ⟨9, 12⟩) (meth := k9m12) (c := k9c12) (by decide +kernel) rfl rfl rfl (by decide +kernel)
set_option maxRecDepth 65536 in
theorem w_c30 : (Jvm.Cond.code ({ cls := "java/lang/StringLatin1", name := "canEncode", desc := "(I)Z" } : Jvm.MethodName) jdk_43_method_4_code (1 : Nat) (Option.some Jvm.ClassFile.FieldType.boolean)).before args0 about1 = true := code_word (m := ⟨16, 2⟩) (meth := k16m2) (c := k16c2) (by decide +kernel) rfl rfl rfl (by decide +kernel)
set_option maxRecDepth 65536 in
theorem w_c31 : (Jvm.Cond.code ({ cls := "java/lang/StringLatin1", name := "toBytes", desc := "(C)[B" } : Jvm.MethodName) jdk_43_method_46_code (1 : Nat) (Option.some (Jvm.ClassFile.FieldType.array Jvm.ClassFile.FieldType.byte))).before args0 about1 = true := code_word (m := ⟨16, 4⟩) (meth := k16m4) (c := k16c4) (by decide +kernel) rfl rfl rfl (by decide +kernel)
set_option maxRecDepth 65536 in
theorem w_c32 : (Jvm.Cond.code ({ cls := "java/lang/String", name := "<init>", desc := "([BB)V" } : Jvm.MethodName) jdk_42_method_151_code (3 : Nat) (Option.none : Option Jvm.ClassFile.FieldType)).before args0 about1 = true := code_word (m := ⟨9, 7⟩) (meth := k9m7) (c := k9c7) (by decide +kernel) rfl rfl rfl (by decide +kernel)
set_option maxRecDepth 65536 in
theorem w_c33 : (Jvm.Cond.code ({ cls := "java/lang/String", name := "charAt", desc := "(I)C" } : Jvm.MethodName) jdk_42_method_56_code (2 : Nat) (Option.some Jvm.ClassFile.FieldType.char)).before args0 about1 = true := code_word (m := ⟨9, 3⟩) (meth := k9m3) (c := k9c3) (by decide +kernel) rfl rfl rfl (by decide +kernel)
set_option maxRecDepth 65536 in
theorem w_c34 : (Jvm.Cond.code ({ cls := "java/lang/String", name := "isLatin1", desc := "()Z" } : Jvm.MethodName) jdk_42_method_154_code (1 : Nat) (Option.some Jvm.ClassFile.FieldType.boolean)).before args0 about1 = true := code_word (m := ⟨9, 9⟩) (meth := k9m9) (c := k9c9) (by decide +kernel) rfl rfl rfl (by decide +kernel)
set_option maxRecDepth 65536 in
theorem w_c35 : (Jvm.Cond.code ({ cls := "java/lang/StringLatin1", name := "charAt", desc := "([BI)C" } : Jvm.MethodName) jdk_43_method_2_code (2 : Nat) (Option.some Jvm.ClassFile.FieldType.char)).before args0 about1 = true := code_word (m := ⟨16, 1⟩) (meth := k16m1) (c := k16c1) (by decide +kernel) rfl rfl rfl (by decide +kernel)
set_option maxRecDepth 65536 in
theorem w_c36 : (Jvm.Cond.code ({ cls := "java/lang/String", name := "checkIndex", desc := "(II)V" } : Jvm.MethodName) jdk_42_method_155_code (2 : Nat) (Option.none : Option Jvm.ClassFile.FieldType)).before args0 about1 = true := code_word (m := ⟨9, 10⟩) (meth := k9m10) (c := k9c10) (by decide +kernel) rfl rfl rfl (by decide +kernel)
set_option maxRecDepth 65536 in
theorem w_c37 : (Jvm.Cond.code ({ cls := "jdk/internal/util/Preconditions", name := "checkIndex", desc := "(IILjava/util/function/BiFunction;)I" } : Jvm.MethodName) jdk_41_method_11_code (3 : Nat) (Option.some Jvm.ClassFile.FieldType.int)).before args0 about1 = true := code_word (m := ⟨18, 1⟩) (meth := k18m1) (c := k18c1) (by decide +kernel) rfl rfl rfl (by decide +kernel)
set_option maxRecDepth 65536 in
theorem w_c38 : (Jvm.Cond.code ({ cls := "java/lang/Character", name := "isBmpCodePoint", desc := "(I)Z" } : Jvm.MethodName) jdk_89_method_12_code (1 : Nat) (Option.some Jvm.ClassFile.FieldType.boolean)).before args0 about1 = true := code_word (m := ⟨17, 1⟩) (meth := k17m1) (c := k17c1) (by decide +kernel) rfl rfl rfl (by decide +kernel)
set_option maxRecDepth 65536 in
theorem w_c39 : (Jvm.Cond.code ({ cls := "java/lang/Character", name := "isSupplementaryCodePoint", desc := "(I)Z" } : Jvm.MethodName) jdk_89_method_13_code (1 : Nat) (Option.some Jvm.ClassFile.FieldType.boolean)).before args0 about1 = true := code_word (m := ⟨17, 2⟩) (meth := k17m2) (c := k17c2) (by decide +kernel) rfl rfl rfl (by decide +kernel)
set_option maxRecDepth 65536 in
theorem w_c40 : (Jvm.Cond.code ({ cls := "java/lang/StringUTF16", name := "toBytesSupplementary", desc := "(I)[B" } : Jvm.MethodName) jdk_52_method_25_code (2 : Nat) (Option.some (Jvm.ClassFile.FieldType.array Jvm.ClassFile.FieldType.byte))).before args0 about1 = true := code_word (m := ⟨19, 7⟩) (meth := k19m7) (c := k19c7) (by decide +kernel) rfl rfl rfl (by decide +kernel)
set_option maxRecDepth 65536 in
theorem w_c41 : (Jvm.Cond.code ({ cls := "java/lang/Character", name := "highSurrogate", desc := "(I)C" } : Jvm.MethodName) jdk_89_method_28_code (1 : Nat) (Option.some Jvm.ClassFile.FieldType.char)).before args0 about1 = true := code_word (m := ⟨17, 3⟩) (meth := k17m3) (c := k17c3) (by decide +kernel) rfl rfl rfl (by decide +kernel)
set_option maxRecDepth 65536 in
theorem w_c42 : (Jvm.Cond.code ({ cls := "java/lang/StringUTF16", name := "putChar", desc := "([BII)V" } : Jvm.MethodName) jdk_52_method_4_code (3 : Nat) (Option.none : Option Jvm.ClassFile.FieldType)).before args0 about1 = true := code_word (m := ⟨19, 3⟩) (meth := k19m3) (c := k19c3) (by decide +kernel) rfl rfl rfl (by decide +kernel)
set_option maxRecDepth 65536 in
theorem w_c43 : (Jvm.Cond.code ({ cls := "java/lang/Character", name := "lowSurrogate", desc := "(I)C" } : Jvm.MethodName) jdk_89_method_29_code (1 : Nat) (Option.some Jvm.ClassFile.FieldType.char)).before args0 about1 = true := code_word (m := ⟨17, 4⟩) (meth := k17m4) (c := k17c4) (by decide +kernel) rfl rfl rfl (by decide +kernel)
set_option maxRecDepth 65536 in
theorem w_c44 : (Jvm.Cond.code ({ cls := "java/lang/AbstractStringBuilder", name := "inflate", desc := "()V" } : Jvm.MethodName) jdk_68_method_11_code (2 : Nat) (Option.none : Option Jvm.ClassFile.FieldType)).before args0 about1 = true := code_word (m := ⟨11, 4⟩) (meth := k11m4) (c := k11c4) (by decide +kernel) rfl rfl rfl (by decide +kernel)
set_option maxRecDepth 65536 in
theorem w_c45 : (Jvm.Cond.code ({ cls := "java/lang/StringUTF16", name := "newBytesFor", desc := "(I)[B" } : Jvm.MethodName) jdk_52_method_2_code (1 : Nat) (Option.some (Jvm.ClassFile.FieldType.array Jvm.ClassFile.FieldType.byte))).before args0 about1 = true := code_word (m := ⟨19, 1⟩) (meth := k19m1) (c := k19c1) (by decide +kernel) rfl rfl rfl (by decide +kernel)
set_option maxRecDepth 65536 in
theorem w_c46 : (Jvm.Cond.code ({ cls := "java/lang/StringUTF16", name := "newBytesLength", desc := "(I)I" } : Jvm.MethodName) jdk_52_method_3_code (1 : Nat) (Option.some Jvm.ClassFile.FieldType.int)).before args0 about1 = true := code_word (m := ⟨19, 2⟩) (meth := k19m2) (c := k19c2) (by decide +kernel) rfl rfl rfl (by decide +kernel)
set_option maxRecDepth 65536 in
theorem w_c47 : (Jvm.Cond.code ({ cls := "java/lang/StringLatin1", name := "inflate", desc := "([BI[BII)V" } : Jvm.MethodName) jdk_43_method_50_code (5 : Nat) (Option.none : Option Jvm.ClassFile.FieldType)).before args0 about1 = true := code_word (m := ⟨16, 5⟩) (meth := k16m5) (c := k16c5) (by decide +kernel) rfl rfl rfl (by decide +kernel)
set_option maxRecDepth 65536 in
theorem w_c48 : (Jvm.Cond.code ({ cls := "java/lang/StringUTF16", name := "inflate", desc := "([BI[BII)V" } : Jvm.MethodName) jdk_52_method_86_code (6 : Nat) (Option.none : Option Jvm.ClassFile.FieldType)).before args0 about1 = true := code_word (m := ⟨19, 9⟩) (meth := k19m9) (c := k19c9) (by decide +kernel) rfl rfl rfl (by decide +kernel)
set_option maxRecDepth 65536 in
theorem w_c49 : (Jvm.Cond.code ({ cls := "java/lang/StringUTF16", name := "checkBoundsOffCount", desc := "(II[B)V" } : Jvm.MethodName) jdk_52_method_94_code (3 : Nat) (Option.none : Option Jvm.ClassFile.FieldType)).before args0 about1 = true := code_word (m := ⟨19, 11⟩) (meth := k19m11) (c := k19c11) (by decide +kernel) rfl rfl rfl (by decide +kernel)
set_option maxRecDepth 65536 in
theorem w_c50 : (Jvm.Cond.code ({ cls := "java/lang/StringUTF16", name := "length", desc := "([B)I" } : Jvm.MethodName) jdk_52_method_6_code (1 : Nat) (Option.some Jvm.ClassFile.FieldType.int)).before args0 about1 = true := code_word (m := ⟨19, 5⟩) (meth := k19m5) (c := k19c5) (by decide +kernel) rfl rfl rfl (by decide +kernel)
set_option maxRecDepth 65536 in
theorem w_c51 : (Jvm.Cond.code ({ cls := "java/lang/String", name := "checkBoundsOffCount", desc := "(III)I" } : Jvm.MethodName) jdk_42_method_157_code (3 : Nat) (Option.some Jvm.ClassFile.FieldType.int)).before args0 about1 = true := code_word (m := ⟨9, 11⟩) (meth := k9m11) (c := k9c11) (by decide +kernel) rfl rfl rfl (by decide +kernel)
set_option maxRecDepth 65536 in
theorem w_c52 : (Jvm.Cond.code ({ cls := "jdk/internal/util/Preconditions", name := "checkFromIndexSize", desc := "(IIILjava/util/function/BiFunction;)I" } : Jvm.MethodName) jdk_41_method_13_code (4 : Nat) (Option.some Jvm.ClassFile.FieldType.int)).before args0 about1 = true := code_word (m := ⟨18, 2⟩) (meth := k18m2) (c := k18c2) (by decide +kernel) rfl rfl rfl (by decide +kernel)
set_option maxRecDepth 65536 in
theorem w_c53 : (Jvm.Cond.code ({ cls := "java/lang/StringUTF16", name := "charAt", desc := "([BI)C" } : Jvm.MethodName) jdk_52_method_83_code (2 : Nat) (Option.some Jvm.ClassFile.FieldType.char)).before args0 about1 = true := code_word (m := ⟨19, 8⟩) (meth := k19m8) (c := k19c8) (by decide +kernel) rfl rfl rfl (by decide +kernel)
set_option maxRecDepth 65536 in
theorem w_c54 : (Jvm.Cond.code ({ cls := "java/lang/StringUTF16", name := "checkIndex", desc := "(I[B)V" } : Jvm.MethodName) jdk_52_method_91_code (2 : Nat) (Option.none : Option Jvm.ClassFile.FieldType)).before args0 about1 = true := code_word (m := ⟨19, 10⟩) (meth := k19m10) (c := k19c10) (by decide +kernel) rfl rfl rfl (by decide +kernel)
set_option maxRecDepth 65536 in
theorem w_c55 : (Jvm.Cond.code ({ cls := "java/lang/StringUTF16", name := "getChar", desc := "([BI)C" } : Jvm.MethodName) jdk_52_method_5_code (2 : Nat) (Option.some Jvm.ClassFile.FieldType.char)).before args0 about1 = true := code_word (m := ⟨19, 4⟩) (meth := k19m4) (c := k19c4) (by decide +kernel) rfl rfl rfl (by decide +kernel)
set_option maxRecDepth 65536 in
theorem w_c56 : (Jvm.Cond.code ({ cls := "java/lang/StringUTF16", name := "toBytes", desc := "(C)[B" } : Jvm.MethodName) jdk_52_method_24_code (2 : Nat) (Option.some (Jvm.ClassFile.FieldType.array Jvm.ClassFile.FieldType.byte))).before args0 about1 = true := code_word (m := ⟨19, 6⟩) (meth := k19m6) (c := k19c6) (by decide +kernel) rfl rfl rfl (by decide +kernel)
def codes1 : List Jvm.Cond := [Jvm.Cond.code x code maxLocals ret, Jvm.Cond.code ({ cls := "com/example/isoscope/isoscope/Edn$Char", name := "<init>", desc := "(I)V" } : Jvm.MethodName) prog_8_method_1_code (2 : Nat) (Option.none : Option Jvm.ClassFile.FieldType), Jvm.Cond.code ({ cls := "java/lang/Record", name := "<init>", desc := "()V" } : Jvm.MethodName) jdk_30_method_1_code (1 : Nat) (Option.none : Option Jvm.ClassFile.FieldType), Jvm.Cond.code ({ cls := "java/lang/Object", name := "<init>", desc := "()V" } : Jvm.MethodName) object_method_1_code (1 : Nat) (Option.none : Option Jvm.ClassFile.FieldType), Jvm.Cond.code ({ cls := "com/example/isoscope/isoscope/Edn$Char", name := "toString", desc := "()Ljava/lang/String;" } : Jvm.MethodName) prog_8_method_2_code (2 : Nat) (Option.some (Jvm.ClassFile.FieldType.object "java/lang/String")), Jvm.Cond.code ({ cls := "java/lang/StringBuilder", name := "<init>", desc := "()V" } : Jvm.MethodName) jdk_67_method_1_code (1 : Nat) (Option.none : Option Jvm.ClassFile.FieldType), Jvm.Cond.code ({ cls := "java/lang/AbstractStringBuilder", name := "<init>", desc := "(I)V" } : Jvm.MethodName) jdk_68_method_2_code (2 : Nat) (Option.none : Option Jvm.ClassFile.FieldType), Jvm.Cond.code ({ cls := "java/lang/StringBuilder", name := "append", desc := "(Ljava/lang/String;)Ljava/lang/StringBuilder;" } : Jvm.MethodName) jdk_67_method_7_code (2 : Nat) (Option.some (Jvm.ClassFile.FieldType.object "java/lang/StringBuilder")), Jvm.Cond.code ({ cls := "java/lang/AbstractStringBuilder", name := "append", desc := "(Ljava/lang/String;)Ljava/lang/AbstractStringBuilder;" } : Jvm.MethodName) jdk_68_method_22_code (3 : Nat) (Option.some (Jvm.ClassFile.FieldType.object "java/lang/AbstractStringBuilder")), Jvm.Cond.code ({ cls := "java/lang/String", name := "length", desc := "()I" } : Jvm.MethodName) jdk_42_method_54_code (1 : Nat) (Option.some Jvm.ClassFile.FieldType.int), Jvm.Cond.code ({ cls := "java/lang/String", name := "coder", desc := "()B" } : Jvm.MethodName) jdk_42_method_152_code (1 : Nat) (Option.some Jvm.ClassFile.FieldType.byte), Jvm.Cond.code ({ cls := "java/lang/AbstractStringBuilder", name := "ensureCapacityInternal", desc := "(I)V" } : Jvm.MethodName) jdk_68_method_9_code (3 : Nat) (Option.none : Option Jvm.ClassFile.FieldType), Jvm.Cond.code ({ cls := "java/lang/AbstractStringBuilder", name := "putStringAt", desc := "(ILjava/lang/String;)V" } : Jvm.MethodName) jdk_68_method_73_code (3 : Nat) (Option.none : Option Jvm.ClassFile.FieldType), Jvm.Cond.code ({ cls := "java/lang/AbstractStringBuilder", name := "inflateIfNeededFor", desc := "(Ljava/lang/String;)V" } : Jvm.MethodName) jdk_68_method_71_code (2 : Nat) (Option.none : Option Jvm.ClassFile.FieldType), Jvm.Cond.code ({ cls := "java/lang/String", name := "getBytes", desc := "([BIB)V" } : Jvm.MethodName) jdk_42_method_147_code (4 : Nat) (Option.none : Option Jvm.ClassFile.FieldType), Jvm.Cond.code ({ cls := "java/lang/StringBuilder", name := "toString", desc := "()Ljava/lang/String;" } : Jvm.MethodName) jdk_67_method_42_code (1 : Nat) (Option.some (Jvm.ClassFile.FieldType.object "java/lang/String")), Jvm.Cond.code ({ cls := "java/lang/String", name := "<init>", desc := "(Ljava/lang/StringBuilder;)V" } : Jvm.MethodName) jdk_42_method_53_code (2 : Nat) (Option.none : Option Jvm.ClassFile.FieldType), Jvm.Cond.code ({ cls := "java/lang/String", name := "<init>", desc := "(Ljava/lang/AbstractStringBuilder;Ljava/lang/Void;)V" } : Jvm.MethodName) jdk_42_method_150_code (5 : Nat) (Option.none : Option Jvm.ClassFile.FieldType), Jvm.Cond.code ({ cls := "java/lang/AbstractStringBuilder", name := "getValue", desc := "()[B" } : Jvm.MethodName) jdk_68_method_64_code (1 : Nat) (Option.some (Jvm.ClassFile.FieldType.array Jvm.ClassFile.FieldType.byte)), Jvm.Cond.code ({ cls := "java/lang/StringBuilder", name := "length", desc := "()I" } : Jvm.MethodName) jdk_67_method_93_code (1 : Nat) (Option.some Jvm.ClassFile.FieldType.int), Jvm.Cond.code ({ cls := "java/lang/AbstractStringBuilder", name := "length", desc := "()I" } : Jvm.MethodName) jdk_68_method_6_code (1 : Nat) (Option.some Jvm.ClassFile.FieldType.int), Jvm.Cond.code ({ cls := "java/lang/AbstractStringBuilder", name := "isLatin1", desc := "()Z" } : Jvm.MethodName) jdk_68_method_68_code (1 : Nat) (Option.some Jvm.ClassFile.FieldType.boolean), Jvm.Cond.code ({ cls := "java/util/Arrays", name := "copyOfRange", desc := "([BII)[B" } : Jvm.MethodName) jdk_65_method_132_code (3 : Nat) (Option.some (Jvm.ClassFile.FieldType.array Jvm.ClassFile.FieldType.byte)), Jvm.Cond.code ({ cls := "java/util/Arrays", name := "copyOfRangeByte", desc := "([BII)[B" } : Jvm.MethodName) jdk_65_method_133_code (5 : Nat) (Option.some (Jvm.ClassFile.FieldType.array Jvm.ClassFile.FieldType.byte)), Jvm.Cond.code ({ cls := "java/util/Arrays", name := "checkLength", desc := "(II)V" } : Jvm.MethodName) jdk_65_method_131_code (2 : Nat) (Option.none : Option Jvm.ClassFile.FieldType), Jvm.Cond.code ({ cls := "java/lang/Math", name := "min", desc := "(II)I" } : Jvm.MethodName) jdk_29_method_69_code (2 : Nat) (Option.some Jvm.ClassFile.FieldType.int), Jvm.Cond.code ({ cls := "java/lang/String", name := "equals", desc := "(Ljava/lang/Object;)Z" } : Jvm.MethodName) jdk_42_method_66_code (3 : Nat) (Option.some Jvm.ClassFile.FieldType.boolean), Jvm.Cond.code ({ cls := "java/lang/StringLatin1", name := "equals", desc := "([B[B)Z" } : Jvm.MethodName) jdk_43_method_13_code (3 : Nat) (Option.some Jvm.ClassFile.FieldType.boolean), Jvm.Cond.code ({ cls := "java/lang/Character", name := "toString", desc := "(I)Ljava/lang/String;" } : Jvm.MethodName) jdk_89_method_10_code (1 : Nat) (Option.some (Jvm.ClassFile.FieldType.object "java/lang/String")), Jvm.Cond.code ({ cls := "java/lang/String", name := "valueOfCodePoint", desc := "(I)Ljava/lang/String;" } : Jvm.MethodName) jdk_42_method_159_code (1 : Nat) (Option.some (Jvm.ClassFile.FieldType.object "java/lang/String")), Jvm.Cond.code ({ cls := "java/lang/StringLatin1", name := "canEncode", desc := "(I)Z" } : Jvm.MethodName) jdk_43_method_4_code (1 : Nat) (Option.some Jvm.ClassFile.FieldType.boolean), Jvm.Cond.code ({ cls := "java/lang/StringLatin1", name := "toBytes", desc := "(C)[B" } : Jvm.MethodName) jdk_43_method_46_code (1 : Nat) (Option.some (Jvm.ClassFile.FieldType.array Jvm.ClassFile.FieldType.byte)), Jvm.Cond.code ({ cls := "java/lang/String", name := "<init>", desc := "([BB)V" } : Jvm.MethodName) jdk_42_method_151_code (3 : Nat) (Option.none : Option Jvm.ClassFile.FieldType), Jvm.Cond.code ({ cls := "java/lang/String", name := "charAt", desc := "(I)C" } : Jvm.MethodName) jdk_42_method_56_code (2 : Nat) (Option.some Jvm.ClassFile.FieldType.char), Jvm.Cond.code ({ cls := "java/lang/String", name := "isLatin1", desc := "()Z" } : Jvm.MethodName) jdk_42_method_154_code (1 : Nat) (Option.some Jvm.ClassFile.FieldType.boolean), Jvm.Cond.code ({ cls := "java/lang/StringLatin1", name := "charAt", desc := "([BI)C" } : Jvm.MethodName) jdk_43_method_2_code (2 : Nat) (Option.some Jvm.ClassFile.FieldType.char), Jvm.Cond.code ({ cls := "java/lang/String", name := "checkIndex", desc := "(II)V" } : Jvm.MethodName) jdk_42_method_155_code (2 : Nat) (Option.none : Option Jvm.ClassFile.FieldType), Jvm.Cond.code ({ cls := "jdk/internal/util/Preconditions", name := "checkIndex", desc := "(IILjava/util/function/BiFunction;)I" } : Jvm.MethodName) jdk_41_method_11_code (3 : Nat) (Option.some Jvm.ClassFile.FieldType.int), Jvm.Cond.code ({ cls := "java/lang/Character", name := "isBmpCodePoint", desc := "(I)Z" } : Jvm.MethodName) jdk_89_method_12_code (1 : Nat) (Option.some Jvm.ClassFile.FieldType.boolean), Jvm.Cond.code ({ cls := "java/lang/Character", name := "isSupplementaryCodePoint", desc := "(I)Z" } : Jvm.MethodName) jdk_89_method_13_code (1 : Nat) (Option.some Jvm.ClassFile.FieldType.boolean), Jvm.Cond.code ({ cls := "java/lang/StringUTF16", name := "toBytesSupplementary", desc := "(I)[B" } : Jvm.MethodName) jdk_52_method_25_code (2 : Nat) (Option.some (Jvm.ClassFile.FieldType.array Jvm.ClassFile.FieldType.byte)), Jvm.Cond.code ({ cls := "java/lang/Character", name := "highSurrogate", desc := "(I)C" } : Jvm.MethodName) jdk_89_method_28_code (1 : Nat) (Option.some Jvm.ClassFile.FieldType.char), Jvm.Cond.code ({ cls := "java/lang/StringUTF16", name := "putChar", desc := "([BII)V" } : Jvm.MethodName) jdk_52_method_4_code (3 : Nat) (Option.none : Option Jvm.ClassFile.FieldType), Jvm.Cond.code ({ cls := "java/lang/Character", name := "lowSurrogate", desc := "(I)C" } : Jvm.MethodName) jdk_89_method_29_code (1 : Nat) (Option.some Jvm.ClassFile.FieldType.char), Jvm.Cond.code ({ cls := "java/lang/AbstractStringBuilder", name := "inflate", desc := "()V" } : Jvm.MethodName) jdk_68_method_11_code (2 : Nat) (Option.none : Option Jvm.ClassFile.FieldType), Jvm.Cond.code ({ cls := "java/lang/StringUTF16", name := "newBytesFor", desc := "(I)[B" } : Jvm.MethodName) jdk_52_method_2_code (1 : Nat) (Option.some (Jvm.ClassFile.FieldType.array Jvm.ClassFile.FieldType.byte)), Jvm.Cond.code ({ cls := "java/lang/StringUTF16", name := "newBytesLength", desc := "(I)I" } : Jvm.MethodName) jdk_52_method_3_code (1 : Nat) (Option.some Jvm.ClassFile.FieldType.int), Jvm.Cond.code ({ cls := "java/lang/StringLatin1", name := "inflate", desc := "([BI[BII)V" } : Jvm.MethodName) jdk_43_method_50_code (5 : Nat) (Option.none : Option Jvm.ClassFile.FieldType), Jvm.Cond.code ({ cls := "java/lang/StringUTF16", name := "inflate", desc := "([BI[BII)V" } : Jvm.MethodName) jdk_52_method_86_code (6 : Nat) (Option.none : Option Jvm.ClassFile.FieldType), Jvm.Cond.code ({ cls := "java/lang/StringUTF16", name := "checkBoundsOffCount", desc := "(II[B)V" } : Jvm.MethodName) jdk_52_method_94_code (3 : Nat) (Option.none : Option Jvm.ClassFile.FieldType), Jvm.Cond.code ({ cls := "java/lang/StringUTF16", name := "length", desc := "([B)I" } : Jvm.MethodName) jdk_52_method_6_code (1 : Nat) (Option.some Jvm.ClassFile.FieldType.int), Jvm.Cond.code ({ cls := "java/lang/String", name := "checkBoundsOffCount", desc := "(III)I" } : Jvm.MethodName) jdk_42_method_157_code (3 : Nat) (Option.some Jvm.ClassFile.FieldType.int), Jvm.Cond.code ({ cls := "jdk/internal/util/Preconditions", name := "checkFromIndexSize", desc := "(IIILjava/util/function/BiFunction;)I" } : Jvm.MethodName) jdk_41_method_13_code (4 : Nat) (Option.some Jvm.ClassFile.FieldType.int), Jvm.Cond.code ({ cls := "java/lang/StringUTF16", name := "charAt", desc := "([BI)C" } : Jvm.MethodName) jdk_52_method_83_code (2 : Nat) (Option.some Jvm.ClassFile.FieldType.char), Jvm.Cond.code ({ cls := "java/lang/StringUTF16", name := "checkIndex", desc := "(I[B)V" } : Jvm.MethodName) jdk_52_method_91_code (2 : Nat) (Option.none : Option Jvm.ClassFile.FieldType), Jvm.Cond.code ({ cls := "java/lang/StringUTF16", name := "getChar", desc := "([BI)C" } : Jvm.MethodName) jdk_52_method_5_code (2 : Nat) (Option.some Jvm.ClassFile.FieldType.char), Jvm.Cond.code ({ cls := "java/lang/StringUTF16", name := "toBytes", desc := "(C)[B" } : Jvm.MethodName) jdk_52_method_24_code (2 : Nat) (Option.some (Jvm.ClassFile.FieldType.array Jvm.ClassFile.FieldType.byte))]
set_option maxRecDepth 65536 in
theorem codes_eq : words1.filter isCode = codes1 := rfl
theorem w_codes : ∀ c ∈ words1.filter isCode, c.before args0 about1 = true := by
  rw [codes_eq]
  intro c hc
  simp only [codes1, List.mem_cons, List.not_mem_nil, or_false] at hc
  rcases hc with rfl | rfl | rfl | rfl | rfl | rfl | rfl | rfl | rfl | rfl | rfl | rfl | rfl | rfl | rfl | rfl | rfl | rfl | rfl | rfl | rfl | rfl | rfl | rfl | rfl | rfl | rfl | rfl | rfl | rfl | rfl | rfl | rfl | rfl | rfl | rfl | rfl | rfl | rfl | rfl | rfl | rfl | rfl | rfl | rfl | rfl | rfl | rfl | rfl | rfl | rfl | rfl | rfl | rfl | rfl | rfl | rfl
  · exact w_c0
  · exact w_c1
  · exact w_c2
  · exact w_c3
  · exact w_c4
  · exact w_c5
  · exact w_c6
  · exact w_c7
  · exact w_c8
  · exact w_c9
  · exact w_c10
  · exact w_c11
  · exact w_c12
  · exact w_c13
  · exact w_c14
  · exact w_c15
  · exact w_c16
  · exact w_c17
  · exact w_c18
  · exact w_c19
  · exact w_c20
  · exact w_c21
  · exact w_c22
  · exact w_c23
  · exact w_c24
  · exact w_c25
  · exact w_c26
  · exact w_c27
  · exact w_c28
  · exact w_c29
  · exact w_c30
  · exact w_c31
  · exact w_c32
  · exact w_c33
  · exact w_c34
  · exact w_c35
  · exact w_c36
  · exact w_c37
  · exact w_c38
  · exact w_c39
  · exact w_c40
  · exact w_c41
  · exact w_c42
  · exact w_c43
  · exact w_c44
  · exact w_c45
  · exact w_c46
  · exact w_c47
  · exact w_c48
  · exact w_c49
  · exact w_c50
  · exact w_c51
  · exact w_c52
  · exact w_c53
  · exact w_c54
  · exact w_c55
  · exact w_c56
set_option maxRecDepth 65536 in
theorem w_t1 : (words1.take 24).all (fun c => isCode c || c.before args0 about1) = true := by decide +kernel
set_option maxRecDepth 65536 in
theorem w_t2 : ((words1.drop 24).take 24).all (fun c => isCode c || c.before args0 about1) = true := by decide +kernel
set_option maxRecDepth 65536 in
theorem w_t3 : (((words1.drop 24).drop 24).take 24).all (fun c => isCode c || c.before args0 about1) = true := by decide +kernel
set_option maxRecDepth 65536 in
theorem w_t4 : ((((words1.drop 24).drop 24).drop 24).take 24).all (fun c => isCode c || c.before args0 about1) = true := by decide +kernel
set_option maxRecDepth 65536 in
theorem w_t5 : (((((words1.drop 24).drop 24).drop 24).drop 24).take 24).all (fun c => isCode c || c.before args0 about1) = true := by decide +kernel
set_option maxRecDepth 65536 in
theorem w_t6 : ((((((words1.drop 24).drop 24).drop 24).drop 24).drop 24).take 24).all (fun c => isCode c || c.before args0 about1) = true := by decide +kernel
set_option maxRecDepth 65536 in
theorem w_t7 : (((((((words1.drop 24).drop 24).drop 24).drop 24).drop 24).drop 24).take 24).all (fun c => isCode c || c.before args0 about1) = true := by decide +kernel
set_option maxRecDepth 65536 in
theorem w_t8 : ((((((((words1.drop 24).drop 24).drop 24).drop 24).drop 24).drop 24).drop 24).take 24).all (fun c => isCode c || c.before args0 about1) = true := by decide +kernel
set_option maxRecDepth 65536 in
theorem w_t9 : (((((((((words1.drop 24).drop 24).drop 24).drop 24).drop 24).drop 24).drop 24).drop 24).take 24).all (fun c => isCode c || c.before args0 about1) = true := by decide +kernel
set_option maxRecDepth 65536 in
theorem w_t10 : ((((((((((words1.drop 24).drop 24).drop 24).drop 24).drop 24).drop 24).drop 24).drop 24).drop 24).take 24).all (fun c => isCode c || c.before args0 about1) = true := by decide +kernel
set_option maxRecDepth 65536 in
theorem w_t11 : (((((((((((words1.drop 24).drop 24).drop 24).drop 24).drop 24).drop 24).drop 24).drop 24).drop 24).drop 24).take 24).all (fun c => isCode c || c.before args0 about1) = true := by decide +kernel
set_option maxRecDepth 65536 in
theorem w_t12 : (((((((((((words1.drop 24).drop 24).drop 24).drop 24).drop 24).drop 24).drop 24).drop 24).drop 24).drop 24).drop 24).all (fun c => isCode c || c.before args0 about1) = true := by decide +kernel
theorem w_tables : (allAtoms (Jvm.Cond.code x code maxLocals ret :: tables_1)).before args0 about1 = true := by
  rw [allAtoms_all]
  show words1.all (fun c => c.before args0 about1) = true
  refine all_split ?_ w_codes
  rw [← List.take_append_drop 24 words1, List.all_append, w_t1, ← List.take_append_drop 24 (words1.drop 24), List.all_append, w_t2, ← List.take_append_drop 24 ((words1.drop 24).drop 24), List.all_append, w_t3, ← List.take_append_drop 24 (((words1.drop 24).drop 24).drop 24), List.all_append, w_t4, ← List.take_append_drop 24 ((((words1.drop 24).drop 24).drop 24).drop 24), List.all_append, w_t5, ← List.take_append_drop 24 (((((words1.drop 24).drop 24).drop 24).drop 24).drop 24), List.all_append, w_t6, ← List.take_append_drop 24 ((((((words1.drop 24).drop 24).drop 24).drop 24).drop 24).drop 24), List.all_append, w_t7, ← List.take_append_drop 24 (((((((words1.drop 24).drop 24).drop 24).drop 24).drop 24).drop 24).drop 24), List.all_append, w_t8, ← List.take_append_drop 24 ((((((((words1.drop 24).drop 24).drop 24).drop 24).drop 24).drop 24).drop 24).drop 24), List.all_append, w_t9, ← List.take_append_drop 24 (((((((((words1.drop 24).drop 24).drop 24).drop 24).drop 24).drop 24).drop 24).drop 24).drop 24), List.all_append, w_t10, ← List.take_append_drop 24 ((((((((((words1.drop 24).drop 24).drop 24).drop 24).drop 24).drop 24).drop 24).drop 24).drop 24).drop 24), List.all_append, w_t11, w_t12]
  rfl
set_option maxRecDepth 65536 in
theorem w_rest : rest_1_c.before args0 about1 = true := by decide +kernel
set_option maxRecDepth 65536 in
theorem w_case : (Jvm.Cond.and given_1 narrow_1).before args0 about1 = true := by decide +kernel
set_option maxRecDepth 65536 in
theorem w_consts : constsHeld consts_1 about1 := Jvm.Lit.constsHeldB_iff.mp (by decide +kernel)
theorem w_applies : (headSpec (Jvm.Cond.code x code maxLocals ret :: tables_1) room_1).applies x e0.platform about1 = true :=
  (Spec.applies_iff w_frames).mpr ⟨w_running, w_runnable, w_alone, w_named, w_hears, w_ripe, w_room, w_tables⟩
theorem atStart : AtStart classFile x code maxLocals ret World_1 tables_1 room_1 Calls_1 rest_1 Pre_1 launch0 p0 e0 about1 theMethod args0 below0 :=
  ⟨lists_1, trivial, launch0.admits_env _ _ _, launch0.least_env, fairChoices_fair.cas, fairChoices_fair.clock, w_frames, w_args, w_heap, w_applies, ⟨w_consts, trivial⟩, w_rest, w_case⟩
end start1
theorem witness_1 : WitnessClaimed_1 := ⟨start1.p0, start1.e0, start1.about1, start1.theMethod, start1.args0, start1.below0, start1.atStart⟩
end Jvm.Pilot.@@N@@
