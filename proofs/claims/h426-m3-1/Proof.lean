import JvmDerived
import JvmDerived.Pilot.@@N@@Statement
import JvmDerived.Pilot.@@N@@Code
set_option linter.unusedVariables false
set_option linter.unusedSimpArgs false
namespace Jvm.Pilot.@@N@@
open Jvm Jvm.ClassFile Sem Op Lib Jvm.Free Jvm.Stand Jvm.LawKit Jvm.RoadKit Bundle Jvm.Pilot.@@N@@.Jvm.D
section OwnKit
variable {p : Program} {l : Launch} {e : Env} {R : Room} {s : State} {m : MethodId} {args : Array Value} {below : List Frame} {meth : Method} {c : Code} {T : State} {locs : List Loc} {cells slots : Nat} {Z : State} {a0 : Array Value} {h h' h0 : Heap}
/-- the run comes, from the frame g over T, to an end of which F holds -/
def own_Go (tb : Tables) (e : Env) (below : List Frame) (F : State → Outcome → Prop) (T : State) (g : JFrame) : Prop := ∃ s₂ o, Steps tb e below (T.setTop g) s₂ ∧ F s₂ o
theorem own_st {tb : Tables} {F : State → Outcome → Prop} {T' : State} {g g' : JFrame} (st : ∀ t, Steps tb e below (T'.setTop g') t → Steps tb e below (T.setTop g) t) (k : own_Go tb e below F T' g') : own_Go tb e below F T g := by
  obtain ⟨a, o, h1, h2⟩ := k
  exact ⟨a, o, st a h1, h2⟩
/-- the end that a contract asks -/
def own_F (below : List Frame) (s : State) (Q : Option Value → Heap → List Loc → Prop) (C S : Nat) : State → Outcome → Prop := fun s₂ o => s₂.status = .running ∧ Ended s₂ below o ∧ ∃ v L, o = .returned v ∧ Q v s₂.heap L ∧ FrameEnd s o s₂ L C S
/-- what a body's walk knows of the body -/
def own_In (p : Program) (s : State) (m : MethodId) (meth : Method) (c : Code) (Z : State) (bytes : ByteArray) (maxL : Nat) (own nm : String) (ret : Option FieldType) : Prop := p.tables.exec = Jvm.exec ∧ c.code = bytes ∧ c.maxLocals = maxL ∧ s.vm.findClass own = some m.cls ∧ meth.name = nm ∧ meth.sig.returnType = ret ∧ meth.locks = false ∧ Z.Warmed39 s.vm
theorem own_enter {y : MethodName} {bytes : ByteArray} {maxL : Nat} {ret : Option FieldType} {ws : List Jvm.Cond} {rm : Room} {as' : Array Value} {Q : Option Value → Heap → List Loc → Prop} {C S : Nat} (hp : plainFor y = true)
    (body : ∀ (p : Program) (e : Env) (s : State) (m : MethodId) (below : List Frame) (meth : Method) (c : Code) (T : State), Stand p l e rm s m as' below meth c T [] 0 0 → own_In p s m meth c Z bytes maxL y.cls y.name ret → T.heap = h0 → own_Go p.tables e below (own_F below s Q C S) T (entryFrame m as' maxL)) :
    MetFree l y (head1 (Jvm.Cond.code y bytes maxL ret :: ws) rm) (fun a U => a = as' ∧ Z.Warmed39 U.vm ∧ U.heap = h0) (fun _ _ _ _ _ => True) (fun _ U o U' => ∃ v L, o = .returned v ∧ Q v U'.heap L ∧ FrameEnd U o U' L C S) := by
  refine MetFree.of_bodySF hp hisR ?_
  intro p e s m args below meth c s₁ Bd hml0 hP hK
  obtain ⟨rfl, hZ, hh⟩ := hP
  exact body p e s m below meth c s₁ (Stand.of_body Bd) ⟨Bd.exec, Bd.bytes, hml0, findClass_of_methodNamed Bd.named, (name_of_methodNamed Bd.named Bd.method).1, Bd.returns, Bd.notSynchronized, hZ⟩ (by rw [← hh, Bd.state]; rfl)
theorem own_cast {tb : Tables} {F : State → Outcome → Prop} {g g' : JFrame} (q : g = g') (k : own_Go tb e below F T g') : own_Go tb e below F T g := q ▸ k
/-- the end of a walk: a boolean, byte, char or short -/
theorem own_retN (X : Stand p l e R s m args below meth c T locs cells slots) (hx : p.tables.exec = Jvm.exec) {t : FieldType} (hret : meth.sig.returnType = some t) (ht : t = .boolean ∨ t = .byte ∨ t = .char ∨ t = .short) (hlk : meth.locks = false) {pc : Nat} {Ls : Array Slot} {z : Int32} {rest : List Value}
    (hd : decode c.code pc = .ok (.ireturn, 1)) {Q : Option Value → Heap → List Loc → Prop} {C S : Nat} (hQ : Q (some (.int (nar t z))) T.heap locs) (hC : cells ≤ C) (hS : slots ≤ S) : own_Go p.tables e below (own_F below s Q C S) T (mkF m pc Ls (.int z :: rest)) := by
  obtain ⟨fs, hr, hrun, hended, hW, hsame⟩ := X.leave (v := some (.int (nar t z))) (fun q => by rw [hret] at q; cases q)
  exact ⟨_, _, retN X hx hret ht hd hr, hrun, hended, _, _, rfl, hQ, ⟨_, rfl⟩, hW, hsame.mono hC hS⟩
theorem own_retO (X : Stand p l e R s m args below meth c T locs cells slots) (hx : p.tables.exec = Jvm.exec) {t : FieldType} (hret : meth.sig.returnType = some t) (hlk : meth.locks = false) {pc : Nat} {Ls : Array Slot} {w : Value} {i : Instr} {rest : List Value} (hn : narrow t w = w)
    (hi : (i = .ireturn ∧ (t = .int ∨ t = .boolean ∨ t = .byte ∨ t = .char ∨ t = .short) ∧ ∃ z, w = .int z) ∨ (i = .lreturn ∧ t = .long ∧ ∃ z, w = .long z) ∨ (i = .dreturn ∧ t = .double ∧ ∃ z, w = .double z) ∨ (i = .freturn ∧ t = .float ∧ ∃ z, w = .float z) ∨ (i = .areturn ∧ t.isReference = true ∧ w.isRef = true))
    (hd : decode c.code pc = .ok (i, 1)) {Q : Option Value → Heap → List Loc → Prop} {C S : Nat} (hQ : Q (some w) T.heap locs) (hC : cells ≤ C) (hS : slots ≤ S) : own_Go p.tables e below (own_F below s Q C S) T (mkF m pc Ls (w :: rest)) := by
  obtain ⟨fs, hr, hrun, hended, hW, hsame⟩ := X.leave (v := some w) (fun q => by rw [hret] at q; cases q)
  exact ⟨_, _, retOut X hx hret hn hi hd hr, hrun, hended, _, _, rfl, hQ, ⟨_, rfl⟩, hW, hsame.mono hC hS⟩
/-- a reference -/
theorem own_retA (X : Stand p l e R s m args below meth c T locs cells slots) (hx : p.tables.exec = Jvm.exec) {t : FieldType} (hret : meth.sig.returnType = some t) (ht : t.isReference = true) (hlk : meth.locks = false) {pc : Nat} {Ls : Array Slot} {w : Value} {rest : List Value} (hw : w.isRef = true)
    (hd : decode c.code pc = .ok (.areturn, 1)) {Q : Option Value → Heap → List Loc → Prop} {C S : Nat} (hQ : Q (some w) T.heap locs) (hC : cells ≤ C) (hS : slots ≤ S) : own_Go p.tables e below (own_F below s Q C S) T (mkF m pc Ls (w :: rest)) := by
  refine own_retO X hx hret hlk ?_ (Or.inr (Or.inr (Or.inr (Or.inr ⟨rfl, ht, hw⟩)))) hd hQ hC hS
  rcases ref_cases hw with rfl | ⟨a, rfl⟩ <;> cases t <;> first | rfl | (simp [FieldType.isReference] at ht)
/-- an int -/
theorem own_retI (X : Stand p l e R s m args below meth c T locs cells slots) (hx : p.tables.exec = Jvm.exec) (hret : meth.sig.returnType = some .int) (hlk : meth.locks = false) {pc : Nat} {Ls : Array Slot} {z : Int32} {rest : List Value}
    (hd : decode c.code pc = .ok (.ireturn, 1)) {Q : Option Value → Heap → List Loc → Prop} {C S : Nat} (hQ : Q (some (.int z)) T.heap locs) (hC : cells ≤ C) (hS : slots ≤ S) : own_Go p.tables e below (own_F below s Q C S) T (mkF m pc Ls (.int z :: rest)) :=
  own_retO X hx hret hlk rfl (Or.inl ⟨rfl, Or.inl rfl, z, rfl⟩) hd hQ hC hS
/-- nothing -/
theorem own_retV (X : Stand p l e R s m args below meth c T locs cells slots) (hx : p.tables.exec = Jvm.exec) (hret : meth.sig.returnType = none) (hlk : meth.locks = false) {pc : Nat} {Ls : Array Slot}
    (hd : decode c.code pc = .ok (.return_, 1)) {Q : Option Value → Heap → List Loc → Prop} {C S : Nat} (hQ : Q none T.heap locs) (hC : cells ≤ C) (hS : slots ≤ S) : own_Go p.tables e below (own_F below s Q C S) T (mkF m pc Ls []) := by
  obtain ⟨fs, hr, hrun, hended, hW, hsame⟩ := X.leave (v := none) (fun _ => rfl)
  exact ⟨_, _, X.returnOut hx hret hd hr, hrun, hended, _, _, rfl, hQ, ⟨_, rfl⟩, hW, hsame.mono hC hS⟩
/-- calls, each by its callee's contract -/
theorem own_callS (X : Stand p l e R s m args below meth c T locs cells slots) (hx : p.tables.exec = Jvm.exec) (hZ : Z.Warmed39 s.vm) {own : String} {index : Nat} {y : MethodName} {bytes : ByteArray} {maxL : Nat} {ret : Option FieldType} (hown : s.vm.findClass own = some m.cls)
    (w1 : (Jvm.Cond.methodLink own index y).before a0 Z = true) (w2 : (Jvm.Cond.static y).before a0 Z = true) (w3 : (Jvm.Cond.initialized y.cls).before a0 Z = true) (w4 : (Jvm.Cond.code y bytes maxL ret).before a0 Z = true) (hy : y.cls ≠ "java/lang/invoke/MethodHandle" ∧ y.cls ≠ "java/lang/invoke/VarHandle")
    {rm : Room} {as' : Array Value} {Q : Option Value → Heap → List Loc → Prop} (hM : MetFree l y (head1 [Jvm.Cond.code y bytes maxL ret] rm) (fun a U => a = as' ∧ Z.Warmed39 U.vm ∧ U.heap = h) (fun _ _ _ _ _ => True) (fun _ U o U' => ∃ v L, o = .returned v ∧ Q v U'.heap L ∧ FrameEnd U o U' L rm.cells rm.slots))
    (eT : T.heap = h) {g : JFrame} (hg : g.method = m) (hsize : g.locals.size = c.maxLocals) {argsL rest : List Value} (hlen : ∀ sig, parseMethodDescriptor y.desc = some sig → argsL.length = sig.parameters.length) (hstack : g.stack = argsL.reverse ++ rest) (has : argsL.toArray = as') {W : Nat} (hW : 2 * g.monitorRoom + (rest.map fun v => v.category).sum ≤ W)
    (hd : decode c.code g.pc = .ok (.invokestatic index, 3)) (hf : rm.frames + 1 ≤ R.frames) (hl : W + (maxL + 11) + rm.locals ≤ R.locals) (hc : cells + rm.cells ≤ R.cells) (hs : slots + rm.slots ≤ R.slots) :
    ∃ v T' L, Q v T'.heap L ∧ Stand p l e R s m args below meth c T' (locs ++ L) (cells + rm.cells) (slots + rm.slots) ∧ ∀ t, Steps p.tables e below (T'.setTop { g with pc := g.pc + 3, stack := v.toList ++ rest }) t → Steps p.tables e below (T.setTop g) t := by
  obtain ⟨v, vm₁, ⟨T', L', k', n'⟩, -, X', ⟨L, hQ, l1, y1, z1⟩, st⟩ := Jvm.LawKit.callS X hx (y := y) hown (mvT hZ w1) (mvT hZ w2) (mvT hZ w3) (mvT hZ w4) hy (backOf (W := W) hM hZ w4 w3 hf hl) hg hsize (argsL := argsL) (rest := rest) hlen hstack hW hd (fun _ _ => ⟨has, eT, hc, hs⟩)
  dsimp only [Pt.U, Pt.locs, Pt.cells, Pt.slots] at X' l1 y1 z1 st hQ
  subst l1 y1 z1
  exact ⟨v, T', L, hQ, X', st⟩
theorem own_callI (X : Stand p l e R s m args below meth c T locs cells slots) (hx : p.tables.exec = Jvm.exec) (hZ : Z.Warmed39 s.vm) {own : String} {index : Nat} {y : MethodName} {bytes : ByteArray} {maxL : Nat} (hn : y.name = "<init>") (hown : s.vm.findClass own = some m.cls)
    (w1 : (Jvm.Cond.methodLink own index y).before a0 Z = true) (w2 : (Jvm.Cond.instanceMethod y).before a0 Z = true) (w3 : (Jvm.Cond.initialized y.cls).before a0 Z = true) (w4 : (Jvm.Cond.code y bytes maxL none).before a0 Z = true) (hy : y.cls ≠ "java/lang/invoke/MethodHandle" ∧ y.cls ≠ "java/lang/invoke/VarHandle")
    {rm : Room} {as' : Array Value} {Q : Option Value → Heap → List Loc → Prop} (hM : MetFree l y (head1 [Jvm.Cond.code y bytes maxL none] rm) (fun a U => a = as' ∧ Z.Warmed39 U.vm ∧ U.heap = h) (fun _ _ _ _ _ => True) (fun _ U o U' => ∃ v L, o = .returned v ∧ Q v U'.heap L ∧ FrameEnd U o U' L rm.cells rm.slots))
    (eT : T.heap = h) {g : JFrame} (hg : g.method = m) (hsize : g.locals.size = c.maxLocals) {a : Addr} {argsL rest : List Value} (hlen : ∀ sig, parseMethodDescriptor y.desc = some sig → argsL.length = sig.parameters.length) (hstack : g.stack = argsL.reverse ++ .ref a :: rest) (has : (.ref a :: argsL).toArray = as') {W : Nat} (hW : 2 * g.monitorRoom + (rest.map fun v => v.category).sum ≤ W)
    (hd : decode c.code g.pc = .ok (.invokespecial index, 3)) (hf : rm.frames + 1 ≤ R.frames) (hl : W + (maxL + 11) + rm.locals ≤ R.locals) (hc : cells + rm.cells ≤ R.cells) (hs : slots + rm.slots ≤ R.slots) :
    ∃ v T' L, Q v T'.heap L ∧ Stand p l e R s m args below meth c T' (locs ++ L) (cells + rm.cells) (slots + rm.slots) ∧ ∀ t, Steps p.tables e below (T'.setTop { g with pc := g.pc + 3, stack := v.toList ++ rest }) t → Steps p.tables e below (T.setTop g) t := by
  obtain ⟨v, vm₁, ⟨T', L', k', n'⟩, -, X', ⟨L, hQ, l1, y1, z1⟩, st⟩ := X.specialBack hx (y := y) hn hown (mvT hZ w1) (mvT hZ w2) (mvT hZ w4) hy (backOf (W := W) hM hZ w4 w3 hf hl) hg hsize (Steps.refl _) (a := a) (argsL := argsL) (rest := rest) hlen hstack hW hd (fun _ _ => ⟨has, eT, hc, hs⟩)
  dsimp only [Pt.U, Pt.locs, Pt.cells, Pt.slots] at X' l1 y1 z1 st hQ
  subst l1 y1 z1
  exact ⟨v, T', L, hQ, X', fun t k => st.trans k⟩
theorem own_callV (X : Stand p l e R s m args below meth c T locs cells slots) (hx : p.tables.exec = Jvm.exec) (hZ : Z.Warmed39 s.vm) {own C : String} {index : Nat} {y : MethodName} {bytes : ByteArray} {maxL : Nat} {ret : Option FieldType} (hown : s.vm.findClass own = some m.cls)
    (w1 : (Jvm.Cond.methodLink own index y).before a0 Z = true) (w2 : (Jvm.Cond.declares y).before a0 Z = true) (w3 : (Jvm.Cond.selects C y y).before a0 Z = true) (w5 : (Jvm.Cond.instanceMethod y).before a0 Z = true) (w6 : (Jvm.Cond.initialized y.cls).before a0 Z = true) (w4 : (Jvm.Cond.code y bytes maxL ret).before a0 Z = true) (hy : y.cls ≠ "java/lang/invoke/MethodHandle" ∧ y.cls ≠ "java/lang/invoke/VarHandle")
    {rm : Room} {as' : Array Value} {Q : Option Value → Heap → List Loc → Prop} (hM : MetFree l y (head1 [Jvm.Cond.code y bytes maxL ret] rm) (fun a U => a = as' ∧ Z.Warmed39 U.vm ∧ U.heap = h) (fun _ _ _ _ _ => True) (fun _ U o U' => ∃ v L, o = .returned v ∧ Q v U'.heap L ∧ FrameEnd U o U' L rm.cells rm.slots))
    (eT : T.heap = h) {a : Addr} (E : Exa Z h a C) {g : JFrame} (hg : g.method = m) (hsize : g.locals.size = c.maxLocals) {argsL rest : List Value} (hlen : ∀ sig, parseMethodDescriptor y.desc = some sig → argsL.length = sig.parameters.length) (hstack : g.stack = argsL.reverse ++ .ref a :: rest) (has : (.ref a :: argsL).toArray = as') {W : Nat} (hW : 2 * g.monitorRoom + (rest.map fun v => v.category).sum ≤ W)
    (hd : decode c.code g.pc = .ok (.invokevirtual index, 3)) (hf : rm.frames + 1 ≤ R.frames) (hl : W + (maxL + 11) + rm.locals ≤ R.locals) (hc : cells + rm.cells ≤ R.cells) (hs : slots + rm.slots ≤ R.slots) :
    ∃ v T' L, Q v T'.heap L ∧ Stand p l e R s m args below meth c T' (locs ++ L) (cells + rm.cells) (slots + rm.slots) ∧ ∀ t, Steps p.tables e below (T'.setTop { g with pc := g.pc + 3, stack := v.toList ++ rest }) t → Steps p.tables e below (T.setTop g) t := by
  obtain ⟨cq, kq, qa, qb, qc⟩ := isOf hZ eT E
  obtain ⟨v, vm₁, ⟨T', L', k', n'⟩, -, X', ⟨L, hQ, l1, y1, z1⟩, st⟩ := X.virtualBack hx (y := y) (z := y) hown (mvT hZ w1) (mvT hZ w2) (notFace_of_selects (args := #[]) (mvT hZ w3)) (mvT hZ w3) (mvT hZ w5) hy (backOf (W := W) hM hZ w4 w6 hf hl) qa qc hg hsize (Steps.refl _) (argsL := argsL) (rest := rest) hlen hstack hW hd (fun _ _ => ⟨has, eT, hc, hs⟩)
  dsimp only [Pt.U, Pt.locs, Pt.cells, Pt.slots] at X' l1 y1 z1 st hQ
  subst l1 y1 z1
  exact ⟨v, T', L, hQ, X', fun t k => st.trans k⟩
/-- a method that a class above declares -/
theorem own_callU (X : Stand p l e R s m args below meth c T locs cells slots) (hx : p.tables.exec = Jvm.exec) (hZ : Z.Warmed39 s.vm) {own C owner : String} {index : Nat} {x y : MethodName} {bytes : ByteArray} {maxL : Nat} {ret : Option FieldType} (hown : s.vm.findClass own = some m.cls)
    (w1 : (Jvm.Cond.methodLink own index x).before a0 Z = true) (w0 : (Jvm.Cond.sameMethod x.cls owner x.name x.desc).before a0 Z = true) (w2 : (Jvm.Cond.declares ⟨owner, x.name, x.desc⟩).before a0 Z = true) (hy : owner ≠ "java/lang/invoke/MethodHandle" ∧ owner ≠ "java/lang/invoke/VarHandle") (w3 : (Jvm.Cond.selects C x y).before a0 Z = true) (w5 : (Jvm.Cond.instanceMethod y).before a0 Z = true) (w6 : (Jvm.Cond.initialized y.cls).before a0 Z = true) (w4 : (Jvm.Cond.code y bytes maxL ret).before a0 Z = true)
    {rm : Room} {as' : Array Value} {Q : Option Value → Heap → List Loc → Prop} (hM : MetFree l y (head1 [Jvm.Cond.code y bytes maxL ret] rm) (fun a U => a = as' ∧ Z.Warmed39 U.vm ∧ U.heap = h) (fun _ _ _ _ _ => True) (fun _ U o U' => ∃ v L, o = .returned v ∧ Q v U'.heap L ∧ FrameEnd U o U' L rm.cells rm.slots))
    (eT : T.heap = h) {a : Addr} (E : Exa Z h a C) {g : JFrame} (hg : g.method = m) (hsize : g.locals.size = c.maxLocals) {argsL rest : List Value} (hlen : ∀ sig, parseMethodDescriptor x.desc = some sig → argsL.length = sig.parameters.length) (hstack : g.stack = argsL.reverse ++ .ref a :: rest) (has : (.ref a :: argsL).toArray = as') {W : Nat} (hW : 2 * g.monitorRoom + (rest.map fun v => v.category).sum ≤ W)
    (hd : decode c.code g.pc = .ok (.invokevirtual index, 3)) (hf : rm.frames + 1 ≤ R.frames) (hl : W + (maxL + 11) + rm.locals ≤ R.locals) (hc : cells + rm.cells ≤ R.cells) (hs : slots + rm.slots ≤ R.slots) :
    ∃ v T' L, Q v T'.heap L ∧ Stand p l e R s m args below meth c T' (locs ++ L) (cells + rm.cells) (slots + rm.slots) ∧ ∀ t, Steps p.tables e below (T'.setTop { g with pc := g.pc + 3, stack := v.toList ++ rest }) t → Steps p.tables e below (T.setTop g) t := by
  obtain ⟨cq, kq, qa, qb, qc⟩ := isOf hZ eT E
  obtain ⟨v, vm₁, ⟨T', L', k', n'⟩, -, X', ⟨L, hQ, l1, y1, z1⟩, st⟩ := X.virtualBackUp hx (x := x) (y := y) hown (mvT hZ w1) (mvT hZ w0) (mvT hZ w2) hy (mvT hZ w3) (mvT hZ w5) (backOf (W := W) hM hZ w4 w6 hf hl) qa qc hg hsize (Steps.refl _) (argsL := argsL) (rest := rest) hlen hstack hW hd (fun _ _ => ⟨has, eT, hc, hs⟩)
  dsimp only [Pt.U, Pt.locs, Pt.cells, Pt.slots] at X' l1 y1 z1 st hQ
  subst l1 y1 z1
  exact ⟨v, T', L, hQ, X', fun t k => st.trans k⟩
/-- heaps -/
theorem own_extr (h : Heap) : Ext h h := ⟨Nat.le_refl _, fun _ _ q => q⟩
theorem own_extt (O : Ext h0 h) (E : Ext h h') : Ext h0 h' := ⟨Nat.le_trans O.1 E.1, fun a c q => E.2 a c (O.2 a c q)⟩
theorem own_extw (O : Ext h0 h) {a : Addr} {sl : Nat} {v : Value} (W : Wr h h' a sl v) (q : h0.size ≤ a) : Ext h0 h' :=
  ⟨Nat.le_trans O.1 (Keep.of_wr W).1, fun x c r => (Keep.of_wr W).2.1 x c (O.2 x c r) (fun z => by cases List.mem_singleton.mp z; exact absurd (Array.getElem?_eq_some_iff.mp r).1 (Nat.not_lt.mpr q))⟩
theorem own_extk (O : Ext h0 h) {a : Addr} (K : Keep h h' [a]) (q : h0.size ≤ a) : Ext h0 h' :=
  ⟨Nat.le_trans O.1 K.1, fun x c r => K.2.1 x c (O.2 x c r) (fun z => by cases List.mem_singleton.mp z; exact absurd (Array.getElem?_eq_some_iff.mp r).1 (Nat.not_lt.mpr q))⟩
/-- arrays: a store and a load by the array's fact -/
theorem own_stZ (X : Stand p l e R s m args below meth c T locs cells slots) (hx : p.tables.exec = Jvm.exec) (hZ : Z.Warmed39 s.vm) (eT : T.heap = h) {a : Addr} {k : ClassId} {n : Int32} {vs : List Value} {dv : Value} (V : Arv Z h a k .boolean n vs dv) {j x : Int32} (hj : ¬ j < 0 ∧ j < n) (i : Nat) (hi : j.toNatClampNeg = i) (hil : i < vs.length) {g : JFrame} (hg : g.method = m) {rest : List Value} (hs : g.stack = .int x :: .int j :: .ref a :: rest) (hd : decode c.code g.pc = .ok (.bastore, 1)) :
    ∃ T' h', Stand p l e R s m args below meth c T' (locs ++ [⟨a, j.toNatClampNeg⟩]) cells slots ∧ T'.heap = h' ∧ Wr h h' a j.toNatClampNeg (.int (nar .boolean x)) ∧ Arv Z h' a k .boolean n (vs.set i (.int (nar .boolean x))) dv ∧ ∀ t, Steps p.tables e below (T'.setTop { g with pc := g.pc + 1, stack := rest }) t → Steps p.tables e below (T.setTop g) t := by
  obtain ⟨cl, A, q1, S1, N1, H1, G1⟩ := V
  obtain ⟨T', h', X', e', W', st⟩ := stZ X hx hZ eT A (j := j) (inb_of S1 hj) hg hs hd
  exact ⟨T', h', X', e', W', Arv.set A q1 S1 N1 H1 G1 (fits_nar_bool x) W' i hi hil, st⟩
theorem own_stB (X : Stand p l e R s m args below meth c T locs cells slots) (hx : p.tables.exec = Jvm.exec) (hZ : Z.Warmed39 s.vm) (eT : T.heap = h) {a : Addr} {k : ClassId} {n : Int32} {vs : List Value} {dv : Value} (V : Arv Z h a k .byte n vs dv) {j x : Int32} (hj : ¬ j < 0 ∧ j < n) (i : Nat) (hi : j.toNatClampNeg = i) (hil : i < vs.length) {g : JFrame} (hg : g.method = m) {rest : List Value} (hs : g.stack = .int x :: .int j :: .ref a :: rest) (hd : decode c.code g.pc = .ok (.bastore, 1)) :
    ∃ T' h', Stand p l e R s m args below meth c T' (locs ++ [⟨a, j.toNatClampNeg⟩]) cells slots ∧ T'.heap = h' ∧ Wr h h' a j.toNatClampNeg (.int (nar .byte x)) ∧ Arv Z h' a k .byte n (vs.set i (.int (nar .byte x))) dv ∧ ∀ t, Steps p.tables e below (T'.setTop { g with pc := g.pc + 1, stack := rest }) t → Steps p.tables e below (T.setTop g) t := by
  obtain ⟨cl, A, q1, S1, N1, H1, G1⟩ := V
  obtain ⟨T', h', X', e', W', st⟩ := stB X hx hZ eT A (j := j) (inb_of S1 hj) hg hs hd
  exact ⟨T', h', X', e', W', Arv.set A q1 S1 N1 H1 G1 (fits_nar_byte x) W' i hi hil, st⟩
theorem own_stI (X : Stand p l e R s m args below meth c T locs cells slots) (hx : p.tables.exec = Jvm.exec) (hZ : Z.Warmed39 s.vm) (eT : T.heap = h) {a : Addr} {k : ClassId} {n : Int32} {vs : List Value} {dv : Value} (V : Arv Z h a k .int n vs dv) {j x : Int32} (hj : ¬ j < 0 ∧ j < n) (i : Nat) (hi : j.toNatClampNeg = i) (hil : i < vs.length) {g : JFrame} (hg : g.method = m) {rest : List Value} (hs : g.stack = .int x :: .int j :: .ref a :: rest) (hd : decode c.code g.pc = .ok (.iastore, 1)) :
    ∃ T' h', Stand p l e R s m args below meth c T' (locs ++ [⟨a, j.toNatClampNeg⟩]) cells slots ∧ T'.heap = h' ∧ Wr h h' a j.toNatClampNeg (.int x) ∧ Arv Z h' a k .int n (vs.set i (.int x)) dv ∧ ∀ t, Steps p.tables e below (T'.setTop { g with pc := g.pc + 1, stack := rest }) t → Steps p.tables e below (T.setTop g) t := by
  obtain ⟨cl, A, q1, S1, N1, H1, G1⟩ := V
  obtain ⟨T', h', X', e', W', st⟩ := stI X hx hZ eT A (j := j) (inb_of S1 hj) hg hs hd
  exact ⟨T', h', X', e', W', Arv.set A q1 S1 N1 H1 G1 rfl W' i hi hil, st⟩
theorem own_stC (X : Stand p l e R s m args below meth c T locs cells slots) (hx : p.tables.exec = Jvm.exec) (hZ : Z.Warmed39 s.vm) (eT : T.heap = h) {a : Addr} {k : ClassId} {n : Int32} {vs : List Value} {dv : Value} (V : Arv Z h a k .char n vs dv) {j x : Int32} (hj : ¬ j < 0 ∧ j < n) (i : Nat) (hi : j.toNatClampNeg = i) (hil : i < vs.length) {g : JFrame} (hg : g.method = m) {rest : List Value} (hs : g.stack = .int x :: .int j :: .ref a :: rest) (hd : decode c.code g.pc = .ok (.castore, 1)) :
    ∃ T' h', Stand p l e R s m args below meth c T' (locs ++ [⟨a, j.toNatClampNeg⟩]) cells slots ∧ T'.heap = h' ∧ Wr h h' a j.toNatClampNeg (.int (nar .char x)) ∧ Arv Z h' a k .char n (vs.set i (.int (nar .char x))) dv ∧ ∀ t, Steps p.tables e below (T'.setTop { g with pc := g.pc + 1, stack := rest }) t → Steps p.tables e below (T.setTop g) t := by
  obtain ⟨cl, A, q1, S1, N1, H1, G1⟩ := V
  obtain ⟨T', h', X', e', W', st⟩ := stC X hx hZ eT A (j := j) (inb_of S1 hj) hg hs hd
  exact ⟨T', h', X', e', W', Arv.set A q1 S1 N1 H1 G1 (fits_nar_char x) W' i hi hil, st⟩
theorem own_stR (X : Stand p l e R s m args below meth c T locs cells slots) (hx : p.tables.exec = Jvm.exec) (hZ : Z.Warmed39 s.vm) (eT : T.heap = h) {a : Addr} {k : ClassId} {ty : FieldType} {n : Int32} {vs : List Value} {dv : Value} (V : Arv Z h a k ty n vs dv) (hty : ty.isReference = true) {j : Int32} {v : Value} (hv : fits ty v = true) (hj : ¬ j < 0 ∧ j < n) (i : Nat) (hi : j.toNatClampNeg = i) (hil : i < vs.length) (F : ∀ cl : Cell, Arr Z h a cl ty → cl.cls = k → Sto Z h a v) {g : JFrame} (hg : g.method = m) {rest : List Value} (hs : g.stack = v :: .int j :: .ref a :: rest) (hd : decode c.code g.pc = .ok (.aastore, 1)) :
    ∃ T' h', Stand p l e R s m args below meth c T' (locs ++ [⟨a, j.toNatClampNeg⟩]) cells slots ∧ T'.heap = h' ∧ Wr h h' a j.toNatClampNeg v ∧ Arv Z h' a k ty n (vs.set i v) dv ∧ ∀ t, Steps p.tables e below (T'.setTop { g with pc := g.pc + 1, stack := rest }) t → Steps p.tables e below (T.setTop g) t := by
  obtain ⟨cl, A, q1, S1, N1, H1, G1⟩ := V
  obtain ⟨T', h', X', e', W', st⟩ := stR X hx hZ eT A (j := j) (inb_of S1 hj) hty (F cl A q1) hg hs hd
  exact ⟨T', h', X', e', W', Arv.set A q1 S1 N1 H1 G1 hv W' i hi hil, st⟩
theorem own_ldZ (X : Stand p l e R s m args below meth c T locs cells slots) (hx : p.tables.exec = Jvm.exec) (hZ : Z.Warmed39 s.vm) (eT : T.heap = h) {a : Addr} {k : ClassId} {n : Int32} {vs : List Value} {dv v : Value} (V : Arv Z h a k .boolean n vs dv) {j : Int32} (hj : ¬ j < 0 ∧ j < n) (hv : vs.getD j.toNatClampNeg dv = v) {g : JFrame} (hg : g.method = m) {rest : List Value} (hs : g.stack = .int j :: .ref a :: rest) (hd : decode c.code g.pc = .ok (.baload, 1)) :
    ∀ t, Steps p.tables e below (T.setTop { g with pc := g.pc + 1, stack := v :: rest }) t → Steps p.tables e below (T.setTop g) t := by
  obtain ⟨cl, A, q1, S1, N1, H1, G1⟩ := V
  exact X.baloadBooleans hx (by rw [eT]; exact A.1) (State.isArrayOf_alike hZ.alike A.2.1) A.2.2 (inb_of S1 hj) (H1.at (inb_of S1 hj) hv) hg hs hd
theorem own_ldB (X : Stand p l e R s m args below meth c T locs cells slots) (hx : p.tables.exec = Jvm.exec) (hZ : Z.Warmed39 s.vm) (eT : T.heap = h) {a : Addr} {k : ClassId} {n : Int32} {vs : List Value} {dv v : Value} (V : Arv Z h a k .byte n vs dv) {j : Int32} (hj : ¬ j < 0 ∧ j < n) (hv : vs.getD j.toNatClampNeg dv = v) {g : JFrame} (hg : g.method = m) {rest : List Value} (hs : g.stack = .int j :: .ref a :: rest) (hd : decode c.code g.pc = .ok (.baload, 1)) :
    ∀ t, Steps p.tables e below (T.setTop { g with pc := g.pc + 1, stack := v :: rest }) t → Steps p.tables e below (T.setTop g) t := by
  obtain ⟨cl, A, q1, S1, N1, H1, G1⟩ := V
  exact X.baloadBytes hx (by rw [eT]; exact A.1) (State.isArrayOf_alike hZ.alike A.2.1) A.2.2 (inb_of S1 hj) (H1.at (inb_of S1 hj) hv) hg hs hd
theorem own_ldI (X : Stand p l e R s m args below meth c T locs cells slots) (hx : p.tables.exec = Jvm.exec) (hZ : Z.Warmed39 s.vm) (eT : T.heap = h) {a : Addr} {k : ClassId} {n : Int32} {vs : List Value} {dv v : Value} (V : Arv Z h a k .int n vs dv) {j : Int32} (hj : ¬ j < 0 ∧ j < n) (hv : vs.getD j.toNatClampNeg dv = v) {g : JFrame} (hg : g.method = m) {rest : List Value} (hs : g.stack = .int j :: .ref a :: rest) (hd : decode c.code g.pc = .ok (.iaload, 1)) :
    ∀ t, Steps p.tables e below (T.setTop { g with pc := g.pc + 1, stack := v :: rest }) t → Steps p.tables e below (T.setTop g) t := by
  obtain ⟨cl, A, q1, S1, N1, H1, G1⟩ := V
  exact X.iaload hx (by rw [eT]; exact A.1) (State.isArrayOf_alike hZ.alike A.2.1) A.2.2 (inb_of S1 hj) (H1.at (inb_of S1 hj) hv) hg hs hd
theorem own_ldC (X : Stand p l e R s m args below meth c T locs cells slots) (hx : p.tables.exec = Jvm.exec) (hZ : Z.Warmed39 s.vm) (eT : T.heap = h) {a : Addr} {k : ClassId} {n : Int32} {vs : List Value} {dv v : Value} (V : Arv Z h a k .char n vs dv) {j : Int32} (hj : ¬ j < 0 ∧ j < n) (hv : vs.getD j.toNatClampNeg dv = v) {g : JFrame} (hg : g.method = m) {rest : List Value} (hs : g.stack = .int j :: .ref a :: rest) (hd : decode c.code g.pc = .ok (.caload, 1)) :
    ∀ t, Steps p.tables e below (T.setTop { g with pc := g.pc + 1, stack := v :: rest }) t → Steps p.tables e below (T.setTop g) t := by
  obtain ⟨cl, A, q1, S1, N1, H1, G1⟩ := V
  exact X.caload hx (by rw [eT]; exact A.1) (State.isArrayOf_alike hZ.alike A.2.1) A.2.2 (inb_of S1 hj) (H1.at (inb_of S1 hj) hv) hg hs hd
theorem own_ldR (X : Stand p l e R s m args below meth c T locs cells slots) (hx : p.tables.exec = Jvm.exec) (hZ : Z.Warmed39 s.vm) (eT : T.heap = h) {a : Addr} {k : ClassId} {ty : FieldType} {n : Int32} {vs : List Value} {dv v : Value} (V : Arv Z h a k ty n vs dv) (hty : ty.isReference = true) {j : Int32} (hj : ¬ j < 0 ∧ j < n) (hv : vs.getD j.toNatClampNeg dv = v) {g : JFrame} (hg : g.method = m) {rest : List Value} (hs : g.stack = .int j :: .ref a :: rest) (hd : decode c.code g.pc = .ok (.aaload, 1)) :
    ∀ t, Steps p.tables e below (T.setTop { g with pc := g.pc + 1, stack := v :: rest }) t → Steps p.tables e below (T.setTop g) t := by
  obtain ⟨cl, A, q1, S1, N1, H1, G1⟩ := V
  exact X.aaload hx (by rw [eT]; exact A.1) (State.isArrayOf_alike hZ.alike A.2.1) hty A.2.2 (inb_of S1 hj) (H1.at (inb_of S1 hj) hv) hg hs hd
theorem own_len (X : Stand p l e R s m args below meth c T locs cells slots) (hx : p.tables.exec = Jvm.exec) (hZ : Z.Warmed39 s.vm) (eT : T.heap = h) {a : Addr} {k : ClassId} {ty : FieldType} {n : Int32} {vs : List Value} {dv : Value} (V : Arv Z h a k ty n vs dv) {g : JFrame} (hg : g.method = m) {rest : List Value} (hs : g.stack = .ref a :: rest) (hd : decode c.code g.pc = .ok (.arraylength, 1)) :
    ∀ t, Steps p.tables e below (T.setTop { g with pc := g.pc + 1, stack := .int n :: rest }) t → Steps p.tables e below (T.setTop g) t := by
  obtain ⟨cl, A, q1, S1, N1, H1, G1⟩ := V
  intro t k
  refine X.arraylength hx (by rw [eT]; exact A.1) (State.isArrayOf_alike hZ.alike A.2.1) hg hs hd t ?_
  rw [len_of S1 N1]
  exact k
end OwnKit
section OwnWide
variable {p : Program} {l : Launch} {e : Env} {R : Room} {s : State} {m : MethodId} {args : Array Value} {below : List Frame} {meth : Method} {c : Code} {T : State} {locs : List Loc} {cells slots : Nat} {Z : State} {a0 : Array Value} {h h' h0 : Heap} {vm0 : Vm} {k0 : Nat}
/-- the end that a contract asks of a body that may load String constants -/
def own_FW (below : List Frame) (s : State) (Q : Option Value → Heap → Vm → List Loc → Prop) (C S : Nat) : State → Outcome → Prop := fun s₂ o => s₂.status = .running ∧ Ended s₂ below o ∧ ∃ v L, o = .returned v ∧ Q v s₂.heap s₂.vm L ∧ ReturnedEndW s o s₂ L C S
theorem own_enterW {y : MethodName} {bytes : ByteArray} {maxL : Nat} {ret : Option FieldType} {ws : List Jvm.Cond} {rm : Room} {as' : Array Value} {J : Vm → Prop} {Q : Option Value → Heap → Vm → List Loc → Prop} {C S : Nat} (hp : plainFor y = true)
    (body : ∀ (p : Program) (e : Env) (s : State) (m : MethodId) (below : List Frame) (meth : Method) (c : Code) (T : State), Stand p l e rm (s.setVm s.vm) m as' below meth c T [] 0 0 → own_In p (s.setVm s.vm) m meth c Z bytes maxL y.cls y.name ret → T.heap = h0 → s.heap = h0 → J s.vm → s.Since s.vm 0 → own_Go p.tables e below (own_FW below s Q C S) T (entryFrame m as' maxL)) :
    MetFree l y (head1 (Jvm.Cond.code y bytes maxL ret :: ws) rm) (fun a U => a = as' ∧ Z.Warmed39 U.vm ∧ U.heap = h0 ∧ J U.vm) (fun _ _ _ _ _ => True) (fun _ U o U' => ∃ v L, o = .returned v ∧ Q v U'.heap U'.vm L ∧ ReturnedEndW U o U' L C S) := by
  refine MetFree.of_bodySF hp hisR ?_
  intro p e s m args below meth c s₁ Bd hml0 hP hK
  obtain ⟨rfl, hZ, hh, hJ⟩ := hP
  exact body p e s m below meth c s₁ (Stand.of_body Bd) ⟨Bd.exec, Bd.bytes, hml0, findClass_of_methodNamed Bd.named, (name_of_methodNamed Bd.named Bd.method).1, Bd.returns, Bd.notSynchronized, hZ⟩ (by rw [← hh, Bd.state]; rfl) hh hJ ((State.WarmedH.refl s).since 0)
theorem own_endW (X : Stand p l e R (s.setVm vm0) m args below meth c T locs cells slots) (hS : s.Since vm0 k0) (hk : k0 ≤ T.heap.size) (hlk : meth.locks = false) {v : Option Value} (hv : meth.sig.returnType = none → v = none) {g : JFrame} {Q : Option Value → Heap → Vm → List Loc → Prop} {C S : Nat} (hQ : Q v T.heap T.vm locs) (hC : cells ≤ C) (hS' : slots ≤ S)
    (st : ∀ fs, (∀ (f : JFrame) (acts : List Action), f.method = m → f.locked = none → f.entered = [] → (doReturn e (T.setTop f) acts v).1 = T.setFrames fs) → Steps p.tables e below (T.setTop g) (T.setFrames fs)) : own_Go p.tables e below (own_FW below s Q C S) T g := by
  obtain ⟨fs, hr, hrun, hended, h1, h2, h3, h4⟩ := X.leaveW hS hk (v := v) hv
  exact ⟨_, _, st fs hr, hrun, hended, v, locs, rfl, hQ, h1, h2, h3, h4.mono hC hS'⟩
theorem own_retNW (X : Stand p l e R (s.setVm vm0) m args below meth c T locs cells slots) (hS : s.Since vm0 k0) (hk : k0 ≤ T.heap.size) (hx : p.tables.exec = Jvm.exec) {t : FieldType} (hret : meth.sig.returnType = some t) (ht : t = .boolean ∨ t = .byte ∨ t = .char ∨ t = .short) (hlk : meth.locks = false) {pc : Nat} {Ls : Array Slot} {z : Int32} {rest : List Value}
    (hd : decode c.code pc = .ok (.ireturn, 1)) {Q : Option Value → Heap → Vm → List Loc → Prop} {C S : Nat} (hQ : Q (some (.int (nar t z))) T.heap T.vm locs) (hC : cells ≤ C) (hS' : slots ≤ S) : own_Go p.tables e below (own_FW below s Q C S) T (mkF m pc Ls (.int z :: rest)) :=
  own_endW X hS hk hlk (fun q => by rw [hret] at q; cases q) hQ hC hS' (fun fs hr => retN X hx hret ht hd hr)
theorem own_retVW (X : Stand p l e R (s.setVm vm0) m args below meth c T locs cells slots) (hS : s.Since vm0 k0) (hk : k0 ≤ T.heap.size) (hx : p.tables.exec = Jvm.exec) (hret : meth.sig.returnType = none) (hlk : meth.locks = false) {pc : Nat} {Ls : Array Slot}
    (hd : decode c.code pc = .ok (.return_, 1)) {Q : Option Value → Heap → Vm → List Loc → Prop} {C S : Nat} (hQ : Q none T.heap T.vm locs) (hC : cells ≤ C) (hS' : slots ≤ S) : own_Go p.tables e below (own_FW below s Q C S) T (mkF m pc Ls []) :=
  own_endW X hS hk hlk (fun _ => rfl) hQ hC hS' (fun fs hr => X.returnOut hx hret hd hr)
theorem own_retAW (X : Stand p l e R (s.setVm vm0) m args below meth c T locs cells slots) (hS : s.Since vm0 k0) (hk : k0 ≤ T.heap.size) (hx : p.tables.exec = Jvm.exec) {t : FieldType} (hret : meth.sig.returnType = some t) (ht : t.isReference = true) (hlk : meth.locks = false) {pc : Nat} {Ls : Array Slot} {w : Value} {rest : List Value} (hw : w.isRef = true)
    (hd : decode c.code pc = .ok (.areturn, 1)) {Q : Option Value → Heap → Vm → List Loc → Prop} {C S : Nat} (hQ : Q (some w) T.heap T.vm locs) (hC : cells ≤ C) (hS' : slots ≤ S) : own_Go p.tables e below (own_FW below s Q C S) T (mkF m pc Ls (w :: rest)) :=
  own_endW X hS hk hlk (fun q => by rw [hret] at q; cases q) hQ hC hS' (fun fs hr => retOut X hx hret (by rcases ref_cases hw with rfl | ⟨a, rfl⟩ <;> cases t <;> first | rfl | (simp [FieldType.isReference] at ht)) (Or.inr (Or.inr (Or.inr (Or.inr ⟨rfl, ht, hw⟩)))) hd hr)
/-- a callee that may load String constants, by its contract: who pays -/
theorem own_backW {y : MethodName} {bytes : ByteArray} {maxL : Nat} {ret : Option FieldType} {rm : Room} {len W : Nat} {as' : Array Value} {J : Vm → Prop} {Q : Option Value → Heap → Vm → List Loc → Prop}
    (hM : MetFree l y (head1 [Jvm.Cond.code y bytes maxL ret] rm) (fun a U => a = as' ∧ Z.Warmed39 U.vm ∧ U.heap = h ∧ J U.vm) (fun _ _ _ _ _ => True) (fun _ U o U' => ∃ v L, o = .returned v ∧ Q v U'.heap U'.vm L ∧ ReturnedEndW U o U' L rm.cells rm.slots))
    (hZ : Z.Warmed39 s.vm) (hJ : ∀ vm, s.WarmedH vm → J vm) (wc : (Jvm.Cond.code y bytes maxL ret).before a0 Z = true) (wz : (Jvm.Cond.initialized y.cls).before a0 Z = true) (hf : rm.frames + 1 ≤ R.frames) (hl : W + (maxL + 11) + rm.locals ≤ R.locals) :
    BackS l R p e below s args y len W (fun A a => a = as' ∧ A.U.heap = h ∧ A.cells + rm.cells ≤ R.cells ∧ A.slots + rm.slots ≤ R.slots)
      (fun A _ v B => ∃ L, Q v B.U.heap B.U.vm L ∧ B.locs = A.locs ++ L ∧ B.cells = A.cells + rm.cells ∧ B.slots = A.slots + rm.slots) :=
  BackS.of_freeW (bytes := bytes) (maxL := maxL) (ret := ret) (E := fun _ _ o t L k n => k = rm.cells ∧ n = rm.slots ∧ ∃ v, o = .returned v ∧ Q v t.heap t.vm L) hM hf hl
    (fun m meth c A a Y hp => have hU : Z.Warmed39 A.U.vm := wtrans hZ Y.warmed
      ⟨by show (Jvm.Cond.and _ .tt).before a A.U = true; rw [Cond.before_and, mv hU wc]; rfl, mv hU wc, mv hU wz, hp.2.2.1, hp.2.2.2⟩)
    (fun m meth c A a g mk Y hp => ⟨hp.1, wtrans hZ Y.warmed, hp.2.1, hJ _ Y.warmed⟩) (fun _ _ _ _ _ _ _ _ _ => trivial)
    (fun _ _ _ _ ⟨v, L, h1, h2, h3⟩ => ⟨L, _, _, h3, rfl, rfl, v, h1, h2⟩)
    (fun m meth c A a g mk v t L k n Y hp _ _ ⟨e1, e2, v', e3, e4⟩ => by cases e3; subst e1 e2; exact ⟨L, e4, rfl, rfl, rfl⟩)
theorem own_callIW (X : Stand p l e R (s.setVm vm0) m args below meth c T locs cells slots) (hS : s.Since vm0 k0) (hk : k0 ≤ T.heap.size) (hx : p.tables.exec = Jvm.exec) (hZ : Z.Warmed39 (s.setVm vm0).vm) {own : String} {index : Nat} {y : MethodName} {bytes : ByteArray} {maxL : Nat} (hn : y.name = "<init>") (hown : (s.setVm vm0).vm.findClass own = some m.cls)
    (w1 : (Jvm.Cond.methodLink own index y).before a0 Z = true) (w2 : (Jvm.Cond.instanceMethod y).before a0 Z = true) (w3 : (Jvm.Cond.initialized y.cls).before a0 Z = true) (w4 : (Jvm.Cond.code y bytes maxL none).before a0 Z = true) (hy : y.cls ≠ "java/lang/invoke/MethodHandle" ∧ y.cls ≠ "java/lang/invoke/VarHandle")
    {rm : Room} {as' : Array Value} {J : Vm → Prop} {Q : Option Value → Heap → Vm → List Loc → Prop} (hM : MetFree l y (head1 [Jvm.Cond.code y bytes maxL none] rm) (fun a U => a = as' ∧ Z.Warmed39 U.vm ∧ U.heap = h ∧ J U.vm) (fun _ _ _ _ _ => True) (fun _ U o U' => ∃ v L, o = .returned v ∧ Q v U'.heap U'.vm L ∧ ReturnedEndW U o U' L rm.cells rm.slots))
    (hJ : ∀ vm, (s.setVm vm0).WarmedH vm → J vm) (eT : T.heap = h) {g : JFrame} (hg : g.method = m) (hsize : g.locals.size = c.maxLocals) {a : Addr} {argsL rest : List Value} (hlen : ∀ sig, parseMethodDescriptor y.desc = some sig → argsL.length = sig.parameters.length) (hstack : g.stack = argsL.reverse ++ .ref a :: rest) (has : (.ref a :: argsL).toArray = as') {W : Nat} (hW : 2 * g.monitorRoom + (rest.map fun v => v.category).sum ≤ W)
    (hd : decode c.code g.pc = .ok (.invokespecial index, 3)) (hf : rm.frames + 1 ≤ R.frames) (hl : W + (maxL + 11) + rm.locals ≤ R.locals) (hc : cells + rm.cells ≤ R.cells) (hs : slots + rm.slots ≤ R.slots) :
    ∃ v T' L, Q v T'.heap T'.vm L ∧ Stand p l e R (s.setVm T'.vm) m args below meth c T' (locs ++ L) (cells + rm.cells) (slots + rm.slots) ∧ s.Since T'.vm T'.heap.size ∧ Z.Warmed39 (s.setVm T'.vm).vm ∧ (s.setVm T'.vm).vm.findClass own = some m.cls ∧ ∀ t, Steps p.tables e below (T'.setTop { g with pc := g.pc + 3, stack := v.toList ++ rest }) t → Steps p.tables e below (T.setTop g) t := by
  obtain ⟨v, vm₁, ⟨T', L', k', n'⟩, -, X', hS', hgr, ⟨L, hQ, l1, y1, z1⟩, st⟩ := X.specialBackS hx (y := y) hn hown (mvT hZ w1) (mvT hZ w2) (mvT hZ w4) hy (own_backW (W := W) hM hZ hJ w4 w3 hf hl) hg hsize (Steps.refl _) (a := a) (argsL := argsL) (rest := rest) hlen hstack hW hd (fun _ _ => ⟨has, eT, hc, hs⟩)
  dsimp only [Pt.U, Pt.locs, Pt.cells, Pt.slots] at X' l1 y1 z1 st hQ hS' hgr
  subst l1 y1 z1
  obtain ⟨X2, hS2, hZ2, ho2⟩ := rebS hS hk X' hS' hgr hZ hown
  exact ⟨v, T', L, hQ, X2, hS2, hZ2, ho2, fun t k => st.trans k⟩
theorem own_callSW (X : Stand p l e R (s.setVm vm0) m args below meth c T locs cells slots) (hS : s.Since vm0 k0) (hk : k0 ≤ T.heap.size) (hx : p.tables.exec = Jvm.exec) (hZ : Z.Warmed39 (s.setVm vm0).vm) {own : String} {index : Nat} {y : MethodName} {bytes : ByteArray} {maxL : Nat} {ret : Option FieldType} (hown : (s.setVm vm0).vm.findClass own = some m.cls)
    (w1 : (Jvm.Cond.methodLink own index y).before a0 Z = true) (w2 : (Jvm.Cond.static y).before a0 Z = true) (w3 : (Jvm.Cond.initialized y.cls).before a0 Z = true) (w4 : (Jvm.Cond.code y bytes maxL ret).before a0 Z = true) (hy : y.cls ≠ "java/lang/invoke/MethodHandle" ∧ y.cls ≠ "java/lang/invoke/VarHandle")
    {rm : Room} {as' : Array Value} {J : Vm → Prop} {Q : Option Value → Heap → Vm → List Loc → Prop} (hM : MetFree l y (head1 [Jvm.Cond.code y bytes maxL ret] rm) (fun a U => a = as' ∧ Z.Warmed39 U.vm ∧ U.heap = h ∧ J U.vm) (fun _ _ _ _ _ => True) (fun _ U o U' => ∃ v L, o = .returned v ∧ Q v U'.heap U'.vm L ∧ ReturnedEndW U o U' L rm.cells rm.slots))
    (hJ : ∀ vm, (s.setVm vm0).WarmedH vm → J vm) (eT : T.heap = h) {g : JFrame} (hg : g.method = m) (hsize : g.locals.size = c.maxLocals) {argsL rest : List Value} (hlen : ∀ sig, parseMethodDescriptor y.desc = some sig → argsL.length = sig.parameters.length) (hstack : g.stack = argsL.reverse ++ rest) (has : argsL.toArray = as') {W : Nat} (hW : 2 * g.monitorRoom + (rest.map fun v => v.category).sum ≤ W)
    (hd : decode c.code g.pc = .ok (.invokestatic index, 3)) (hf : rm.frames + 1 ≤ R.frames) (hl : W + (maxL + 11) + rm.locals ≤ R.locals) (hc : cells + rm.cells ≤ R.cells) (hs : slots + rm.slots ≤ R.slots) :
    ∃ v T' L, Q v T'.heap T'.vm L ∧ Stand p l e R (s.setVm T'.vm) m args below meth c T' (locs ++ L) (cells + rm.cells) (slots + rm.slots) ∧ s.Since T'.vm T'.heap.size ∧ Z.Warmed39 (s.setVm T'.vm).vm ∧ (s.setVm T'.vm).vm.findClass own = some m.cls ∧ ∀ t, Steps p.tables e below (T'.setTop { g with pc := g.pc + 3, stack := v.toList ++ rest }) t → Steps p.tables e below (T.setTop g) t := by
  obtain ⟨v, vm₁, ⟨T', L', k', n'⟩, -, X', hS', hgr, ⟨L, hQ, l1, y1, z1⟩, st⟩ := callSS X hx (y := y) hown (mvT hZ w1) (mvT hZ w2) (mvT hZ w3) (mvT hZ w4) hy (own_backW (W := W) hM hZ hJ w4 w3 hf hl) hg hsize (argsL := argsL) (rest := rest) hlen hstack hW hd (fun _ _ => ⟨has, eT, hc, hs⟩)
  dsimp only [Pt.U, Pt.locs, Pt.cells, Pt.slots] at X' l1 y1 z1 st hQ hS' hgr
  subst l1 y1 z1
  obtain ⟨X2, hS2, hZ2, ho2⟩ := rebS hS hk X' hS' hgr hZ hown
  exact ⟨v, T', L, hQ, X2, hS2, hZ2, ho2, fun t k => st.trans k⟩
theorem own_callVW (X : Stand p l e R (s.setVm vm0) m args below meth c T locs cells slots) (hS : s.Since vm0 k0) (hk : k0 ≤ T.heap.size) (hx : p.tables.exec = Jvm.exec) (hZ : Z.Warmed39 (s.setVm vm0).vm) {own C : String} {index : Nat} {y : MethodName} {bytes : ByteArray} {maxL : Nat} {ret : Option FieldType} (hown : (s.setVm vm0).vm.findClass own = some m.cls)
    (w1 : (Jvm.Cond.methodLink own index y).before a0 Z = true) (w2 : (Jvm.Cond.declares y).before a0 Z = true) (w3 : (Jvm.Cond.selects C y y).before a0 Z = true) (w5 : (Jvm.Cond.instanceMethod y).before a0 Z = true) (w6 : (Jvm.Cond.initialized y.cls).before a0 Z = true) (w4 : (Jvm.Cond.code y bytes maxL ret).before a0 Z = true) (hy : y.cls ≠ "java/lang/invoke/MethodHandle" ∧ y.cls ≠ "java/lang/invoke/VarHandle")
    {rm : Room} {as' : Array Value} {J : Vm → Prop} {Q : Option Value → Heap → Vm → List Loc → Prop} (hM : MetFree l y (head1 [Jvm.Cond.code y bytes maxL ret] rm) (fun a U => a = as' ∧ Z.Warmed39 U.vm ∧ U.heap = h ∧ J U.vm) (fun _ _ _ _ _ => True) (fun _ U o U' => ∃ v L, o = .returned v ∧ Q v U'.heap U'.vm L ∧ ReturnedEndW U o U' L rm.cells rm.slots))
    (hJ : ∀ vm, (s.setVm vm0).WarmedH vm → J vm) (eT : T.heap = h) {a : Addr} (E : Exa Z h a C) {g : JFrame} (hg : g.method = m) (hsize : g.locals.size = c.maxLocals) {argsL rest : List Value} (hlen : ∀ sig, parseMethodDescriptor y.desc = some sig → argsL.length = sig.parameters.length) (hstack : g.stack = argsL.reverse ++ .ref a :: rest) (has : (.ref a :: argsL).toArray = as') {W : Nat} (hW : 2 * g.monitorRoom + (rest.map fun v => v.category).sum ≤ W)
    (hd : decode c.code g.pc = .ok (.invokevirtual index, 3)) (hf : rm.frames + 1 ≤ R.frames) (hl : W + (maxL + 11) + rm.locals ≤ R.locals) (hc : cells + rm.cells ≤ R.cells) (hs : slots + rm.slots ≤ R.slots) :
    ∃ v T' L, Q v T'.heap T'.vm L ∧ Stand p l e R (s.setVm T'.vm) m args below meth c T' (locs ++ L) (cells + rm.cells) (slots + rm.slots) ∧ s.Since T'.vm T'.heap.size ∧ Z.Warmed39 (s.setVm T'.vm).vm ∧ (s.setVm T'.vm).vm.findClass own = some m.cls ∧ ∀ t, Steps p.tables e below (T'.setTop { g with pc := g.pc + 3, stack := v.toList ++ rest }) t → Steps p.tables e below (T.setTop g) t := by
  obtain ⟨cq, kq, qa, qb, qc⟩ := isOf hZ eT E
  obtain ⟨v, vm₁, ⟨T', L', k', n'⟩, -, X', hS', hgr, ⟨L, hQ, l1, y1, z1⟩, st⟩ := X.virtualBackS hx (y := y) (z := y) hown (mvT hZ w1) (mvT hZ w2) (notFace_of_selects (args := #[]) (mvT hZ w3)) (mvT hZ w3) (mvT hZ w5) hy (own_backW (W := W) hM hZ hJ w4 w6 hf hl) qa qc hg hsize (Steps.refl _) (argsL := argsL) (rest := rest) hlen hstack hW hd (fun _ _ => ⟨has, eT, hc, hs⟩)
  dsimp only [Pt.U, Pt.locs, Pt.cells, Pt.slots] at X' l1 y1 z1 st hQ hS' hgr
  subst l1 y1 z1
  obtain ⟨X2, hS2, hZ2, ho2⟩ := rebS hS hk X' hS' hgr hZ hown
  exact ⟨v, T', L, hQ, X2, hS2, hZ2, ho2, fun t k => st.trans k⟩
theorem own_ibw {Ts : List String} {vm : Vm} (I : IB Z vm0 Ts) (q : (s.setVm vm0).WarmedH vm) : IB Z vm Ts := by
  obtain ⟨more, e, hm⟩ := I
  exact ⟨more, (q.interned_eq :).trans e, hm⟩
end OwnWide
theorem own_eqi {t : Term} {n : Int32} {args : Array Value} {s : State} (h : (Jvm.Cond.eq t (.int n)).value args s none s [] = some true) : t.eval args s none [] s = some (.int n) := by
  obtain ⟨x, y, h1, h2, h3, -⟩ := cmp_v (Or.inl h)
  cases (Term.int_eval n).symm.trans h2
  cases x <;> simp [Kin, Value.isRef] at h3
  rw [h1]
  have q := h
  simp [Jvm.Cond.value, h1, Term.int_eval] at q
  rw [q]
theorem own_lenw {t : Term} {n : Int32} {args : Array Value} {s : State} {x : Addr} {cl : Cell} {ty : FieldType} (h : (Jvm.Cond.eq (Term.length t) (.int n)).value args s none s [] = some true) (ht : t.eval args s none [] s = some (.ref x)) (A : Arr s s.heap x cl ty) : cl.slots.size < 2 ^ 31 ∧ cl.slots.size.toInt32 = n := by
  obtain ⟨b, cell, e1, e2, e4⟩ := Term.length_spec (own_eqi h)
  obtain rfl : x = b := Value.ref.inj (Option.some.inj (ht.symm.trans e1))
  obtain rfl : cl = cell := Option.some.inj ((A.fin (Vm.Alike.refl _)).symm.trans e2)
  exact ⟨Jvm.Free.SBG.length_lt e1 e2 (own_eqi h), (Value.int.inj e4).symm⟩
theorem own_elemw {t u : Term} {j : Int32} {args : Array Value} {s : State} {x y : Addr} {cl : Cell} {ty : FieldType} (h : (Jvm.Cond.eq (Term.elem t (.int j)) u).value args s none s [] = some true) (ht : t.eval args s none [] s = some (.ref x)) (hu : u.eval args s none [] s = some (.ref y)) (A : Arr s s.heap x cl ty) : cl.slots[j.toNatClampNeg]? = some (.ref y) := by
  obtain ⟨v, w, h1, h2, h3, h4⟩ := cmp_v (Or.inl h)
  cases hu.symm.trans h2
  obtain ⟨-, q⟩ := elem_in h1 ht (Term.int_eval j) A.1
  have r : v = .ref y := gotT (eq_R h1 hu h4.2 rfl) h
  rw [q, r]
theorem own_elemi {t : Term} {j k : Int32} {args : Array Value} {s : State} {x : Addr} {cl : Cell} {ty : FieldType} (h : (Jvm.Cond.eq (Term.elem t (.int j)) (.int k)).value args s none s [] = some true) (ht : t.eval args s none [] s = some (.ref x)) (A : Arr s s.heap x cl ty) : cl.slots[j.toNatClampNeg]? = some (.int k) := by
  obtain ⟨-, q⟩ := elem_in (own_eqi h) ht (Term.int_eval j) A.1
  exact q
abbrev own_W (Z : State) (a0 : Array Value) : Prop := ∀ d ∈ tables_1, d.before a0 Z = true
theorem own_w0 {Z : State} {a0 : Array Value} (hw : own_W Z a0) : (Jvm.Cond.arrayClass Jvm.ClassFile.FieldType.char).before a0 Z = true := hw _ (List.mem_of_getElem? (i := 0) rfl)
theorem own_w1 {Z : State} {a0 : Array Value} (hw : own_W Z a0) : (Jvm.Cond.constantLong "com/example/isoscope/isoscope/TokenIsPinLaw" (7 : Nat) (255 : Int64)).before a0 Z = true := hw _ (List.mem_of_getElem? (i := 1) rfl)
theorem own_w2 {Z : State} {a0 : Array Value} (hw : own_W Z a0) : (Jvm.Cond.methodLink "com/example/isoscope/isoscope/TokenIsPinLaw" (9 : Nat) ({ cls := "com/example/isoscope/isoscope/TokenIsPinLaw", name := "tc", desc := "(III[CII)C" } : Jvm.MethodName)).before a0 Z = true := hw _ (List.mem_of_getElem? (i := 2) rfl)
theorem own_w3 {Z : State} {a0 : Array Value} (hw : own_W Z a0) : (Jvm.Cond.static ({ cls := "com/example/isoscope/isoscope/TokenIsPinLaw", name := "tc", desc := "(III[CII)C" } : Jvm.MethodName)).before a0 Z = true := hw _ (List.mem_of_getElem? (i := 3) rfl)
theorem own_w4 {Z : State} {a0 : Array Value} (hw : own_W Z a0) : (Jvm.Cond.initialized "com/example/isoscope/isoscope/TokenIsPinLaw").before a0 Z = true := hw _ (List.mem_of_getElem? (i := 4) rfl)
theorem own_w5 {Z : State} {a0 : Array Value} (hw : own_W Z a0) : (Jvm.Cond.code ({ cls := "com/example/isoscope/isoscope/TokenIsPinLaw", name := "tc", desc := "(III[CII)C" } : Jvm.MethodName) method_3_code (9 : Nat) (Option.some Jvm.ClassFile.FieldType.char)).before a0 Z = true := hw _ (List.mem_of_getElem? (i := 5) rfl)
theorem own_w6 {Z : State} {a0 : Array Value} (hw : own_W Z a0) : (Jvm.Cond.methodLink "com/example/isoscope/isoscope/TokenIsPinLaw" (15 : Nat) ({ cls := "com/example/isoscope/isoscope/TokenIsPinLaw", name := "prefix", desc := "([CI)Ljava/lang/String;" } : Jvm.MethodName)).before a0 Z = true := hw _ (List.mem_of_getElem? (i := 6) rfl)
theorem own_w7 {Z : State} {a0 : Array Value} (hw : own_W Z a0) : (Jvm.Cond.static ({ cls := "com/example/isoscope/isoscope/TokenIsPinLaw", name := "prefix", desc := "([CI)Ljava/lang/String;" } : Jvm.MethodName)).before a0 Z = true := hw _ (List.mem_of_getElem? (i := 7) rfl)
theorem own_w8 {Z : State} {a0 : Array Value} (hw : own_W Z a0) : (Jvm.Cond.code ({ cls := "com/example/isoscope/isoscope/TokenIsPinLaw", name := "prefix", desc := "([CI)Ljava/lang/String;" } : Jvm.MethodName) method_5_code (2 : Nat) (Option.some (Jvm.ClassFile.FieldType.object "java/lang/String"))).before a0 Z = true := hw _ (List.mem_of_getElem? (i := 8) rfl)
theorem own_w9 {Z : State} {a0 : Array Value} (hw : own_W Z a0) : (Jvm.Cond.classLink "com/example/isoscope/isoscope/TokenIsPinLaw" (36 : Nat) "java/lang/String").before a0 Z = true := hw _ (List.mem_of_getElem? (i := 9) rfl)
theorem own_w10 {Z : State} {a0 : Array Value} (hw : own_W Z a0) : (Jvm.Cond.instantiable "java/lang/String" (4 : Nat)).before a0 Z = true := hw _ (List.mem_of_getElem? (i := 10) rfl)
theorem own_w11 {Z : State} {a0 : Array Value} (hw : own_W Z a0) : (Jvm.Cond.initialized "java/lang/String").before a0 Z = true := hw _ (List.mem_of_getElem? (i := 11) rfl)
theorem own_w12 {Z : State} {a0 : Array Value} (hw : own_W Z a0) : (Jvm.Cond.methodLink "com/example/isoscope/isoscope/TokenIsPinLaw" (38 : Nat) ({ cls := "java/lang/String", name := "<init>", desc := "([C)V" } : Jvm.MethodName)).before a0 Z = true := hw _ (List.mem_of_getElem? (i := 12) rfl)
theorem own_w13 {Z : State} {a0 : Array Value} (hw : own_W Z a0) : (Jvm.Cond.instanceMethod ({ cls := "java/lang/String", name := "<init>", desc := "([C)V" } : Jvm.MethodName)).before a0 Z = true := hw _ (List.mem_of_getElem? (i := 13) rfl)
theorem own_w14 {Z : State} {a0 : Array Value} (hw : own_W Z a0) : (Jvm.Cond.code ({ cls := "java/lang/String", name := "<init>", desc := "([C)V" } : Jvm.MethodName) jdk_42_method_3_code (2 : Nat) (Option.none : Option Jvm.ClassFile.FieldType)).before a0 Z = true := hw _ (List.mem_of_getElem? (i := 14) rfl)
theorem own_w15 {Z : State} {a0 : Array Value} (hw : own_W Z a0) : (Jvm.Cond.methodLink "java/lang/String" (27 : Nat) ({ cls := "java/lang/String", name := "<init>", desc := "([CIILjava/lang/Void;)V" } : Jvm.MethodName)).before a0 Z = true := hw _ (List.mem_of_getElem? (i := 15) rfl)
theorem own_w16 {Z : State} {a0 : Array Value} (hw : own_W Z a0) : (Jvm.Cond.instanceMethod ({ cls := "java/lang/String", name := "<init>", desc := "([CIILjava/lang/Void;)V" } : Jvm.MethodName)).before a0 Z = true := hw _ (List.mem_of_getElem? (i := 16) rfl)
theorem own_w18 {Z : State} {a0 : Array Value} (hw : own_W Z a0) : (Jvm.Cond.code ({ cls := "java/lang/String", name := "<init>", desc := "([CIILjava/lang/Void;)V" } : Jvm.MethodName) jdk_42_method_149_code (6 : Nat) (Option.none : Option Jvm.ClassFile.FieldType)).before a0 Z = true := hw _ (List.mem_of_getElem? (i := 18) rfl)
theorem own_w19 {Z : State} {a0 : Array Value} (hw : own_W Z a0) : (Jvm.Cond.methodLink "java/lang/String" (1 : Nat) ({ cls := "java/lang/Object", name := "<init>", desc := "()V" } : Jvm.MethodName)).before a0 Z = true := hw _ (List.mem_of_getElem? (i := 19) rfl)
theorem own_w20 {Z : State} {a0 : Array Value} (hw : own_W Z a0) : (Jvm.Cond.instanceMethod ({ cls := "java/lang/Object", name := "<init>", desc := "()V" } : Jvm.MethodName)).before a0 Z = true := hw _ (List.mem_of_getElem? (i := 20) rfl)
theorem own_w21 {Z : State} {a0 : Array Value} (hw : own_W Z a0) : (Jvm.Cond.code ({ cls := "java/lang/Object", name := "<init>", desc := "()V" } : Jvm.MethodName) object_method_1_code (1 : Nat) (Option.none : Option Jvm.ClassFile.FieldType)).before a0 Z = true := hw _ (List.mem_of_getElem? (i := 21) rfl)
theorem own_w22 {Z : State} {a0 : Array Value} (hw : own_W Z a0) : (Jvm.Cond.fieldLink "java/lang/String" (38 : Nat) "java/lang/String" "COMPACT_STRINGS" "Z").before a0 Z = true := hw _ (List.mem_of_getElem? (i := 22) rfl)
theorem own_w23 {Z : State} {a0 : Array Value} (hw : own_W Z a0) : (Jvm.Cond.methodLink "java/lang/String" (177 : Nat) ({ cls := "java/lang/StringUTF16", name := "compress", desc := "([CII)[B" } : Jvm.MethodName)).before a0 Z = true := hw _ (List.mem_of_getElem? (i := 23) rfl)
theorem own_w24 {Z : State} {a0 : Array Value} (hw : own_W Z a0) : (Jvm.Cond.static ({ cls := "java/lang/StringUTF16", name := "compress", desc := "([CII)[B" } : Jvm.MethodName)).before a0 Z = true := hw _ (List.mem_of_getElem? (i := 24) rfl)
theorem own_w25 {Z : State} {a0 : Array Value} (hw : own_W Z a0) : (Jvm.Cond.initialized "java/lang/StringUTF16").before a0 Z = true := hw _ (List.mem_of_getElem? (i := 25) rfl)
theorem own_w26 {Z : State} {a0 : Array Value} (hw : own_W Z a0) : (Jvm.Cond.code ({ cls := "java/lang/StringUTF16", name := "compress", desc := "([CII)[B" } : Jvm.MethodName) jdk_52_method_16_code (6 : Nat) (Option.some (Jvm.ClassFile.FieldType.array Jvm.ClassFile.FieldType.byte))).before a0 Z = true := hw _ (List.mem_of_getElem? (i := 26) rfl)
theorem own_w27 {Z : State} {a0 : Array Value} (hw : own_W Z a0) : (Jvm.Cond.arrayClass Jvm.ClassFile.FieldType.byte).before a0 Z = true := hw _ (List.mem_of_getElem? (i := 27) rfl)
theorem own_w28 {Z : State} {a0 : Array Value} (hw : own_W Z a0) : (Jvm.Cond.methodLink "java/lang/StringUTF16" (115 : Nat) ({ cls := "java/lang/StringUTF16", name := "compress", desc := "([CI[BII)I" } : Jvm.MethodName)).before a0 Z = true := hw _ (List.mem_of_getElem? (i := 28) rfl)
theorem own_w29 {Z : State} {a0 : Array Value} (hw : own_W Z a0) : (Jvm.Cond.static ({ cls := "java/lang/StringUTF16", name := "compress", desc := "([CI[BII)I" } : Jvm.MethodName)).before a0 Z = true := hw _ (List.mem_of_getElem? (i := 29) rfl)
theorem own_w30 {Z : State} {a0 : Array Value} (hw : own_W Z a0) : (Jvm.Cond.code ({ cls := "java/lang/StringUTF16", name := "compress", desc := "([CI[BII)I" } : Jvm.MethodName) jdk_52_method_21_code (7 : Nat) (Option.some Jvm.ClassFile.FieldType.int)).before a0 Z = true := hw _ (List.mem_of_getElem? (i := 30) rfl)
theorem own_w31 {Z : State} {a0 : Array Value} (hw : own_W Z a0) : (Jvm.Cond.methodLink "java/lang/String" (47 : Nat) ({ cls := "java/lang/StringUTF16", name := "coderFromArrayLen", desc := "([BI)B" } : Jvm.MethodName)).before a0 Z = true := hw _ (List.mem_of_getElem? (i := 31) rfl)
theorem own_w32 {Z : State} {a0 : Array Value} (hw : own_W Z a0) : (Jvm.Cond.static ({ cls := "java/lang/StringUTF16", name := "coderFromArrayLen", desc := "([BI)B" } : Jvm.MethodName)).before a0 Z = true := hw _ (List.mem_of_getElem? (i := 32) rfl)
theorem own_w33 {Z : State} {a0 : Array Value} (hw : own_W Z a0) : (Jvm.Cond.code ({ cls := "java/lang/StringUTF16", name := "coderFromArrayLen", desc := "([BI)B" } : Jvm.MethodName) jdk_52_method_15_code (2 : Nat) (Option.some Jvm.ClassFile.FieldType.byte)).before a0 Z = true := hw _ (List.mem_of_getElem? (i := 33) rfl)
theorem own_w34 {Z : State} {a0 : Array Value} (hw : own_W Z a0) : (Jvm.Cond.fieldLink "java/lang/String" (15 : Nat) "java/lang/String" "coder" "B").before a0 Z = true := hw _ (List.mem_of_getElem? (i := 34) rfl)
theorem own_w35 {Z : State} {a0 : Array Value} (hw : own_W Z a0) : (Jvm.Cond.laysFinal "java/lang/String" "java/lang/String" "coder" "B").before a0 Z = true := hw _ (List.mem_of_getElem? (i := 35) rfl)
theorem own_w36 {Z : State} {a0 : Array Value} (hw : own_W Z a0) : (Jvm.Cond.fieldLink "java/lang/String" (9 : Nat) "java/lang/String" "value" "[B").before a0 Z = true := hw _ (List.mem_of_getElem? (i := 36) rfl)
theorem own_w37 {Z : State} {a0 : Array Value} (hw : own_W Z a0) : (Jvm.Cond.laysFinal "java/lang/String" "java/lang/String" "value" "[B").before a0 Z = true := hw _ (List.mem_of_getElem? (i := 37) rfl)
theorem own_w38 {Z : State} {a0 : Array Value} (hw : own_W Z a0) : (Jvm.Cond.stringLink "java/lang/String" (7 : Nat) "").before a0 Z = true := hw _ (List.mem_of_getElem? (i := 38) rfl)
theorem own_w39 {Z : State} {a0 : Array Value} (hw : own_W Z a0) : (Jvm.Cond.soleField "java/lang/String" "value").before a0 Z = true := hw _ (List.mem_of_getElem? (i := 39) rfl)
theorem own_w40 {Z : State} {a0 : Array Value} (hw : own_W Z a0) : (Jvm.Cond.soleField "java/lang/String" "coder").before a0 Z = true := hw _ (List.mem_of_getElem? (i := 40) rfl)
theorem own_w41 {Z : State} {a0 : Array Value} (hw : own_W Z a0) : (Jvm.Cond.classLink "com/example/isoscope/isoscope/TokenIsPinLaw" (19 : Nat) "com/example/isoscope/isoscope/SqlLexer$Token").before a0 Z = true := hw _ (List.mem_of_getElem? (i := 41) rfl)
theorem own_w42 {Z : State} {a0 : Array Value} (hw : own_W Z a0) : (Jvm.Cond.instantiable "com/example/isoscope/isoscope/SqlLexer$Token" (4 : Nat)).before a0 Z = true := hw _ (List.mem_of_getElem? (i := 42) rfl)
theorem own_w43 {Z : State} {a0 : Array Value} (hw : own_W Z a0) : (Jvm.Cond.initialized "com/example/isoscope/isoscope/SqlLexer$Token").before a0 Z = true := hw _ (List.mem_of_getElem? (i := 43) rfl)
theorem own_w44 {Z : State} {a0 : Array Value} (hw : own_W Z a0) : (Jvm.Cond.methodLink "com/example/isoscope/isoscope/TokenIsPinLaw" (21 : Nat) ({ cls := "com/example/isoscope/isoscope/TokenIsPinLaw", name := "kind", desc := "(I)Lcom/example/isoscope/isoscope/SqlLexer$Kind;" } : Jvm.MethodName)).before a0 Z = true := hw _ (List.mem_of_getElem? (i := 44) rfl)
theorem own_w45 {Z : State} {a0 : Array Value} (hw : own_W Z a0) : (Jvm.Cond.static ({ cls := "com/example/isoscope/isoscope/TokenIsPinLaw", name := "kind", desc := "(I)Lcom/example/isoscope/isoscope/SqlLexer$Kind;" } : Jvm.MethodName)).before a0 Z = true := hw _ (List.mem_of_getElem? (i := 45) rfl)
theorem own_w46 {Z : State} {a0 : Array Value} (hw : own_W Z a0) : (Jvm.Cond.code ({ cls := "com/example/isoscope/isoscope/TokenIsPinLaw", name := "kind", desc := "(I)Lcom/example/isoscope/isoscope/SqlLexer$Kind;" } : Jvm.MethodName) method_6_code (1 : Nat) (Option.some (Jvm.ClassFile.FieldType.object "com/example/isoscope/isoscope/SqlLexer$Kind"))).before a0 Z = true := hw _ (List.mem_of_getElem? (i := 46) rfl)
theorem own_w47 {Z : State} {a0 : Array Value} (hw : own_W Z a0) : (Jvm.Cond.fieldLink "com/example/isoscope/isoscope/TokenIsPinLaw" (41 : Nat) "com/example/isoscope/isoscope/SqlLexer$Kind" "WORD" "Lcom/example/isoscope/isoscope/SqlLexer$Kind;").before a0 Z = true := hw _ (List.mem_of_getElem? (i := 47) rfl)
theorem own_w48 {Z : State} {a0 : Array Value} (hw : own_W Z a0) : (Jvm.Cond.initialized "com/example/isoscope/isoscope/SqlLexer$Kind").before a0 Z = true := hw _ (List.mem_of_getElem? (i := 48) rfl)
theorem own_w49 {Z : State} {a0 : Array Value} (hw : own_W Z a0) : (Jvm.Cond.laysStatic "com/example/isoscope/isoscope/SqlLexer$Kind" "WORD" "Lcom/example/isoscope/isoscope/SqlLexer$Kind;").before a0 Z = true := hw _ (List.mem_of_getElem? (i := 49) rfl)
theorem own_w50 {Z : State} {a0 : Array Value} (hw : own_W Z a0) : (Jvm.Cond.methodLink "com/example/isoscope/isoscope/TokenIsPinLaw" (25 : Nat) ({ cls := "com/example/isoscope/isoscope/SqlLexer$Token", name := "<init>", desc := "(Lcom/example/isoscope/isoscope/SqlLexer$Kind;IIZ)V" } : Jvm.MethodName)).before a0 Z = true := hw _ (List.mem_of_getElem? (i := 50) rfl)
theorem own_w51 {Z : State} {a0 : Array Value} (hw : own_W Z a0) : (Jvm.Cond.instanceMethod ({ cls := "com/example/isoscope/isoscope/SqlLexer$Token", name := "<init>", desc := "(Lcom/example/isoscope/isoscope/SqlLexer$Kind;IIZ)V" } : Jvm.MethodName)).before a0 Z = true := hw _ (List.mem_of_getElem? (i := 51) rfl)
theorem own_w52 {Z : State} {a0 : Array Value} (hw : own_W Z a0) : (Jvm.Cond.code ({ cls := "com/example/isoscope/isoscope/SqlLexer$Token", name := "<init>", desc := "(Lcom/example/isoscope/isoscope/SqlLexer$Kind;IIZ)V" } : Jvm.MethodName) prog_29_method_1_code (5 : Nat) (Option.none : Option Jvm.ClassFile.FieldType)).before a0 Z = true := hw _ (List.mem_of_getElem? (i := 52) rfl)
theorem own_w53 {Z : State} {a0 : Array Value} (hw : own_W Z a0) : (Jvm.Cond.methodLink "com/example/isoscope/isoscope/SqlLexer$Token" (1 : Nat) ({ cls := "java/lang/Record", name := "<init>", desc := "()V" } : Jvm.MethodName)).before a0 Z = true := hw _ (List.mem_of_getElem? (i := 53) rfl)
theorem own_w54 {Z : State} {a0 : Array Value} (hw : own_W Z a0) : (Jvm.Cond.instanceMethod ({ cls := "java/lang/Record", name := "<init>", desc := "()V" } : Jvm.MethodName)).before a0 Z = true := hw _ (List.mem_of_getElem? (i := 54) rfl)
theorem own_w56 {Z : State} {a0 : Array Value} (hw : own_W Z a0) : (Jvm.Cond.initialized "java/lang/Record").before a0 Z = true := hw _ (List.mem_of_getElem? (i := 56) rfl)
theorem own_w57 {Z : State} {a0 : Array Value} (hw : own_W Z a0) : (Jvm.Cond.code ({ cls := "java/lang/Record", name := "<init>", desc := "()V" } : Jvm.MethodName) jdk_30_method_1_code (1 : Nat) (Option.none : Option Jvm.ClassFile.FieldType)).before a0 Z = true := hw _ (List.mem_of_getElem? (i := 57) rfl)
theorem own_w58 {Z : State} {a0 : Array Value} (hw : own_W Z a0) : (Jvm.Cond.methodLink "java/lang/Record" (1 : Nat) ({ cls := "java/lang/Object", name := "<init>", desc := "()V" } : Jvm.MethodName)).before a0 Z = true := hw _ (List.mem_of_getElem? (i := 58) rfl)
theorem own_w59 {Z : State} {a0 : Array Value} (hw : own_W Z a0) : (Jvm.Cond.fieldLink "com/example/isoscope/isoscope/SqlLexer$Token" (7 : Nat) "com/example/isoscope/isoscope/SqlLexer$Token" "kind" "Lcom/example/isoscope/isoscope/SqlLexer$Kind;").before a0 Z = true := hw _ (List.mem_of_getElem? (i := 59) rfl)
theorem own_w60 {Z : State} {a0 : Array Value} (hw : own_W Z a0) : (Jvm.Cond.laysFinal "com/example/isoscope/isoscope/SqlLexer$Token" "com/example/isoscope/isoscope/SqlLexer$Token" "kind" "Lcom/example/isoscope/isoscope/SqlLexer$Kind;").before a0 Z = true := hw _ (List.mem_of_getElem? (i := 60) rfl)
theorem own_w61 {Z : State} {a0 : Array Value} (hw : own_W Z a0) : (Jvm.Cond.fieldLink "com/example/isoscope/isoscope/SqlLexer$Token" (13 : Nat) "com/example/isoscope/isoscope/SqlLexer$Token" "start" "I").before a0 Z = true := hw _ (List.mem_of_getElem? (i := 61) rfl)
theorem own_w62 {Z : State} {a0 : Array Value} (hw : own_W Z a0) : (Jvm.Cond.laysFinal "com/example/isoscope/isoscope/SqlLexer$Token" "com/example/isoscope/isoscope/SqlLexer$Token" "start" "I").before a0 Z = true := hw _ (List.mem_of_getElem? (i := 62) rfl)
theorem own_w63 {Z : State} {a0 : Array Value} (hw : own_W Z a0) : (Jvm.Cond.fieldLink "com/example/isoscope/isoscope/SqlLexer$Token" (17 : Nat) "com/example/isoscope/isoscope/SqlLexer$Token" "end" "I").before a0 Z = true := hw _ (List.mem_of_getElem? (i := 63) rfl)
theorem own_w64 {Z : State} {a0 : Array Value} (hw : own_W Z a0) : (Jvm.Cond.laysFinal "com/example/isoscope/isoscope/SqlLexer$Token" "com/example/isoscope/isoscope/SqlLexer$Token" "end" "I").before a0 Z = true := hw _ (List.mem_of_getElem? (i := 64) rfl)
theorem own_w65 {Z : State} {a0 : Array Value} (hw : own_W Z a0) : (Jvm.Cond.fieldLink "com/example/isoscope/isoscope/SqlLexer$Token" (20 : Nat) "com/example/isoscope/isoscope/SqlLexer$Token" "spaced" "Z").before a0 Z = true := hw _ (List.mem_of_getElem? (i := 65) rfl)
theorem own_w66 {Z : State} {a0 : Array Value} (hw : own_W Z a0) : (Jvm.Cond.laysFinal "com/example/isoscope/isoscope/SqlLexer$Token" "com/example/isoscope/isoscope/SqlLexer$Token" "spaced" "Z").before a0 Z = true := hw _ (List.mem_of_getElem? (i := 66) rfl)
theorem own_w67 {Z : State} {a0 : Array Value} (hw : own_W Z a0) : (Jvm.Cond.methodLink "com/example/isoscope/isoscope/TokenIsPinLaw" (28 : Nat) ({ cls := "com/example/isoscope/isoscope/SqlLexer$Token", name := "is", desc := "(Ljava/lang/String;Lcom/example/isoscope/isoscope/SqlLexer$Kind;Ljava/lang/String;)Z" } : Jvm.MethodName)).before a0 Z = true := hw _ (List.mem_of_getElem? (i := 67) rfl)
theorem own_w68 {Z : State} {a0 : Array Value} (hw : own_W Z a0) : (Jvm.Cond.declares ({ cls := "com/example/isoscope/isoscope/SqlLexer$Token", name := "is", desc := "(Ljava/lang/String;Lcom/example/isoscope/isoscope/SqlLexer$Kind;Ljava/lang/String;)Z" } : Jvm.MethodName)).before a0 Z = true := hw _ (List.mem_of_getElem? (i := 68) rfl)
theorem own_w69 {Z : State} {a0 : Array Value} (hw : own_W Z a0) : (Jvm.Cond.instanceMethod ({ cls := "com/example/isoscope/isoscope/SqlLexer$Token", name := "is", desc := "(Ljava/lang/String;Lcom/example/isoscope/isoscope/SqlLexer$Kind;Ljava/lang/String;)Z" } : Jvm.MethodName)).before a0 Z = true := hw _ (List.mem_of_getElem? (i := 69) rfl)
theorem own_w70 {Z : State} {a0 : Array Value} (hw : own_W Z a0) : (Jvm.Cond.selects "com/example/isoscope/isoscope/SqlLexer$Token" ({ cls := "com/example/isoscope/isoscope/SqlLexer$Token", name := "is", desc := "(Ljava/lang/String;Lcom/example/isoscope/isoscope/SqlLexer$Kind;Ljava/lang/String;)Z" } : Jvm.MethodName) ({ cls := "com/example/isoscope/isoscope/SqlLexer$Token", name := "is", desc := "(Ljava/lang/String;Lcom/example/isoscope/isoscope/SqlLexer$Kind;Ljava/lang/String;)Z" } : Jvm.MethodName)).before a0 Z = true := hw _ (List.mem_of_getElem? (i := 70) rfl)
theorem own_w71 {Z : State} {a0 : Array Value} (hw : own_W Z a0) : (Jvm.Cond.code ({ cls := "com/example/isoscope/isoscope/SqlLexer$Token", name := "is", desc := "(Ljava/lang/String;Lcom/example/isoscope/isoscope/SqlLexer$Kind;Ljava/lang/String;)Z" } : Jvm.MethodName) prog_29_method_2_code (4 : Nat) (Option.some Jvm.ClassFile.FieldType.boolean)).before a0 Z = true := hw _ (List.mem_of_getElem? (i := 71) rfl)
theorem own_w72 {Z : State} {a0 : Array Value} (hw : own_W Z a0) : (Jvm.Cond.methodLink "com/example/isoscope/isoscope/SqlLexer$Token" (24 : Nat) ({ cls := "java/lang/String", name := "length", desc := "()I" } : Jvm.MethodName)).before a0 Z = true := hw _ (List.mem_of_getElem? (i := 72) rfl)
theorem own_w73 {Z : State} {a0 : Array Value} (hw : own_W Z a0) : (Jvm.Cond.declares ({ cls := "java/lang/String", name := "length", desc := "()I" } : Jvm.MethodName)).before a0 Z = true := hw _ (List.mem_of_getElem? (i := 73) rfl)
theorem own_w74 {Z : State} {a0 : Array Value} (hw : own_W Z a0) : (Jvm.Cond.instanceMethod ({ cls := "java/lang/String", name := "length", desc := "()I" } : Jvm.MethodName)).before a0 Z = true := hw _ (List.mem_of_getElem? (i := 74) rfl)
theorem own_w75 {Z : State} {a0 : Array Value} (hw : own_W Z a0) : (Jvm.Cond.selects "java/lang/String" ({ cls := "java/lang/String", name := "length", desc := "()I" } : Jvm.MethodName) ({ cls := "java/lang/String", name := "length", desc := "()I" } : Jvm.MethodName)).before a0 Z = true := hw _ (List.mem_of_getElem? (i := 75) rfl)
theorem own_w76 {Z : State} {a0 : Array Value} (hw : own_W Z a0) : (Jvm.Cond.code ({ cls := "java/lang/String", name := "length", desc := "()I" } : Jvm.MethodName) jdk_42_method_54_code (1 : Nat) (Option.some Jvm.ClassFile.FieldType.int)).before a0 Z = true := hw _ (List.mem_of_getElem? (i := 76) rfl)
theorem own_w77 {Z : State} {a0 : Array Value} (hw : own_W Z a0) : (Jvm.Cond.methodLink "java/lang/String" (335 : Nat) ({ cls := "java/lang/String", name := "coder", desc := "()B" } : Jvm.MethodName)).before a0 Z = true := hw _ (List.mem_of_getElem? (i := 77) rfl)
theorem own_w78 {Z : State} {a0 : Array Value} (hw : own_W Z a0) : (Jvm.Cond.declares ({ cls := "java/lang/String", name := "coder", desc := "()B" } : Jvm.MethodName)).before a0 Z = true := hw _ (List.mem_of_getElem? (i := 78) rfl)
theorem own_w79 {Z : State} {a0 : Array Value} (hw : own_W Z a0) : (Jvm.Cond.instanceMethod ({ cls := "java/lang/String", name := "coder", desc := "()B" } : Jvm.MethodName)).before a0 Z = true := hw _ (List.mem_of_getElem? (i := 79) rfl)
theorem own_w80 {Z : State} {a0 : Array Value} (hw : own_W Z a0) : (Jvm.Cond.selects "java/lang/String" ({ cls := "java/lang/String", name := "coder", desc := "()B" } : Jvm.MethodName) ({ cls := "java/lang/String", name := "coder", desc := "()B" } : Jvm.MethodName)).before a0 Z = true := hw _ (List.mem_of_getElem? (i := 80) rfl)
theorem own_w81 {Z : State} {a0 : Array Value} (hw : own_W Z a0) : (Jvm.Cond.code ({ cls := "java/lang/String", name := "coder", desc := "()B" } : Jvm.MethodName) jdk_42_method_152_code (1 : Nat) (Option.some Jvm.ClassFile.FieldType.byte)).before a0 Z = true := hw _ (List.mem_of_getElem? (i := 81) rfl)
theorem own_w82 {Z : State} {a0 : Array Value} (hw : own_W Z a0) : (Jvm.Cond.methodLink "com/example/isoscope/isoscope/SqlLexer$Token" (30 : Nat) ({ cls := "java/lang/String", name := "regionMatches", desc := "(ZILjava/lang/String;II)Z" } : Jvm.MethodName)).before a0 Z = true := hw _ (List.mem_of_getElem? (i := 82) rfl)
theorem own_w83 {Z : State} {a0 : Array Value} (hw : own_W Z a0) : (Jvm.Cond.declares ({ cls := "java/lang/String", name := "regionMatches", desc := "(ZILjava/lang/String;II)Z" } : Jvm.MethodName)).before a0 Z = true := hw _ (List.mem_of_getElem? (i := 83) rfl)
theorem own_w84 {Z : State} {a0 : Array Value} (hw : own_W Z a0) : (Jvm.Cond.instanceMethod ({ cls := "java/lang/String", name := "regionMatches", desc := "(ZILjava/lang/String;II)Z" } : Jvm.MethodName)).before a0 Z = true := hw _ (List.mem_of_getElem? (i := 84) rfl)
theorem own_w85 {Z : State} {a0 : Array Value} (hw : own_W Z a0) : (Jvm.Cond.selects "java/lang/String" ({ cls := "java/lang/String", name := "regionMatches", desc := "(ZILjava/lang/String;II)Z" } : Jvm.MethodName) ({ cls := "java/lang/String", name := "regionMatches", desc := "(ZILjava/lang/String;II)Z" } : Jvm.MethodName)).before a0 Z = true := hw _ (List.mem_of_getElem? (i := 85) rfl)
theorem own_w86 {Z : State} {a0 : Array Value} (hw : own_W Z a0) : (Jvm.Cond.code ({ cls := "java/lang/String", name := "regionMatches", desc := "(ZILjava/lang/String;II)Z" } : Jvm.MethodName) jdk_42_method_74_code (9 : Nat) (Option.some Jvm.ClassFile.FieldType.boolean)).before a0 Z = true := hw _ (List.mem_of_getElem? (i := 86) rfl)
theorem own_w87 {Z : State} {a0 : Array Value} (hw : own_W Z a0) : (Jvm.Cond.fieldLink "com/example/isoscope/isoscope/TokenIsPinLaw" (65 : Nat) "com/example/isoscope/isoscope/SqlLexer$Kind" "PUNCTUATION" "Lcom/example/isoscope/isoscope/SqlLexer$Kind;").before a0 Z = true := hw _ (List.mem_of_getElem? (i := 87) rfl)
theorem own_w88 {Z : State} {a0 : Array Value} (hw : own_W Z a0) : (Jvm.Cond.laysStatic "com/example/isoscope/isoscope/SqlLexer$Kind" "PUNCTUATION" "Lcom/example/isoscope/isoscope/SqlLexer$Kind;").before a0 Z = true := hw _ (List.mem_of_getElem? (i := 88) rfl)
theorem own_w89 {Z : State} {a0 : Array Value} (hw : own_W Z a0) : (Jvm.Cond.methodLink "com/example/isoscope/isoscope/TokenIsPinLaw" (32 : Nat) ({ cls := "com/example/isoscope/isoscope/TokenIsPinLaw", name := "fold", desc := "(C)I" } : Jvm.MethodName)).before a0 Z = true := hw _ (List.mem_of_getElem? (i := 89) rfl)
theorem own_w90 {Z : State} {a0 : Array Value} (hw : own_W Z a0) : (Jvm.Cond.static ({ cls := "com/example/isoscope/isoscope/TokenIsPinLaw", name := "fold", desc := "(C)I" } : Jvm.MethodName)).before a0 Z = true := hw _ (List.mem_of_getElem? (i := 90) rfl)
theorem own_w91 {Z : State} {a0 : Array Value} (hw : own_W Z a0) : (Jvm.Cond.code ({ cls := "com/example/isoscope/isoscope/TokenIsPinLaw", name := "fold", desc := "(C)I" } : Jvm.MethodName) method_4_code (2 : Nat) (Option.some Jvm.ClassFile.FieldType.int)).before a0 Z = true := hw _ (List.mem_of_getElem? (i := 91) rfl)
theorem own_w92 {Z : State} {a0 : Array Value} (hw : own_W Z a0) : (Jvm.Cond.fieldLink "com/example/isoscope/isoscope/TokenIsPinLaw" (59 : Nat) "com/example/isoscope/isoscope/SqlLexer$Kind" "OPERATOR" "Lcom/example/isoscope/isoscope/SqlLexer$Kind;").before a0 Z = true := hw _ (List.mem_of_getElem? (i := 92) rfl)
theorem own_w93 {Z : State} {a0 : Array Value} (hw : own_W Z a0) : (Jvm.Cond.laysStatic "com/example/isoscope/isoscope/SqlLexer$Kind" "OPERATOR" "Lcom/example/isoscope/isoscope/SqlLexer$Kind;").before a0 Z = true := hw _ (List.mem_of_getElem? (i := 93) rfl)
theorem own_w94 {Z : State} {a0 : Array Value} (hw : own_W Z a0) : (Jvm.Cond.fieldLink "com/example/isoscope/isoscope/TokenIsPinLaw" (62 : Nat) "com/example/isoscope/isoscope/SqlLexer$Kind" "SEMICOLON" "Lcom/example/isoscope/isoscope/SqlLexer$Kind;").before a0 Z = true := hw _ (List.mem_of_getElem? (i := 94) rfl)
theorem own_w95 {Z : State} {a0 : Array Value} (hw : own_W Z a0) : (Jvm.Cond.laysStatic "com/example/isoscope/isoscope/SqlLexer$Kind" "SEMICOLON" "Lcom/example/isoscope/isoscope/SqlLexer$Kind;").before a0 Z = true := hw _ (List.mem_of_getElem? (i := 95) rfl)
theorem own_w96 {Z : State} {a0 : Array Value} (hw : own_W Z a0) : (Jvm.Cond.fieldLink "com/example/isoscope/isoscope/TokenIsPinLaw" (47 : Nat) "com/example/isoscope/isoscope/SqlLexer$Kind" "QUOTED_NAME" "Lcom/example/isoscope/isoscope/SqlLexer$Kind;").before a0 Z = true := hw _ (List.mem_of_getElem? (i := 96) rfl)
theorem own_w97 {Z : State} {a0 : Array Value} (hw : own_W Z a0) : (Jvm.Cond.laysStatic "com/example/isoscope/isoscope/SqlLexer$Kind" "QUOTED_NAME" "Lcom/example/isoscope/isoscope/SqlLexer$Kind;").before a0 Z = true := hw _ (List.mem_of_getElem? (i := 97) rfl)
theorem own_w98 {Z : State} {a0 : Array Value} (hw : own_W Z a0) : (Jvm.Cond.fieldLink "com/example/isoscope/isoscope/TokenIsPinLaw" (68 : Nat) "com/example/isoscope/isoscope/SqlLexer$Kind" "COMMENT" "Lcom/example/isoscope/isoscope/SqlLexer$Kind;").before a0 Z = true := hw _ (List.mem_of_getElem? (i := 98) rfl)
theorem own_w99 {Z : State} {a0 : Array Value} (hw : own_W Z a0) : (Jvm.Cond.laysStatic "com/example/isoscope/isoscope/SqlLexer$Kind" "COMMENT" "Lcom/example/isoscope/isoscope/SqlLexer$Kind;").before a0 Z = true := hw _ (List.mem_of_getElem? (i := 99) rfl)
theorem own_w100 {Z : State} {a0 : Array Value} (hw : own_W Z a0) : (Jvm.Cond.fieldLink "com/example/isoscope/isoscope/TokenIsPinLaw" (50 : Nat) "com/example/isoscope/isoscope/SqlLexer$Kind" "STRING" "Lcom/example/isoscope/isoscope/SqlLexer$Kind;").before a0 Z = true := hw _ (List.mem_of_getElem? (i := 100) rfl)
theorem own_w101 {Z : State} {a0 : Array Value} (hw : own_W Z a0) : (Jvm.Cond.laysStatic "com/example/isoscope/isoscope/SqlLexer$Kind" "STRING" "Lcom/example/isoscope/isoscope/SqlLexer$Kind;").before a0 Z = true := hw _ (List.mem_of_getElem? (i := 101) rfl)
theorem own_w102 {Z : State} {a0 : Array Value} (hw : own_W Z a0) : (Jvm.Cond.fieldLink "com/example/isoscope/isoscope/TokenIsPinLaw" (53 : Nat) "com/example/isoscope/isoscope/SqlLexer$Kind" "NUMBER" "Lcom/example/isoscope/isoscope/SqlLexer$Kind;").before a0 Z = true := hw _ (List.mem_of_getElem? (i := 102) rfl)
theorem own_w103 {Z : State} {a0 : Array Value} (hw : own_W Z a0) : (Jvm.Cond.laysStatic "com/example/isoscope/isoscope/SqlLexer$Kind" "NUMBER" "Lcom/example/isoscope/isoscope/SqlLexer$Kind;").before a0 Z = true := hw _ (List.mem_of_getElem? (i := 103) rfl)
theorem own_w104 {Z : State} {a0 : Array Value} (hw : own_W Z a0) : (Jvm.Cond.fieldLink "com/example/isoscope/isoscope/TokenIsPinLaw" (56 : Nat) "com/example/isoscope/isoscope/SqlLexer$Kind" "PARAMETER" "Lcom/example/isoscope/isoscope/SqlLexer$Kind;").before a0 Z = true := hw _ (List.mem_of_getElem? (i := 104) rfl)
theorem own_w105 {Z : State} {a0 : Array Value} (hw : own_W Z a0) : (Jvm.Cond.laysStatic "com/example/isoscope/isoscope/SqlLexer$Kind" "PARAMETER" "Lcom/example/isoscope/isoscope/SqlLexer$Kind;").before a0 Z = true := hw _ (List.mem_of_getElem? (i := 105) rfl)
theorem own_w106 {Z : State} {a0 : Array Value} (hw : own_W Z a0) : (Jvm.Cond.methodLink "java/lang/String" (505 : Nat) ({ cls := "java/lang/String", name := "length", desc := "()I" } : Jvm.MethodName)).before a0 Z = true := hw _ (List.mem_of_getElem? (i := 106) rfl)
theorem own_w107 {Z : State} {a0 : Array Value} (hw : own_W Z a0) : (Jvm.Cond.methodLink "java/lang/String" (613 : Nat) ({ cls := "java/lang/StringLatin1", name := "regionMatchesCI", desc := "([BI[BII)Z" } : Jvm.MethodName)).before a0 Z = true := hw _ (List.mem_of_getElem? (i := 107) rfl)
theorem own_w108 {Z : State} {a0 : Array Value} (hw : own_W Z a0) : (Jvm.Cond.static ({ cls := "java/lang/StringLatin1", name := "regionMatchesCI", desc := "([BI[BII)Z" } : Jvm.MethodName)).before a0 Z = true := hw _ (List.mem_of_getElem? (i := 108) rfl)
theorem own_w109 {Z : State} {a0 : Array Value} (hw : own_W Z a0) : (Jvm.Cond.initialized "java/lang/StringLatin1").before a0 Z = true := hw _ (List.mem_of_getElem? (i := 109) rfl)
theorem own_w110 {Z : State} {a0 : Array Value} (hw : own_W Z a0) : (Jvm.Cond.code ({ cls := "java/lang/StringLatin1", name := "regionMatchesCI", desc := "([BI[BII)Z" } : Jvm.MethodName) jdk_43_method_30_code (8 : Nat) (Option.some Jvm.ClassFile.FieldType.boolean)).before a0 Z = true := hw _ (List.mem_of_getElem? (i := 110) rfl)
theorem own_w111 {Z : State} {a0 : Array Value} (hw : own_W Z a0) : (Jvm.Cond.methodLink "java/lang/StringLatin1" (153 : Nat) ({ cls := "java/lang/CharacterDataLatin1", name := "equalsIgnoreCase", desc := "(BB)Z" } : Jvm.MethodName)).before a0 Z = true := hw _ (List.mem_of_getElem? (i := 111) rfl)
theorem own_w112 {Z : State} {a0 : Array Value} (hw : own_W Z a0) : (Jvm.Cond.static ({ cls := "java/lang/CharacterDataLatin1", name := "equalsIgnoreCase", desc := "(BB)Z" } : Jvm.MethodName)).before a0 Z = true := hw _ (List.mem_of_getElem? (i := 112) rfl)
theorem own_w113 {Z : State} {a0 : Array Value} (hw : own_W Z a0) : (Jvm.Cond.initialized "java/lang/CharacterDataLatin1").before a0 Z = true := hw _ (List.mem_of_getElem? (i := 113) rfl)
theorem own_w114 {Z : State} {a0 : Array Value} (hw : own_W Z a0) : (Jvm.Cond.code ({ cls := "java/lang/CharacterDataLatin1", name := "equalsIgnoreCase", desc := "(BB)Z" } : Jvm.MethodName) jdk_116_method_22_code (3 : Nat) (Option.some Jvm.ClassFile.FieldType.boolean)).before a0 Z = true := hw _ (List.mem_of_getElem? (i := 114) rfl)
theorem own_d1_0 : decode method_3_code 0 = .ok (.iload 5, 2) := by decide +kernel
theorem own_d1_2 : decode method_3_code 2 = .ok (.i2l, 1) := by decide +kernel
theorem own_d1_3 : decode method_3_code 3 = .ok (.iload_n 0, 1) := by decide +kernel
theorem own_d1_4 : decode method_3_code 4 = .ok (.i2l, 1) := by decide +kernel
theorem own_d1_5 : decode method_3_code 5 = .ok (.ladd, 1) := by decide +kernel
theorem own_d1_6 : decode method_3_code 6 = .ok (.lstore 6, 2) := by decide +kernel
theorem own_d1_8 : decode method_3_code 8 = .ok (.iload_n 1, 1) := by decide +kernel
theorem own_d1_9 : decode method_3_code 9 = .ok (.ifCond .eq 24, 3) := by decide +kernel
theorem own_d1_12 : decode method_3_code 12 = .ok (.iload_n 1, 1) := by decide +kernel
theorem own_d1_13 : decode method_3_code 13 = .ok (.iconst 3, 1) := by decide +kernel
theorem own_d1_14 : decode method_3_code 14 = .ok (.if_icmp .eq 19, 3) := by decide +kernel
theorem own_d1_17 : decode method_3_code 17 = .ok (.lload 6, 2) := by decide +kernel
theorem own_d1_19 : decode method_3_code 19 = .ok (.lconst 0, 1) := by decide +kernel
theorem own_d1_20 : decode method_3_code 20 = .ok (.lcmp, 1) := by decide +kernel
theorem own_d1_21 : decode method_3_code 21 = .ok (.ifCond .lt 12, 3) := by decide +kernel
theorem own_d1_24 : decode method_3_code 24 = .ok (.lload 6, 2) := by decide +kernel
theorem own_d1_26 : decode method_3_code 26 = .ok (.iload 4, 2) := by decide +kernel
theorem own_d1_28 : decode method_3_code 28 = .ok (.i2l, 1) := by decide +kernel
theorem own_d1_29 : decode method_3_code 29 = .ok (.lcmp, 1) := by decide +kernel
theorem own_d1_30 : decode method_3_code 30 = .ok (.ifCond .lt 6, 3) := by decide +kernel
theorem own_d1_33 : decode method_3_code 33 = .ok (.iload_n 2, 1) := by decide +kernel
theorem own_d1_34 : decode method_3_code 34 = .ok (.i2c, 1) := by decide +kernel
theorem own_d1_35 : decode method_3_code 35 = .ok (.ireturn, 1) := by decide +kernel
theorem own_d1_36 : decode method_3_code 36 = .ok (.aload_n 3, 1) := by decide +kernel
theorem own_d1_37 : decode method_3_code 37 = .ok (.lload 6, 2) := by decide +kernel
theorem own_d1_39 : decode method_3_code 39 = .ok (.l2i, 1) := by decide +kernel
theorem own_d1_40 : decode method_3_code 40 = .ok (.caload, 1) := by decide +kernel
theorem own_d1_41 : decode method_3_code 41 = .ok (.istore 8, 2) := by decide +kernel
theorem own_d1_43 : decode method_3_code 43 = .ok (.iload_n 1, 1) := by decide +kernel
theorem own_d1_44 : decode method_3_code 44 = .ok (.iconst 1, 1) := by decide +kernel
theorem own_d1_45 : decode method_3_code 45 = .ok (.if_icmp .ne 6, 3) := by decide +kernel
theorem own_d1_48 : decode method_3_code 48 = .ok (.iload 8, 2) := by decide +kernel
theorem own_d1_50 : decode method_3_code 50 = .ok (.ireturn, 1) := by decide +kernel
theorem own_d1_51 : decode method_3_code 51 = .ok (.iload 8, 2) := by decide +kernel
theorem own_d1_53 : decode method_3_code 53 = .ok (.bipush 32, 2) := by decide +kernel
theorem own_d1_55 : decode method_3_code 55 = .ok (.ixor, 1) := by decide +kernel
theorem own_d1_56 : decode method_3_code 56 = .ok (.i2c, 1) := by decide +kernel
theorem own_d1_57 : decode method_3_code 57 = .ok (.ireturn, 1) := by decide +kernel
theorem own_d2_0 : decode method_5_code 0 = .ok (.iload_n 1, 1) := by decide +kernel
theorem own_d2_1 : decode method_5_code 1 = .ok (.ifCond .gt 14, 3) := by decide +kernel
theorem own_d2_4 : decode method_5_code 4 = .ok (.new 36, 3) := by decide +kernel
theorem own_d2_7 : decode method_5_code 7 = .ok (.dup, 1) := by decide +kernel
theorem own_d2_8 : decode method_5_code 8 = .ok (.iconst 0, 1) := by decide +kernel
theorem own_d2_9 : decode method_5_code 9 = .ok (.newarray .char, 2) := by decide +kernel
theorem own_d2_11 : decode method_5_code 11 = .ok (.invokespecial 38, 3) := by decide +kernel
theorem own_d2_14 : decode method_5_code 14 = .ok (.areturn, 1) := by decide +kernel
theorem own_d2_15 : decode method_5_code 15 = .ok (.iload_n 1, 1) := by decide +kernel
theorem own_d2_16 : decode method_5_code 16 = .ok (.iconst 1, 1) := by decide +kernel
theorem own_d2_17 : decode method_5_code 17 = .ok (.if_icmp .ne 20, 3) := by decide +kernel
theorem own_d2_20 : decode method_5_code 20 = .ok (.new 36, 3) := by decide +kernel
theorem own_d2_23 : decode method_5_code 23 = .ok (.dup, 1) := by decide +kernel
theorem own_d2_24 : decode method_5_code 24 = .ok (.iconst 1, 1) := by decide +kernel
theorem own_d2_25 : decode method_5_code 25 = .ok (.newarray .char, 2) := by decide +kernel
theorem own_d2_27 : decode method_5_code 27 = .ok (.dup, 1) := by decide +kernel
theorem own_d2_28 : decode method_5_code 28 = .ok (.iconst 0, 1) := by decide +kernel
theorem own_d2_29 : decode method_5_code 29 = .ok (.aload_n 0, 1) := by decide +kernel
theorem own_d2_30 : decode method_5_code 30 = .ok (.iconst 0, 1) := by decide +kernel
theorem own_d2_31 : decode method_5_code 31 = .ok (.caload, 1) := by decide +kernel
theorem own_d2_32 : decode method_5_code 32 = .ok (.castore, 1) := by decide +kernel
theorem own_d2_33 : decode method_5_code 33 = .ok (.invokespecial 38, 3) := by decide +kernel
theorem own_d2_36 : decode method_5_code 36 = .ok (.areturn, 1) := by decide +kernel
theorem own_d2_37 : decode method_5_code 37 = .ok (.iload_n 1, 1) := by decide +kernel
theorem own_d2_38 : decode method_5_code 38 = .ok (.iconst 2, 1) := by decide +kernel
theorem own_d2_39 : decode method_5_code 39 = .ok (.if_icmp .ne 26, 3) := by decide +kernel
theorem own_d2_42 : decode method_5_code 42 = .ok (.new 36, 3) := by decide +kernel
theorem own_d2_45 : decode method_5_code 45 = .ok (.dup, 1) := by decide +kernel
theorem own_d2_46 : decode method_5_code 46 = .ok (.iconst 2, 1) := by decide +kernel
theorem own_d2_47 : decode method_5_code 47 = .ok (.newarray .char, 2) := by decide +kernel
theorem own_d2_49 : decode method_5_code 49 = .ok (.dup, 1) := by decide +kernel
theorem own_d2_50 : decode method_5_code 50 = .ok (.iconst 0, 1) := by decide +kernel
theorem own_d2_51 : decode method_5_code 51 = .ok (.aload_n 0, 1) := by decide +kernel
theorem own_d2_52 : decode method_5_code 52 = .ok (.iconst 0, 1) := by decide +kernel
theorem own_d2_53 : decode method_5_code 53 = .ok (.caload, 1) := by decide +kernel
theorem own_d2_54 : decode method_5_code 54 = .ok (.castore, 1) := by decide +kernel
theorem own_d2_55 : decode method_5_code 55 = .ok (.dup, 1) := by decide +kernel
theorem own_d2_56 : decode method_5_code 56 = .ok (.iconst 1, 1) := by decide +kernel
theorem own_d2_57 : decode method_5_code 57 = .ok (.aload_n 0, 1) := by decide +kernel
theorem own_d2_58 : decode method_5_code 58 = .ok (.iconst 1, 1) := by decide +kernel
theorem own_d2_59 : decode method_5_code 59 = .ok (.caload, 1) := by decide +kernel
theorem own_d2_60 : decode method_5_code 60 = .ok (.castore, 1) := by decide +kernel
theorem own_d2_61 : decode method_5_code 61 = .ok (.invokespecial 38, 3) := by decide +kernel
theorem own_d2_64 : decode method_5_code 64 = .ok (.areturn, 1) := by decide +kernel
theorem own_d2_65 : decode method_5_code 65 = .ok (.iload_n 1, 1) := by decide +kernel
theorem own_d2_66 : decode method_5_code 66 = .ok (.iconst 3, 1) := by decide +kernel
theorem own_d2_67 : decode method_5_code 67 = .ok (.if_icmp .ne 32, 3) := by decide +kernel
theorem own_d2_70 : decode method_5_code 70 = .ok (.new 36, 3) := by decide +kernel
theorem own_d2_73 : decode method_5_code 73 = .ok (.dup, 1) := by decide +kernel
theorem own_d2_74 : decode method_5_code 74 = .ok (.iconst 3, 1) := by decide +kernel
theorem own_d2_75 : decode method_5_code 75 = .ok (.newarray .char, 2) := by decide +kernel
theorem own_d2_77 : decode method_5_code 77 = .ok (.dup, 1) := by decide +kernel
theorem own_d2_78 : decode method_5_code 78 = .ok (.iconst 0, 1) := by decide +kernel
theorem own_d2_79 : decode method_5_code 79 = .ok (.aload_n 0, 1) := by decide +kernel
theorem own_d2_80 : decode method_5_code 80 = .ok (.iconst 0, 1) := by decide +kernel
theorem own_d2_81 : decode method_5_code 81 = .ok (.caload, 1) := by decide +kernel
theorem own_d2_82 : decode method_5_code 82 = .ok (.castore, 1) := by decide +kernel
theorem own_d2_83 : decode method_5_code 83 = .ok (.dup, 1) := by decide +kernel
theorem own_d2_84 : decode method_5_code 84 = .ok (.iconst 1, 1) := by decide +kernel
theorem own_d2_85 : decode method_5_code 85 = .ok (.aload_n 0, 1) := by decide +kernel
theorem own_d2_86 : decode method_5_code 86 = .ok (.iconst 1, 1) := by decide +kernel
theorem own_d2_87 : decode method_5_code 87 = .ok (.caload, 1) := by decide +kernel
theorem own_d2_88 : decode method_5_code 88 = .ok (.castore, 1) := by decide +kernel
theorem own_d2_89 : decode method_5_code 89 = .ok (.dup, 1) := by decide +kernel
theorem own_d2_90 : decode method_5_code 90 = .ok (.iconst 2, 1) := by decide +kernel
theorem own_d2_91 : decode method_5_code 91 = .ok (.aload_n 0, 1) := by decide +kernel
theorem own_d2_92 : decode method_5_code 92 = .ok (.iconst 2, 1) := by decide +kernel
theorem own_d2_93 : decode method_5_code 93 = .ok (.caload, 1) := by decide +kernel
theorem own_d2_94 : decode method_5_code 94 = .ok (.castore, 1) := by decide +kernel
theorem own_d2_95 : decode method_5_code 95 = .ok (.invokespecial 38, 3) := by decide +kernel
theorem own_d2_98 : decode method_5_code 98 = .ok (.areturn, 1) := by decide +kernel
theorem own_d2_99 : decode method_5_code 99 = .ok (.iload_n 1, 1) := by decide +kernel
theorem own_d2_100 : decode method_5_code 100 = .ok (.iconst 4, 1) := by decide +kernel
theorem own_d2_101 : decode method_5_code 101 = .ok (.if_icmp .ne 38, 3) := by decide +kernel
theorem own_d2_104 : decode method_5_code 104 = .ok (.new 36, 3) := by decide +kernel
theorem own_d2_107 : decode method_5_code 107 = .ok (.dup, 1) := by decide +kernel
theorem own_d2_108 : decode method_5_code 108 = .ok (.iconst 4, 1) := by decide +kernel
theorem own_d2_109 : decode method_5_code 109 = .ok (.newarray .char, 2) := by decide +kernel
theorem own_d2_111 : decode method_5_code 111 = .ok (.dup, 1) := by decide +kernel
theorem own_d2_112 : decode method_5_code 112 = .ok (.iconst 0, 1) := by decide +kernel
theorem own_d2_113 : decode method_5_code 113 = .ok (.aload_n 0, 1) := by decide +kernel
theorem own_d2_114 : decode method_5_code 114 = .ok (.iconst 0, 1) := by decide +kernel
theorem own_d2_115 : decode method_5_code 115 = .ok (.caload, 1) := by decide +kernel
theorem own_d2_116 : decode method_5_code 116 = .ok (.castore, 1) := by decide +kernel
theorem own_d2_117 : decode method_5_code 117 = .ok (.dup, 1) := by decide +kernel
theorem own_d2_118 : decode method_5_code 118 = .ok (.iconst 1, 1) := by decide +kernel
theorem own_d2_119 : decode method_5_code 119 = .ok (.aload_n 0, 1) := by decide +kernel
theorem own_d2_120 : decode method_5_code 120 = .ok (.iconst 1, 1) := by decide +kernel
theorem own_d2_121 : decode method_5_code 121 = .ok (.caload, 1) := by decide +kernel
theorem own_d2_122 : decode method_5_code 122 = .ok (.castore, 1) := by decide +kernel
theorem own_d2_123 : decode method_5_code 123 = .ok (.dup, 1) := by decide +kernel
theorem own_d2_124 : decode method_5_code 124 = .ok (.iconst 2, 1) := by decide +kernel
theorem own_d2_125 : decode method_5_code 125 = .ok (.aload_n 0, 1) := by decide +kernel
theorem own_d2_126 : decode method_5_code 126 = .ok (.iconst 2, 1) := by decide +kernel
theorem own_d2_127 : decode method_5_code 127 = .ok (.caload, 1) := by decide +kernel
theorem own_d2_128 : decode method_5_code 128 = .ok (.castore, 1) := by decide +kernel
theorem own_d2_129 : decode method_5_code 129 = .ok (.dup, 1) := by decide +kernel
theorem own_d2_130 : decode method_5_code 130 = .ok (.iconst 3, 1) := by decide +kernel
theorem own_d2_131 : decode method_5_code 131 = .ok (.aload_n 0, 1) := by decide +kernel
theorem own_d2_132 : decode method_5_code 132 = .ok (.iconst 3, 1) := by decide +kernel
theorem own_d2_133 : decode method_5_code 133 = .ok (.caload, 1) := by decide +kernel
theorem own_d2_134 : decode method_5_code 134 = .ok (.castore, 1) := by decide +kernel
theorem own_d2_135 : decode method_5_code 135 = .ok (.invokespecial 38, 3) := by decide +kernel
theorem own_d2_138 : decode method_5_code 138 = .ok (.areturn, 1) := by decide +kernel
theorem own_d2_139 : decode method_5_code 139 = .ok (.iload_n 1, 1) := by decide +kernel
theorem own_d2_140 : decode method_5_code 140 = .ok (.iconst 5, 1) := by decide +kernel
theorem own_d2_141 : decode method_5_code 141 = .ok (.if_icmp .ne 44, 3) := by decide +kernel
theorem own_d2_144 : decode method_5_code 144 = .ok (.new 36, 3) := by decide +kernel
theorem own_d2_147 : decode method_5_code 147 = .ok (.dup, 1) := by decide +kernel
theorem own_d2_148 : decode method_5_code 148 = .ok (.iconst 5, 1) := by decide +kernel
theorem own_d2_149 : decode method_5_code 149 = .ok (.newarray .char, 2) := by decide +kernel
theorem own_d2_151 : decode method_5_code 151 = .ok (.dup, 1) := by decide +kernel
theorem own_d2_152 : decode method_5_code 152 = .ok (.iconst 0, 1) := by decide +kernel
theorem own_d2_153 : decode method_5_code 153 = .ok (.aload_n 0, 1) := by decide +kernel
theorem own_d2_154 : decode method_5_code 154 = .ok (.iconst 0, 1) := by decide +kernel
theorem own_d2_155 : decode method_5_code 155 = .ok (.caload, 1) := by decide +kernel
theorem own_d2_156 : decode method_5_code 156 = .ok (.castore, 1) := by decide +kernel
theorem own_d2_157 : decode method_5_code 157 = .ok (.dup, 1) := by decide +kernel
theorem own_d2_158 : decode method_5_code 158 = .ok (.iconst 1, 1) := by decide +kernel
theorem own_d2_159 : decode method_5_code 159 = .ok (.aload_n 0, 1) := by decide +kernel
theorem own_d2_160 : decode method_5_code 160 = .ok (.iconst 1, 1) := by decide +kernel
theorem own_d2_161 : decode method_5_code 161 = .ok (.caload, 1) := by decide +kernel
theorem own_d2_162 : decode method_5_code 162 = .ok (.castore, 1) := by decide +kernel
theorem own_d2_163 : decode method_5_code 163 = .ok (.dup, 1) := by decide +kernel
theorem own_d2_164 : decode method_5_code 164 = .ok (.iconst 2, 1) := by decide +kernel
theorem own_d2_165 : decode method_5_code 165 = .ok (.aload_n 0, 1) := by decide +kernel
theorem own_d2_166 : decode method_5_code 166 = .ok (.iconst 2, 1) := by decide +kernel
theorem own_d2_167 : decode method_5_code 167 = .ok (.caload, 1) := by decide +kernel
theorem own_d2_168 : decode method_5_code 168 = .ok (.castore, 1) := by decide +kernel
theorem own_d2_169 : decode method_5_code 169 = .ok (.dup, 1) := by decide +kernel
theorem own_d2_170 : decode method_5_code 170 = .ok (.iconst 3, 1) := by decide +kernel
theorem own_d2_171 : decode method_5_code 171 = .ok (.aload_n 0, 1) := by decide +kernel
theorem own_d2_172 : decode method_5_code 172 = .ok (.iconst 3, 1) := by decide +kernel
theorem own_d2_173 : decode method_5_code 173 = .ok (.caload, 1) := by decide +kernel
theorem own_d2_174 : decode method_5_code 174 = .ok (.castore, 1) := by decide +kernel
theorem own_d2_175 : decode method_5_code 175 = .ok (.dup, 1) := by decide +kernel
theorem own_d2_176 : decode method_5_code 176 = .ok (.iconst 4, 1) := by decide +kernel
theorem own_d2_177 : decode method_5_code 177 = .ok (.aload_n 0, 1) := by decide +kernel
theorem own_d2_178 : decode method_5_code 178 = .ok (.iconst 4, 1) := by decide +kernel
theorem own_d2_179 : decode method_5_code 179 = .ok (.caload, 1) := by decide +kernel
theorem own_d2_180 : decode method_5_code 180 = .ok (.castore, 1) := by decide +kernel
theorem own_d2_181 : decode method_5_code 181 = .ok (.invokespecial 38, 3) := by decide +kernel
theorem own_d2_184 : decode method_5_code 184 = .ok (.areturn, 1) := by decide +kernel
theorem own_d3_0 : decode jdk_42_method_3_code 0 = .ok (.aload_n 0, 1) := by decide +kernel
theorem own_d3_1 : decode jdk_42_method_3_code 1 = .ok (.aload_n 1, 1) := by decide +kernel
theorem own_d3_2 : decode jdk_42_method_3_code 2 = .ok (.iconst 0, 1) := by decide +kernel
theorem own_d3_3 : decode jdk_42_method_3_code 3 = .ok (.aload_n 1, 1) := by decide +kernel
theorem own_d3_4 : decode jdk_42_method_3_code 4 = .ok (.arraylength, 1) := by decide +kernel
theorem own_d3_5 : decode jdk_42_method_3_code 5 = .ok (.aconst_null, 1) := by decide +kernel
theorem own_d3_6 : decode jdk_42_method_3_code 6 = .ok (.invokespecial 27, 3) := by decide +kernel
theorem own_d3_9 : decode jdk_42_method_3_code 9 = .ok (.return_, 1) := by decide +kernel
theorem own_d4_0 : decode jdk_42_method_149_code 0 = .ok (.aload_n 0, 1) := by decide +kernel
theorem own_d4_1 : decode jdk_42_method_149_code 1 = .ok (.invokespecial 1, 3) := by decide +kernel
theorem own_d4_4 : decode jdk_42_method_149_code 4 = .ok (.iload_n 3, 1) := by decide +kernel
theorem own_d4_5 : decode jdk_42_method_149_code 5 = .ok (.ifCond .ne 22, 3) := by decide +kernel
theorem own_d4_8 : decode jdk_42_method_149_code 8 = .ok (.aload_n 0, 1) := by decide +kernel
theorem own_d4_9 : decode jdk_42_method_149_code 9 = .ok (.ldc 7, 2) := by decide +kernel
theorem own_d4_11 : decode jdk_42_method_149_code 11 = .ok (.getfield 9, 3) := by decide +kernel
theorem own_d4_14 : decode jdk_42_method_149_code 14 = .ok (.putfield 9, 3) := by decide +kernel
theorem own_d4_17 : decode jdk_42_method_149_code 17 = .ok (.aload_n 0, 1) := by decide +kernel
theorem own_d4_18 : decode jdk_42_method_149_code 18 = .ok (.ldc 7, 2) := by decide +kernel
theorem own_d4_20 : decode jdk_42_method_149_code 20 = .ok (.getfield 15, 3) := by decide +kernel
theorem own_d4_23 : decode jdk_42_method_149_code 23 = .ok (.putfield 15, 3) := by decide +kernel
theorem own_d4_26 : decode jdk_42_method_149_code 26 = .ok (.return_, 1) := by decide +kernel
theorem own_d4_27 : decode jdk_42_method_149_code 27 = .ok (.getstatic 38, 3) := by decide +kernel
theorem own_d4_30 : decode jdk_42_method_149_code 30 = .ok (.ifCond .eq 28, 3) := by decide +kernel
theorem own_d4_33 : decode jdk_42_method_149_code 33 = .ok (.aload_n 1, 1) := by decide +kernel
theorem own_d4_34 : decode jdk_42_method_149_code 34 = .ok (.iload_n 2, 1) := by decide +kernel
theorem own_d4_35 : decode jdk_42_method_149_code 35 = .ok (.iload_n 3, 1) := by decide +kernel
theorem own_d4_36 : decode jdk_42_method_149_code 36 = .ok (.invokestatic 177, 3) := by decide +kernel
theorem own_d4_39 : decode jdk_42_method_149_code 39 = .ok (.astore 5, 2) := by decide +kernel
theorem own_d4_41 : decode jdk_42_method_149_code 41 = .ok (.aload_n 0, 1) := by decide +kernel
theorem own_d4_42 : decode jdk_42_method_149_code 42 = .ok (.aload 5, 2) := by decide +kernel
theorem own_d4_44 : decode jdk_42_method_149_code 44 = .ok (.iload_n 3, 1) := by decide +kernel
theorem own_d4_45 : decode jdk_42_method_149_code 45 = .ok (.invokestatic 47, 3) := by decide +kernel
theorem own_d4_48 : decode jdk_42_method_149_code 48 = .ok (.putfield 15, 3) := by decide +kernel
theorem own_d4_51 : decode jdk_42_method_149_code 51 = .ok (.aload_n 0, 1) := by decide +kernel
theorem own_d4_52 : decode jdk_42_method_149_code 52 = .ok (.aload 5, 2) := by decide +kernel
theorem own_d4_54 : decode jdk_42_method_149_code 54 = .ok (.putfield 9, 3) := by decide +kernel
theorem own_d4_57 : decode jdk_42_method_149_code 57 = .ok (.return_, 1) := by decide +kernel
theorem own_d6_0 : decode jdk_52_method_16_code 0 = .ok (.iload_n 2, 1) := by decide +kernel
theorem own_d6_1 : decode jdk_52_method_16_code 1 = .ok (.newarray .byte, 2) := by decide +kernel
theorem own_d6_3 : decode jdk_52_method_16_code 3 = .ok (.astore_n 3, 1) := by decide +kernel
theorem own_d6_4 : decode jdk_52_method_16_code 4 = .ok (.aload_n 0, 1) := by decide +kernel
theorem own_d6_5 : decode jdk_52_method_16_code 5 = .ok (.iload_n 1, 1) := by decide +kernel
theorem own_d6_6 : decode jdk_52_method_16_code 6 = .ok (.aload_n 3, 1) := by decide +kernel
theorem own_d6_7 : decode jdk_52_method_16_code 7 = .ok (.iconst 0, 1) := by decide +kernel
theorem own_d6_8 : decode jdk_52_method_16_code 8 = .ok (.iload_n 2, 1) := by decide +kernel
theorem own_d6_9 : decode jdk_52_method_16_code 9 = .ok (.invokestatic 115, 3) := by decide +kernel
theorem own_d6_12 : decode jdk_52_method_16_code 12 = .ok (.istore 4, 2) := by decide +kernel
theorem own_d6_14 : decode jdk_52_method_16_code 14 = .ok (.iload 4, 2) := by decide +kernel
theorem own_d6_16 : decode jdk_52_method_16_code 16 = .ok (.iload_n 2, 1) := by decide +kernel
theorem own_d6_17 : decode jdk_52_method_16_code 17 = .ok (.if_icmp .eq 40, 3) := by decide +kernel
theorem own_d6_57 : decode jdk_52_method_16_code 57 = .ok (.aload_n 3, 1) := by decide +kernel
theorem own_d6_58 : decode jdk_52_method_16_code 58 = .ok (.areturn, 1) := by decide +kernel
theorem own_d7_0 : decode jdk_52_method_21_code 0 = .ok (.iconst 0, 1) := by decide +kernel
theorem own_d7_1 : decode jdk_52_method_21_code 1 = .ok (.istore 5, 2) := by decide +kernel
theorem own_d7_3 : decode jdk_52_method_21_code 3 = .ok (.iload 5, 2) := by decide +kernel
theorem own_d7_5 : decode jdk_52_method_21_code 5 = .ok (.iload 4, 2) := by decide +kernel
theorem own_d7_7 : decode jdk_52_method_21_code 7 = .ok (.if_icmp .ge 37, 3) := by decide +kernel
theorem own_d7_10 : decode jdk_52_method_21_code 10 = .ok (.aload_n 0, 1) := by decide +kernel
theorem own_d7_11 : decode jdk_52_method_21_code 11 = .ok (.iload_n 1, 1) := by decide +kernel
theorem own_d7_12 : decode jdk_52_method_21_code 12 = .ok (.caload, 1) := by decide +kernel
theorem own_d7_13 : decode jdk_52_method_21_code 13 = .ok (.istore 6, 2) := by decide +kernel
theorem own_d7_15 : decode jdk_52_method_21_code 15 = .ok (.iload 6, 2) := by decide +kernel
theorem own_d7_17 : decode jdk_52_method_21_code 17 = .ok (.sipush 255, 3) := by decide +kernel
theorem own_d7_20 : decode jdk_52_method_21_code 20 = .ok (.if_icmp .le 6, 3) := by decide +kernel
theorem own_d7_26 : decode jdk_52_method_21_code 26 = .ok (.aload_n 2, 1) := by decide +kernel
theorem own_d7_27 : decode jdk_52_method_21_code 27 = .ok (.iload_n 3, 1) := by decide +kernel
theorem own_d7_28 : decode jdk_52_method_21_code 28 = .ok (.iload 6, 2) := by decide +kernel
theorem own_d7_30 : decode jdk_52_method_21_code 30 = .ok (.i2b, 1) := by decide +kernel
theorem own_d7_31 : decode jdk_52_method_21_code 31 = .ok (.bastore, 1) := by decide +kernel
theorem own_d7_32 : decode jdk_52_method_21_code 32 = .ok (.iinc 1 1, 3) := by decide +kernel
theorem own_d7_35 : decode jdk_52_method_21_code 35 = .ok (.iinc 3 1, 3) := by decide +kernel
theorem own_d7_38 : decode jdk_52_method_21_code 38 = .ok (.iinc 5 1, 3) := by decide +kernel
theorem own_d7_41 : decode jdk_52_method_21_code 41 = .ok (.goto (-38), 3) := by decide +kernel
theorem own_d7_44 : decode jdk_52_method_21_code 44 = .ok (.iload 4, 2) := by decide +kernel
theorem own_d7_46 : decode jdk_52_method_21_code 46 = .ok (.ireturn, 1) := by decide +kernel
theorem own_d8_0 : decode jdk_52_method_15_code 0 = .ok (.iload_n 1, 1) := by decide +kernel
theorem own_d8_1 : decode jdk_52_method_15_code 1 = .ok (.aload_n 0, 1) := by decide +kernel
theorem own_d8_2 : decode jdk_52_method_15_code 2 = .ok (.arraylength, 1) := by decide +kernel
theorem own_d8_3 : decode jdk_52_method_15_code 3 = .ok (.isub, 1) := by decide +kernel
theorem own_d8_4 : decode jdk_52_method_15_code 4 = .ok (.bipush 31, 2) := by decide +kernel
theorem own_d8_6 : decode jdk_52_method_15_code 6 = .ok (.iushr, 1) := by decide +kernel
theorem own_d8_7 : decode jdk_52_method_15_code 7 = .ok (.i2b, 1) := by decide +kernel
theorem own_d8_8 : decode jdk_52_method_15_code 8 = .ok (.ireturn, 1) := by decide +kernel
theorem own_d9_0 : decode method_6_code 0 = .ok (.iload_n 0, 1) := by decide +kernel
theorem own_d9_1 : decode method_6_code 1 = .ok (.ifCond .ne 7, 3) := by decide +kernel
theorem own_d9_4 : decode method_6_code 4 = .ok (.getstatic 41, 3) := by decide +kernel
theorem own_d9_7 : decode method_6_code 7 = .ok (.areturn, 1) := by decide +kernel
theorem own_d9_8 : decode method_6_code 8 = .ok (.iload_n 0, 1) := by decide +kernel
theorem own_d9_9 : decode method_6_code 9 = .ok (.iconst 1, 1) := by decide +kernel
theorem own_d9_10 : decode method_6_code 10 = .ok (.if_icmp .ne 7, 3) := by decide +kernel
theorem own_d9_13 : decode method_6_code 13 = .ok (.getstatic 47, 3) := by decide +kernel
theorem own_d9_16 : decode method_6_code 16 = .ok (.areturn, 1) := by decide +kernel
theorem own_d9_17 : decode method_6_code 17 = .ok (.iload_n 0, 1) := by decide +kernel
theorem own_d9_18 : decode method_6_code 18 = .ok (.iconst 2, 1) := by decide +kernel
theorem own_d9_19 : decode method_6_code 19 = .ok (.if_icmp .ne 7, 3) := by decide +kernel
theorem own_d9_22 : decode method_6_code 22 = .ok (.getstatic 50, 3) := by decide +kernel
theorem own_d9_25 : decode method_6_code 25 = .ok (.areturn, 1) := by decide +kernel
theorem own_d9_26 : decode method_6_code 26 = .ok (.iload_n 0, 1) := by decide +kernel
theorem own_d9_27 : decode method_6_code 27 = .ok (.iconst 3, 1) := by decide +kernel
theorem own_d9_28 : decode method_6_code 28 = .ok (.if_icmp .ne 7, 3) := by decide +kernel
theorem own_d9_31 : decode method_6_code 31 = .ok (.getstatic 53, 3) := by decide +kernel
theorem own_d9_34 : decode method_6_code 34 = .ok (.areturn, 1) := by decide +kernel
theorem own_d9_35 : decode method_6_code 35 = .ok (.iload_n 0, 1) := by decide +kernel
theorem own_d9_36 : decode method_6_code 36 = .ok (.iconst 4, 1) := by decide +kernel
theorem own_d9_37 : decode method_6_code 37 = .ok (.if_icmp .ne 7, 3) := by decide +kernel
theorem own_d9_40 : decode method_6_code 40 = .ok (.getstatic 56, 3) := by decide +kernel
theorem own_d9_43 : decode method_6_code 43 = .ok (.areturn, 1) := by decide +kernel
theorem own_d9_44 : decode method_6_code 44 = .ok (.iload_n 0, 1) := by decide +kernel
theorem own_d9_45 : decode method_6_code 45 = .ok (.iconst 5, 1) := by decide +kernel
theorem own_d9_46 : decode method_6_code 46 = .ok (.if_icmp .ne 7, 3) := by decide +kernel
theorem own_d9_49 : decode method_6_code 49 = .ok (.getstatic 59, 3) := by decide +kernel
theorem own_d9_52 : decode method_6_code 52 = .ok (.areturn, 1) := by decide +kernel
theorem own_d9_53 : decode method_6_code 53 = .ok (.iload_n 0, 1) := by decide +kernel
theorem own_d9_54 : decode method_6_code 54 = .ok (.bipush 6, 2) := by decide +kernel
theorem own_d9_56 : decode method_6_code 56 = .ok (.if_icmp .ne 7, 3) := by decide +kernel
theorem own_d9_59 : decode method_6_code 59 = .ok (.getstatic 62, 3) := by decide +kernel
theorem own_d9_62 : decode method_6_code 62 = .ok (.areturn, 1) := by decide +kernel
theorem own_d9_63 : decode method_6_code 63 = .ok (.iload_n 0, 1) := by decide +kernel
theorem own_d9_64 : decode method_6_code 64 = .ok (.bipush 7, 2) := by decide +kernel
theorem own_d9_66 : decode method_6_code 66 = .ok (.if_icmp .ne 7, 3) := by decide +kernel
theorem own_d9_69 : decode method_6_code 69 = .ok (.getstatic 65, 3) := by decide +kernel
theorem own_d9_72 : decode method_6_code 72 = .ok (.areturn, 1) := by decide +kernel
theorem own_d9_73 : decode method_6_code 73 = .ok (.getstatic 68, 3) := by decide +kernel
theorem own_d9_76 : decode method_6_code 76 = .ok (.areturn, 1) := by decide +kernel
theorem own_d10_0 : decode prog_29_method_1_code 0 = .ok (.aload_n 0, 1) := by decide +kernel
theorem own_d10_1 : decode prog_29_method_1_code 1 = .ok (.invokespecial 1, 3) := by decide +kernel
theorem own_d10_4 : decode prog_29_method_1_code 4 = .ok (.aload_n 0, 1) := by decide +kernel
theorem own_d10_5 : decode prog_29_method_1_code 5 = .ok (.aload_n 1, 1) := by decide +kernel
theorem own_d10_6 : decode prog_29_method_1_code 6 = .ok (.putfield 7, 3) := by decide +kernel
theorem own_d10_9 : decode prog_29_method_1_code 9 = .ok (.aload_n 0, 1) := by decide +kernel
theorem own_d10_10 : decode prog_29_method_1_code 10 = .ok (.iload_n 2, 1) := by decide +kernel
theorem own_d10_11 : decode prog_29_method_1_code 11 = .ok (.putfield 13, 3) := by decide +kernel
theorem own_d10_14 : decode prog_29_method_1_code 14 = .ok (.aload_n 0, 1) := by decide +kernel
theorem own_d10_15 : decode prog_29_method_1_code 15 = .ok (.iload_n 3, 1) := by decide +kernel
theorem own_d10_16 : decode prog_29_method_1_code 16 = .ok (.putfield 17, 3) := by decide +kernel
theorem own_d10_19 : decode prog_29_method_1_code 19 = .ok (.aload_n 0, 1) := by decide +kernel
theorem own_d10_20 : decode prog_29_method_1_code 20 = .ok (.iload 4, 2) := by decide +kernel
theorem own_d10_22 : decode prog_29_method_1_code 22 = .ok (.putfield 20, 3) := by decide +kernel
theorem own_d10_25 : decode prog_29_method_1_code 25 = .ok (.return_, 1) := by decide +kernel
theorem own_d11_0 : decode jdk_30_method_1_code 0 = .ok (.aload_n 0, 1) := by decide +kernel
theorem own_d11_1 : decode jdk_30_method_1_code 1 = .ok (.invokespecial 1, 3) := by decide +kernel
theorem own_d11_4 : decode jdk_30_method_1_code 4 = .ok (.return_, 1) := by decide +kernel
theorem own_d12_0 : decode prog_29_method_2_code 0 = .ok (.aload_n 0, 1) := by decide +kernel
theorem own_d12_1 : decode prog_29_method_2_code 1 = .ok (.getfield 7, 3) := by decide +kernel
theorem own_d12_4 : decode prog_29_method_2_code 4 = .ok (.aload_n 2, 1) := by decide +kernel
theorem own_d12_5 : decode prog_29_method_2_code 5 = .ok (.if_acmp .ne 41, 3) := by decide +kernel
theorem own_d12_8 : decode prog_29_method_2_code 8 = .ok (.aload_n 0, 1) := by decide +kernel
theorem own_d12_9 : decode prog_29_method_2_code 9 = .ok (.getfield 17, 3) := by decide +kernel
theorem own_d12_12 : decode prog_29_method_2_code 12 = .ok (.aload_n 0, 1) := by decide +kernel
theorem own_d12_13 : decode prog_29_method_2_code 13 = .ok (.getfield 13, 3) := by decide +kernel
theorem own_d12_16 : decode prog_29_method_2_code 16 = .ok (.isub, 1) := by decide +kernel
theorem own_d12_17 : decode prog_29_method_2_code 17 = .ok (.aload_n 3, 1) := by decide +kernel
theorem own_d12_18 : decode prog_29_method_2_code 18 = .ok (.invokevirtual 24, 3) := by decide +kernel
theorem own_d12_21 : decode prog_29_method_2_code 21 = .ok (.if_icmp .ne 25, 3) := by decide +kernel
theorem own_d12_24 : decode prog_29_method_2_code 24 = .ok (.aload_n 1, 1) := by decide +kernel
theorem own_d12_25 : decode prog_29_method_2_code 25 = .ok (.iconst 1, 1) := by decide +kernel
theorem own_d12_26 : decode prog_29_method_2_code 26 = .ok (.aload_n 0, 1) := by decide +kernel
theorem own_d12_27 : decode prog_29_method_2_code 27 = .ok (.getfield 13, 3) := by decide +kernel
theorem own_d12_30 : decode prog_29_method_2_code 30 = .ok (.aload_n 3, 1) := by decide +kernel
theorem own_d12_31 : decode prog_29_method_2_code 31 = .ok (.iconst 0, 1) := by decide +kernel
theorem own_d12_32 : decode prog_29_method_2_code 32 = .ok (.aload_n 3, 1) := by decide +kernel
theorem own_d12_33 : decode prog_29_method_2_code 33 = .ok (.invokevirtual 24, 3) := by decide +kernel
theorem own_d12_36 : decode prog_29_method_2_code 36 = .ok (.invokevirtual 30, 3) := by decide +kernel
theorem own_d12_39 : decode prog_29_method_2_code 39 = .ok (.ifCond .eq 7, 3) := by decide +kernel
theorem own_d12_42 : decode prog_29_method_2_code 42 = .ok (.iconst 1, 1) := by decide +kernel
theorem own_d12_43 : decode prog_29_method_2_code 43 = .ok (.goto 4, 3) := by decide +kernel
theorem own_d12_46 : decode prog_29_method_2_code 46 = .ok (.iconst 0, 1) := by decide +kernel
theorem own_d12_47 : decode prog_29_method_2_code 47 = .ok (.ireturn, 1) := by decide +kernel
theorem own_d13_0 : decode jdk_42_method_54_code 0 = .ok (.aload_n 0, 1) := by decide +kernel
theorem own_d13_1 : decode jdk_42_method_54_code 1 = .ok (.getfield 9, 3) := by decide +kernel
theorem own_d13_4 : decode jdk_42_method_54_code 4 = .ok (.arraylength, 1) := by decide +kernel
theorem own_d13_5 : decode jdk_42_method_54_code 5 = .ok (.aload_n 0, 1) := by decide +kernel
theorem own_d13_6 : decode jdk_42_method_54_code 6 = .ok (.invokevirtual 335, 3) := by decide +kernel
theorem own_d13_9 : decode jdk_42_method_54_code 9 = .ok (.ishr, 1) := by decide +kernel
theorem own_d13_10 : decode jdk_42_method_54_code 10 = .ok (.ireturn, 1) := by decide +kernel
theorem own_d14_0 : decode jdk_42_method_152_code 0 = .ok (.getstatic 38, 3) := by decide +kernel
theorem own_d14_3 : decode jdk_42_method_152_code 3 = .ok (.ifCond .eq 10, 3) := by decide +kernel
theorem own_d14_6 : decode jdk_42_method_152_code 6 = .ok (.aload_n 0, 1) := by decide +kernel
theorem own_d14_7 : decode jdk_42_method_152_code 7 = .ok (.getfield 15, 3) := by decide +kernel
theorem own_d14_10 : decode jdk_42_method_152_code 10 = .ok (.goto 4, 3) := by decide +kernel
theorem own_d14_14 : decode jdk_42_method_152_code 14 = .ok (.ireturn, 1) := by decide +kernel
theorem own_d15_0 : decode jdk_42_method_74_code 0 = .ok (.iload_n 1, 1) := by decide +kernel
theorem own_d15_1 : decode jdk_42_method_74_code 1 = .ok (.ifCond .ne 14, 3) := by decide +kernel
theorem own_d15_15 : decode jdk_42_method_74_code 15 = .ok (.iload 4, 2) := by decide +kernel
theorem own_d15_17 : decode jdk_42_method_74_code 17 = .ok (.ifCond .lt 38, 3) := by decide +kernel
theorem own_d15_20 : decode jdk_42_method_74_code 20 = .ok (.iload_n 2, 1) := by decide +kernel
theorem own_d15_21 : decode jdk_42_method_74_code 21 = .ok (.ifCond .lt 34, 3) := by decide +kernel
theorem own_d15_24 : decode jdk_42_method_74_code 24 = .ok (.iload_n 2, 1) := by decide +kernel
theorem own_d15_25 : decode jdk_42_method_74_code 25 = .ok (.i2l, 1) := by decide +kernel
theorem own_d15_26 : decode jdk_42_method_74_code 26 = .ok (.aload_n 0, 1) := by decide +kernel
theorem own_d15_27 : decode jdk_42_method_74_code 27 = .ok (.invokevirtual 505, 3) := by decide +kernel
theorem own_d15_30 : decode jdk_42_method_74_code 30 = .ok (.i2l, 1) := by decide +kernel
theorem own_d15_31 : decode jdk_42_method_74_code 31 = .ok (.iload 5, 2) := by decide +kernel
theorem own_d15_33 : decode jdk_42_method_74_code 33 = .ok (.i2l, 1) := by decide +kernel
theorem own_d15_34 : decode jdk_42_method_74_code 34 = .ok (.lsub, 1) := by decide +kernel
theorem own_d15_35 : decode jdk_42_method_74_code 35 = .ok (.lcmp, 1) := by decide +kernel
theorem own_d15_36 : decode jdk_42_method_74_code 36 = .ok (.ifCond .gt 19, 3) := by decide +kernel
theorem own_d15_39 : decode jdk_42_method_74_code 39 = .ok (.iload 4, 2) := by decide +kernel
theorem own_d15_41 : decode jdk_42_method_74_code 41 = .ok (.i2l, 1) := by decide +kernel
theorem own_d15_42 : decode jdk_42_method_74_code 42 = .ok (.aload_n 3, 1) := by decide +kernel
theorem own_d15_43 : decode jdk_42_method_74_code 43 = .ok (.invokevirtual 505, 3) := by decide +kernel
theorem own_d15_46 : decode jdk_42_method_74_code 46 = .ok (.i2l, 1) := by decide +kernel
theorem own_d15_47 : decode jdk_42_method_74_code 47 = .ok (.iload 5, 2) := by decide +kernel
theorem own_d15_49 : decode jdk_42_method_74_code 49 = .ok (.i2l, 1) := by decide +kernel
theorem own_d15_50 : decode jdk_42_method_74_code 50 = .ok (.lsub, 1) := by decide +kernel
theorem own_d15_51 : decode jdk_42_method_74_code 51 = .ok (.lcmp, 1) := by decide +kernel
theorem own_d15_52 : decode jdk_42_method_74_code 52 = .ok (.ifCond .le 5, 3) := by decide +kernel
theorem own_d15_55 : decode jdk_42_method_74_code 55 = .ok (.iconst 0, 1) := by decide +kernel
theorem own_d15_56 : decode jdk_42_method_74_code 56 = .ok (.ireturn, 1) := by decide +kernel
theorem own_d15_57 : decode jdk_42_method_74_code 57 = .ok (.aload_n 0, 1) := by decide +kernel
theorem own_d15_58 : decode jdk_42_method_74_code 58 = .ok (.getfield 9, 3) := by decide +kernel
theorem own_d15_61 : decode jdk_42_method_74_code 61 = .ok (.astore 6, 2) := by decide +kernel
theorem own_d15_63 : decode jdk_42_method_74_code 63 = .ok (.aload_n 3, 1) := by decide +kernel
theorem own_d15_64 : decode jdk_42_method_74_code 64 = .ok (.getfield 9, 3) := by decide +kernel
theorem own_d15_67 : decode jdk_42_method_74_code 67 = .ok (.astore 7, 2) := by decide +kernel
theorem own_d15_69 : decode jdk_42_method_74_code 69 = .ok (.aload_n 0, 1) := by decide +kernel
theorem own_d15_70 : decode jdk_42_method_74_code 70 = .ok (.invokevirtual 335, 3) := by decide +kernel
theorem own_d15_73 : decode jdk_42_method_74_code 73 = .ok (.istore 8, 2) := by decide +kernel
theorem own_d15_75 : decode jdk_42_method_74_code 75 = .ok (.iload 8, 2) := by decide +kernel
theorem own_d15_77 : decode jdk_42_method_74_code 77 = .ok (.aload_n 3, 1) := by decide +kernel
theorem own_d15_78 : decode jdk_42_method_74_code 78 = .ok (.invokevirtual 335, 3) := by decide +kernel
theorem own_d15_81 : decode jdk_42_method_74_code 81 = .ok (.if_icmp .ne 36, 3) := by decide +kernel
theorem own_d15_84 : decode jdk_42_method_74_code 84 = .ok (.iload 8, 2) := by decide +kernel
theorem own_d15_86 : decode jdk_42_method_74_code 86 = .ok (.ifCond .ne 18, 3) := by decide +kernel
theorem own_d15_89 : decode jdk_42_method_74_code 89 = .ok (.aload 6, 2) := by decide +kernel
theorem own_d15_91 : decode jdk_42_method_74_code 91 = .ok (.iload_n 2, 1) := by decide +kernel
theorem own_d15_92 : decode jdk_42_method_74_code 92 = .ok (.aload 7, 2) := by decide +kernel
theorem own_d15_94 : decode jdk_42_method_74_code 94 = .ok (.iload 4, 2) := by decide +kernel
theorem own_d15_96 : decode jdk_42_method_74_code 96 = .ok (.iload 5, 2) := by decide +kernel
theorem own_d15_98 : decode jdk_42_method_74_code 98 = .ok (.invokestatic 613, 3) := by decide +kernel
theorem own_d15_101 : decode jdk_42_method_74_code 101 = .ok (.goto 15, 3) := by decide +kernel
theorem own_d15_116 : decode jdk_42_method_74_code 116 = .ok (.ireturn, 1) := by decide +kernel
theorem own_d16_0 : decode method_4_code 0 = .ok (.iload_n 0, 1) := by decide +kernel
theorem own_d16_1 : decode method_4_code 1 = .ok (.istore_n 1, 1) := by decide +kernel
theorem own_d16_2 : decode method_4_code 2 = .ok (.iload_n 1, 1) := by decide +kernel
theorem own_d16_3 : decode method_4_code 3 = .ok (.bipush 65, 2) := by decide +kernel
theorem own_d16_5 : decode method_4_code 5 = .ok (.if_icmp .lt 14, 3) := by decide +kernel
theorem own_d16_8 : decode method_4_code 8 = .ok (.iload_n 1, 1) := by decide +kernel
theorem own_d16_9 : decode method_4_code 9 = .ok (.bipush 90, 2) := by decide +kernel
theorem own_d16_11 : decode method_4_code 11 = .ok (.if_icmp .gt 8, 3) := by decide +kernel
theorem own_d16_14 : decode method_4_code 14 = .ok (.iload_n 1, 1) := by decide +kernel
theorem own_d16_15 : decode method_4_code 15 = .ok (.bipush 32, 2) := by decide +kernel
theorem own_d16_17 : decode method_4_code 17 = .ok (.iadd, 1) := by decide +kernel
theorem own_d16_18 : decode method_4_code 18 = .ok (.ireturn, 1) := by decide +kernel
theorem own_d16_19 : decode method_4_code 19 = .ok (.iload_n 1, 1) := by decide +kernel
theorem own_d16_20 : decode method_4_code 20 = .ok (.sipush 192, 3) := by decide +kernel
theorem own_d16_23 : decode method_4_code 23 = .ok (.if_icmp .lt 22, 3) := by decide +kernel
theorem own_d16_26 : decode method_4_code 26 = .ok (.iload_n 1, 1) := by decide +kernel
theorem own_d16_27 : decode method_4_code 27 = .ok (.sipush 222, 3) := by decide +kernel
theorem own_d16_30 : decode method_4_code 30 = .ok (.if_icmp .gt 15, 3) := by decide +kernel
theorem own_d16_33 : decode method_4_code 33 = .ok (.iload_n 1, 1) := by decide +kernel
theorem own_d16_34 : decode method_4_code 34 = .ok (.sipush 215, 3) := by decide +kernel
theorem own_d16_37 : decode method_4_code 37 = .ok (.if_icmp .eq 8, 3) := by decide +kernel
theorem own_d16_40 : decode method_4_code 40 = .ok (.iload_n 1, 1) := by decide +kernel
theorem own_d16_41 : decode method_4_code 41 = .ok (.bipush 32, 2) := by decide +kernel
theorem own_d16_43 : decode method_4_code 43 = .ok (.iadd, 1) := by decide +kernel
theorem own_d16_44 : decode method_4_code 44 = .ok (.ireturn, 1) := by decide +kernel
theorem own_d16_45 : decode method_4_code 45 = .ok (.iload_n 1, 1) := by decide +kernel
theorem own_d16_46 : decode method_4_code 46 = .ok (.ireturn, 1) := by decide +kernel
theorem own_d17_0 : decode jdk_43_method_30_code 0 = .ok (.iload_n 1, 1) := by decide +kernel
theorem own_d17_1 : decode jdk_43_method_30_code 1 = .ok (.iload 4, 2) := by decide +kernel
theorem own_d17_3 : decode jdk_43_method_30_code 3 = .ok (.iadd, 1) := by decide +kernel
theorem own_d17_4 : decode jdk_43_method_30_code 4 = .ok (.istore 5, 2) := by decide +kernel
theorem own_d17_6 : decode jdk_43_method_30_code 6 = .ok (.iload_n 1, 1) := by decide +kernel
theorem own_d17_7 : decode jdk_43_method_30_code 7 = .ok (.iload 5, 2) := by decide +kernel
theorem own_d17_9 : decode jdk_43_method_30_code 9 = .ok (.if_icmp .ge 34, 3) := by decide +kernel
theorem own_d17_12 : decode jdk_43_method_30_code 12 = .ok (.aload_n 0, 1) := by decide +kernel
theorem own_d17_13 : decode jdk_43_method_30_code 13 = .ok (.iload_n 1, 1) := by decide +kernel
theorem own_d17_14 : decode jdk_43_method_30_code 14 = .ok (.iinc 1 1, 3) := by decide +kernel
theorem own_d17_17 : decode jdk_43_method_30_code 17 = .ok (.baload, 1) := by decide +kernel
theorem own_d17_18 : decode jdk_43_method_30_code 18 = .ok (.istore 6, 2) := by decide +kernel
theorem own_d17_20 : decode jdk_43_method_30_code 20 = .ok (.aload_n 2, 1) := by decide +kernel
theorem own_d17_21 : decode jdk_43_method_30_code 21 = .ok (.iload_n 3, 1) := by decide +kernel
theorem own_d17_22 : decode jdk_43_method_30_code 22 = .ok (.iinc 3 1, 3) := by decide +kernel
theorem own_d17_25 : decode jdk_43_method_30_code 25 = .ok (.baload, 1) := by decide +kernel
theorem own_d17_26 : decode jdk_43_method_30_code 26 = .ok (.istore 7, 2) := by decide +kernel
theorem own_d17_28 : decode jdk_43_method_30_code 28 = .ok (.iload 6, 2) := by decide +kernel
theorem own_d17_30 : decode jdk_43_method_30_code 30 = .ok (.iload 7, 2) := by decide +kernel
theorem own_d17_32 : decode jdk_43_method_30_code 32 = .ok (.invokestatic 153, 3) := by decide +kernel
theorem own_d17_35 : decode jdk_43_method_30_code 35 = .ok (.ifCond .eq 6, 3) := by decide +kernel
theorem own_d17_38 : decode jdk_43_method_30_code 38 = .ok (.goto (-32), 3) := by decide +kernel
theorem own_d17_41 : decode jdk_43_method_30_code 41 = .ok (.iconst 0, 1) := by decide +kernel
theorem own_d17_42 : decode jdk_43_method_30_code 42 = .ok (.ireturn, 1) := by decide +kernel
theorem own_d17_43 : decode jdk_43_method_30_code 43 = .ok (.iconst 1, 1) := by decide +kernel
theorem own_d17_44 : decode jdk_43_method_30_code 44 = .ok (.ireturn, 1) := by decide +kernel
theorem own_d18_0 : decode jdk_116_method_22_code 0 = .ok (.iload_n 0, 1) := by decide +kernel
theorem own_d18_1 : decode jdk_116_method_22_code 1 = .ok (.iload_n 1, 1) := by decide +kernel
theorem own_d18_2 : decode jdk_116_method_22_code 2 = .ok (.if_icmp .ne 5, 3) := by decide +kernel
theorem own_d18_5 : decode jdk_116_method_22_code 5 = .ok (.iconst 1, 1) := by decide +kernel
theorem own_d18_6 : decode jdk_116_method_22_code 6 = .ok (.ireturn, 1) := by decide +kernel
theorem own_d18_7 : decode jdk_116_method_22_code 7 = .ok (.iload_n 0, 1) := by decide +kernel
theorem own_d18_8 : decode jdk_116_method_22_code 8 = .ok (.sipush 223, 3) := by decide +kernel
theorem own_d18_11 : decode jdk_116_method_22_code 11 = .ok (.iand, 1) := by decide +kernel
theorem own_d18_12 : decode jdk_116_method_22_code 12 = .ok (.istore_n 2, 1) := by decide +kernel
theorem own_d18_13 : decode jdk_116_method_22_code 13 = .ok (.iload_n 2, 1) := by decide +kernel
theorem own_d18_14 : decode jdk_116_method_22_code 14 = .ok (.bipush 65, 2) := by decide +kernel
theorem own_d18_16 : decode jdk_116_method_22_code 16 = .ok (.if_icmp .ge 5, 3) := by decide +kernel
theorem own_d18_19 : decode jdk_116_method_22_code 19 = .ok (.iconst 0, 1) := by decide +kernel
theorem own_d18_20 : decode jdk_116_method_22_code 20 = .ok (.ireturn, 1) := by decide +kernel
theorem own_d18_21 : decode jdk_116_method_22_code 21 = .ok (.iload_n 2, 1) := by decide +kernel
theorem own_d18_22 : decode jdk_116_method_22_code 22 = .ok (.bipush 90, 2) := by decide +kernel
theorem own_d18_24 : decode jdk_116_method_22_code 24 = .ok (.if_icmp .le 24, 3) := by decide +kernel
theorem own_d18_27 : decode jdk_116_method_22_code 27 = .ok (.iload_n 2, 1) := by decide +kernel
theorem own_d18_28 : decode jdk_116_method_22_code 28 = .ok (.sipush 192, 3) := by decide +kernel
theorem own_d18_31 : decode jdk_116_method_22_code 31 = .ok (.if_icmp .lt 30, 3) := by decide +kernel
theorem own_d18_34 : decode jdk_116_method_22_code 34 = .ok (.iload_n 2, 1) := by decide +kernel
theorem own_d18_35 : decode jdk_116_method_22_code 35 = .ok (.sipush 222, 3) := by decide +kernel
theorem own_d18_38 : decode jdk_116_method_22_code 38 = .ok (.if_icmp .gt 23, 3) := by decide +kernel
theorem own_d18_41 : decode jdk_116_method_22_code 41 = .ok (.iload_n 2, 1) := by decide +kernel
theorem own_d18_42 : decode jdk_116_method_22_code 42 = .ok (.sipush 215, 3) := by decide +kernel
theorem own_d18_45 : decode jdk_116_method_22_code 45 = .ok (.if_icmp .eq 16, 3) := by decide +kernel
theorem own_d18_48 : decode jdk_116_method_22_code 48 = .ok (.iload_n 2, 1) := by decide +kernel
theorem own_d18_49 : decode jdk_116_method_22_code 49 = .ok (.iload_n 1, 1) := by decide +kernel
theorem own_d18_50 : decode jdk_116_method_22_code 50 = .ok (.sipush 223, 3) := by decide +kernel
theorem own_d18_53 : decode jdk_116_method_22_code 53 = .ok (.iand, 1) := by decide +kernel
theorem own_d18_54 : decode jdk_116_method_22_code 54 = .ok (.if_icmp .ne 7, 3) := by decide +kernel
theorem own_d18_57 : decode jdk_116_method_22_code 57 = .ok (.iconst 1, 1) := by decide +kernel
theorem own_d18_58 : decode jdk_116_method_22_code 58 = .ok (.goto 4, 3) := by decide +kernel
theorem own_d18_61 : decode jdk_116_method_22_code 61 = .ok (.iconst 0, 1) := by decide +kernel
theorem own_d18_62 : decode jdk_116_method_22_code 62 = .ok (.ireturn, 1) := by decide +kernel
theorem own_pd0 : parseMethodDescriptor "([CI[BII)I" = some ⟨[(.array .char), .int, (.array .byte), .int, .int], some .int⟩ := by decide +kernel
theorem own_pd1 : parseMethodDescriptor "([CII)[B" = some ⟨[(.array .char), .int, .int], some (.array .byte)⟩ := by decide +kernel
theorem own_pd2 : parseMethodDescriptor "([BI)B" = some ⟨[(.array .byte), .int], some .byte⟩ := by decide +kernel
theorem own_pd3 : parseMethodDescriptor "([CIILjava/lang/Void;)V" = some ⟨[(.array .char), .int, .int, (.object "java/lang/Void")], none⟩ := by decide +kernel
theorem own_pd4 : parseMethodDescriptor "([C)V" = some ⟨[(.array .char)], none⟩ := by decide +kernel
theorem own_pd5 : parseMethodDescriptor "()V" = some ⟨[], none⟩ := by decide +kernel
theorem own_pd6 : parseMethodDescriptor "()B" = some ⟨[], some .byte⟩ := by decide +kernel
theorem own_pd7 : parseMethodDescriptor "()I" = some ⟨[], some .int⟩ := by decide +kernel
theorem own_pd8 : parseMethodDescriptor "([BI[BII)Z" = some ⟨[(.array .byte), .int, (.array .byte), .int, .int], some .boolean⟩ := by decide +kernel
theorem own_pd9 : parseMethodDescriptor "(ZILjava/lang/String;II)Z" = some ⟨[.boolean, .int, (.object "java/lang/String"), .int, .int], some .boolean⟩ := by decide +kernel
theorem own_pd10 : parseMethodDescriptor "(BB)Z" = some ⟨[.byte, .byte], some .boolean⟩ := by decide +kernel
theorem own_pd11 : parseMethodDescriptor "(I)Lcom/example/isoscope/isoscope/SqlLexer$Kind;" = some ⟨[.int], some (.object "com/example/isoscope/isoscope/SqlLexer$Kind")⟩ := by decide +kernel
theorem own_pd12 : parseMethodDescriptor "(Lcom/example/isoscope/isoscope/SqlLexer$Kind;IIZ)V" = some ⟨[(.object "com/example/isoscope/isoscope/SqlLexer$Kind"), .int, .int, .boolean], none⟩ := by decide +kernel
theorem own_pd13 : parseMethodDescriptor "(Ljava/lang/String;Lcom/example/isoscope/isoscope/SqlLexer$Kind;Ljava/lang/String;)Z" = some ⟨[(.object "java/lang/String"), (.object "com/example/isoscope/isoscope/SqlLexer$Kind"), (.object "java/lang/String")], some .boolean⟩ := by decide +kernel
theorem own_pd14 : parseMethodDescriptor "(C)I" = some ⟨[.char], some .int⟩ := by decide +kernel
theorem own_pd15 : parseMethodDescriptor "([CI)Ljava/lang/String;" = some ⟨[(.array .char), .int], some (.object "java/lang/String")⟩ := by decide +kernel
theorem own_pd16 : parseMethodDescriptor "(III[CII)C" = some ⟨[.int, .int, .int, (.array .char), .int, .int], some .char⟩ := by decide +kernel
theorem own_pn0 : plainName "java/lang/StringUTF16" = true := by first | (simp [plainName, overriddenIn]; done) | decide +kernel
theorem own_pn1 : plainName "java/lang/String" = true := by first | (simp [plainName, overriddenIn]; done) | decide +kernel
theorem own_pn2 : plainName "com/example/isoscope/isoscope/TokenIsPinLaw" = true := by first | (simp [plainName, overriddenIn]; done) | decide +kernel
theorem own_pn3 : plainName "java/lang/Record" = true := by first | (simp [plainName, overriddenIn]; done) | decide +kernel
theorem own_pn4 : plainName "com/example/isoscope/isoscope/SqlLexer$Token" = true := by first | (simp [plainName, overriddenIn]; done) | decide +kernel
theorem own_pn5 : plainName "java/lang/CharacterDataLatin1" = true := by first | (simp [plainName, overriddenIn]; done) | decide +kernel
theorem own_pn6 : plainName "java/lang/StringLatin1" = true := by first | (simp [plainName, overriddenIn]; done) | decide +kernel
theorem own_ef7 (m : MethodId) (a1 : Addr) (p1 : Int32) (a2 : Addr) (p2 : Int32) (p3 : Int32) : entryFrame m #[(.ref a1), (.int p1), (.ref a2), (.int p2), (.int p3)] 7 = mkF m 0 #[.val (.ref a1), .val (.int p1), .val (.ref a2), .val (.int p2), .val (.int p3), .unset, .unset] [] := by first | (simp [entryFrame, mkF, argsToLocals, Value.category]; done) | rfl
theorem own_ef6 (m : MethodId) (a1 : Addr) (p1 : Int32) (p2 : Int32) : entryFrame m #[(.ref a1), (.int p1), (.int p2)] 6 = mkF m 0 #[.val (.ref a1), .val (.int p1), .val (.int p2), .unset, .unset, .unset] [] := by first | (simp [entryFrame, mkF, argsToLocals, Value.category]; done) | rfl
theorem own_ef8 (m : MethodId) (a1 : Addr) (p1 : Int32) : entryFrame m #[(.ref a1), (.int p1)] 2 = mkF m 0 #[.val (.ref a1), .val (.int p1)] [] := by first | (simp [entryFrame, mkF, argsToLocals, Value.category]; done) | rfl
theorem own_ef4n (m : MethodId) (a1 : Addr) (a2 : Addr) (p1 : Int32) (p2 : Int32) : entryFrame m #[(.ref a1), (.ref a2), (.int p1), (.int p2), .null] 6 = mkF m 0 #[.val (.ref a1), .val (.ref a2), .val (.int p1), .val (.int p2), .val .null, .unset] [] := by first | (simp [entryFrame, mkF, argsToLocals, Value.category]; done) | rfl
theorem own_ef3 (m : MethodId) (a1 : Addr) (a2 : Addr) : entryFrame m #[(.ref a1), (.ref a2)] 2 = mkF m 0 #[.val (.ref a1), .val (.ref a2)] [] := by first | (simp [entryFrame, mkF, argsToLocals, Value.category]; done) | rfl
theorem own_ef2 (m : MethodId) (a1 : Addr) (p1 : Int32) : entryFrame m #[(.ref a1), (.int p1)] 2 = mkF m 0 #[.val (.ref a1), .val (.int p1)] [] := by first | (simp [entryFrame, mkF, argsToLocals, Value.category]; done) | rfl
theorem own_ef1 (m : MethodId) (i : Int32) (md : Int32) (bb : Int32) (a1 : Addr) (r : Int32) (st : Int32) : entryFrame m #[(.int i), (.int md), (.int bb), (.ref a1), (.int r), (.int st)] 9 = mkF m 0 #[.val (.int i), .val (.int md), .val (.int bb), .val (.ref a1), .val (.int r), .val (.int st), .unset, .unset, .unset] [] := by first | (simp [entryFrame, mkF, argsToLocals, Value.category]; done) | rfl
theorem own_ef9 (m : MethodId) (p1 : Int32) : entryFrame m #[(.int p1)] 1 = mkF m 0 #[.val (.int p1)] [] := by first | (simp [entryFrame, mkF, argsToLocals, Value.category]; done) | rfl
theorem own_ef11 (m : MethodId) (a1 : Addr) : entryFrame m #[(.ref a1)] 1 = mkF m 0 #[.val (.ref a1)] [] := by first | (simp [entryFrame, mkF, argsToLocals, Value.category]; done) | rfl
theorem own_ef10 (m : MethodId) (a1 : Addr) (a2 : Addr) (st : Int32) (en : Int32) (sp : Int32) : entryFrame m #[(.ref a1), (.ref a2), (.int st), (.int en), (.int sp)] 5 = mkF m 0 #[.val (.ref a1), .val (.ref a2), .val (.int st), .val (.int en), .val (.int sp)] [] := by first | (simp [entryFrame, mkF, argsToLocals, Value.category]; done) | rfl
theorem own_ef14 (m : MethodId) (a1 : Addr) : entryFrame m #[(.ref a1)] 1 = mkF m 0 #[.val (.ref a1)] [] := by first | (simp [entryFrame, mkF, argsToLocals, Value.category]; done) | rfl
theorem own_ef13 (m : MethodId) (a1 : Addr) : entryFrame m #[(.ref a1)] 1 = mkF m 0 #[.val (.ref a1)] [] := by first | (simp [entryFrame, mkF, argsToLocals, Value.category]; done) | rfl
theorem own_ef18 (m : MethodId) (x : Int32) (y : Int32) : entryFrame m #[(.int x), (.int y)] 3 = mkF m 0 #[.val (.int x), .val (.int y), .unset] [] := by first | (simp [entryFrame, mkF, argsToLocals, Value.category]; done) | rfl
theorem own_ef16 (m : MethodId) (cx : Int32) : entryFrame m #[(.int cx)] 2 = mkF m 0 #[.val (.int cx), .unset] [] := by first | (simp [entryFrame, mkF, argsToLocals, Value.category]; done) | rfl
theorem own_ef17 (m : MethodId) (a1 : Addr) (st : Int32) (a2 : Addr) (p1 : Int32) (p2 : Int32) : entryFrame m #[(.ref a1), (.int st), (.ref a2), (.int p1), (.int p2)] 8 = mkF m 0 #[.val (.ref a1), .val (.int st), .val (.ref a2), .val (.int p1), .val (.int p2), .unset, .unset, .unset] [] := by first | (simp [entryFrame, mkF, argsToLocals, Value.category]; done) | rfl
theorem own_ef15 (m : MethodId) (a1 : Addr) (p0 : Int32) (st : Int32) (a2 : Addr) (p1 : Int32) (p2 : Int32) : entryFrame m #[(.ref a1), (.int p0), (.int st), (.ref a2), (.int p1), (.int p2)] 9 = mkF m 0 #[.val (.ref a1), .val (.int p0), .val (.int st), .val (.ref a2), .val (.int p1), .val (.int p2), .unset, .unset, .unset] [] := by first | (simp [entryFrame, mkF, argsToLocals, Value.category]; done) | rfl
theorem own_ef12 (m : MethodId) (ta : Addr) (a1 : Addr) (wk2 : Addr) (a2 : Addr) : entryFrame m #[(.ref ta), (.ref a1), (.ref wk2), (.ref a2)] 4 = mkF m 0 #[.val (.ref ta), .val (.ref a1), .val (.ref wk2), .val (.ref a2)] [] := by first | (simp [entryFrame, mkF, argsToLocals, Value.category]; done) | rfl
theorem own_ef0 (m : MethodId) (p1 : Int32) (p2 : Int32) (p3 : Int32) (q4 : Int64) (q5 : Int64) (p6 : Int32) : entryFrame m #[(.int p1), (.int p2), (.int p3), (.long q4), (.long q5), (.int p6)] maxLocals = mkF m 0 #[.val (.int p1), .val (.int p2), .val (.int p3), .val (.long q4), .second, .val (.long q5), .second, .val (.int p6), .unset, .unset, .unset, .unset, .unset, .unset, .unset, .unset, .unset, .unset, .unset, .unset, .unset, .unset, .unset, .unset] [] := by first | (simp [entryFrame, mkF, argsToLocals, Value.category, maxLocals]; done) | rfl
def own_ch (c : Int32) : Prop := 0 ≤ c.toInt ∧ c.toInt ≤ 255
theorem own_narc {c : Int32} (h : own_ch c) : nar .char c = c := by
  have q := c_i2c c
  show c.toUInt32.toUInt16.toUInt32.toInt32 = c
  refine Int32.toInt_inj.mp ?_
  obtain ⟨h1, h2⟩ := h
  omega
theorem own_le255 {c : Int32} (h : own_ch c) : ¬ (255 : Int32) < c := fun q => by
  have := Int32.lt_iff_toInt_lt.mp q
  have z : (255 : Int32).toInt = 255 := by decide
  obtain ⟨h1, h2⟩ := h
  omega
theorem own_i2c {c : Int32} (h : own_ch c) : own_ch (nar .char (c.toUInt32.toUInt16.toUInt32.toInt32)) := by
  have e : c.toUInt32.toUInt16.toUInt32.toInt32 = c := own_narc h
  rw [e, own_narc h]; exact h
theorem own_lb (x : Int64) : own_ch ((x &&& 255).toInt32) := by
  have h := c_maskL x 255 8 (by decide) (by decide)
  have q := c_l2i (x &&& 255)
  have r := rng32 ((x &&& 255).toInt32)
  unfold own_ch
  omega
theorem own_fin {c : Int32} (h : own_ch c) : ∃ k : Fin 256, c = Int32.ofNat k.1 := by
  obtain ⟨h1, h2⟩ := h
  refine ⟨⟨c.toInt.toNat, by omega⟩, Int32.toInt_inj.mp ?_⟩
  rw [Int32.toInt_ofNat_of_lt (by show c.toInt.toNat < _; omega)]
  show c.toInt = (c.toInt.toNat : Int)
  omega
theorem own_xorF : ∀ k : Fin 256, 0 ≤ (Int32.ofNat k.1 ^^^ 32).toInt ∧ (Int32.ofNat k.1 ^^^ 32).toInt ≤ 255 := by decide +kernel
theorem own_xor {c : Int32} (h : own_ch c) : own_ch (c ^^^ 32) := by
  obtain ⟨k, rfl⟩ := own_fin h
  exact own_xorF k
def own_eic (x y : Int32) : Int32 := if x = y then 1 else if x &&& 223 < 65 then 0 else if (90 : Int32) < x &&& 223 then (if x &&& 223 < 192 then 0 else if (222 : Int32) < x &&& 223 then 0 else if x &&& 223 = 215 then 0 else if x &&& 223 = y &&& 223 then 1 else 0) else if x &&& 223 = y &&& 223 then 1 else 0
def own_fold (c : Int32) : Int32 := if c < 65 then (if c < 192 then c else if (222 : Int32) < c then c else if c = 215 then c else c + 32) else if (90 : Int32) < c then (if c < 192 then c else if (222 : Int32) < c then c else if c = 215 then c else c + 32) else c + 32
def own_V (g : Int32) : Bool := !decide (g < 65) && (!decide ((90 : Int32) < g) || (!decide (g < 192) && !decide ((222 : Int32) < g) && !decide (g = 215)))
def own_B (c : Int32) : Int32 := nar .byte (c.toInt8.toInt32)
theorem own_eicV (x y : Int32) : own_eic x y = if x = y then 1 else if own_V (x &&& 223) = true ∧ x &&& 223 = y &&& 223 then 1 else 0 := by
  unfold own_eic own_V
  generalize x &&& 223 = g
  generalize y &&& 223 = g'
  by_cases a : x = y
  · simp [a]
  · rw [if_neg a, if_neg a]
    by_cases h : g = g'
    · subst h
      by_cases b : g < 65 <;> by_cases c : (90 : Int32) < g <;> by_cases d : g < 192 <;> by_cases e : (222 : Int32) < g <;> by_cases f : g = 215 <;> simp only [b, c, d, e, f, if_true, if_false, decide_true, decide_false, Bool.not_true, Bool.not_false, Bool.and_true, Bool.and_false, Bool.or_true, Bool.or_false, Bool.true_and, Bool.false_and, Bool.true_or, Bool.false_or, and_self, and_true, true_and, and_false, false_and] <;> first | rfl | simp
    · by_cases b : g < 65 <;> by_cases c : (90 : Int32) < g <;> by_cases d : g < 192 <;> by_cases e : (222 : Int32) < g <;> by_cases f : g = 215 <;> simp [h, b, c, d, e, f]
theorem own_F1 : ∀ k : Fin 256, own_V (own_B (Int32.ofNat k.1) &&& 223) = true → own_fold (Int32.ofNat k.1) = (own_B (Int32.ofNat k.1) &&& 223) + 32 := by decide +kernel
theorem own_F2 : ∀ k : Fin 256, own_V (own_B (Int32.ofNat k.1) &&& 223) = false → own_fold (Int32.ofNat k.1) = Int32.ofNat k.1 := by decide +kernel
theorem own_F3 : ∀ k : Fin 256, own_V (own_B (Int32.ofNat k.1) &&& 223) = true → own_V (own_B (own_fold (Int32.ofNat k.1)) &&& 223) = true := by decide +kernel
theorem own_F4 : ∀ k : Fin 256, (own_B (Int32.ofNat k.1)) &&& 255 = Int32.ofNat k.1 := by decide +kernel
theorem own_ci {c d : Int32} (hc : own_ch c) (hd : own_ch d) : own_eic (own_B c) (own_B d) = if own_fold c = own_fold d then 1 else 0 := by
  obtain ⟨i, rfl⟩ := own_fin hc
  obtain ⟨j, rfl⟩ := own_fin hd
  rw [own_eicV]
  have a1 := own_F1 i; have a2 := own_F2 i; have a3 := own_F3 i; have a4 := own_F4 i
  have b1 := own_F1 j; have b2 := own_F2 j; have b3 := own_F3 j; have b4 := own_F4 j
  generalize hC : Int32.ofNat i.1 = C at a1 a2 a3 a4 ⊢
  generalize hD : Int32.ofNat j.1 = D at b1 b2 b3 b4 ⊢
  by_cases e : own_B C = own_B D
  · have : C = D := by rw [← a4, ← b4, e]
    subst this
    simp
  · have ne : ¬ C = D := fun q => e (by rw [q])
    rw [if_neg e]
    cases vC : own_V (own_B C &&& 223)
    · cases vD : own_V (own_B D &&& 223)
      · rw [a2 vC, b2 vD]; simp [ne]
      · rw [a2 vC]
        have : ¬ C = own_fold D := fun q => by rw [q, b3 vD] at vC; cases vC
        simp [this]
    · cases vD : own_V (own_B D &&& 223)
      · rw [b2 vD]
        have : ¬ own_fold C = D := fun q => by rw [← q, a3 vC] at vD; cases vD
        have n2 : ¬ own_B C &&& 223 = own_B D &&& 223 := fun q => by rw [← q, vC] at vD; cases vD
        simp [this, n2]
      · rw [a1 vC, b1 vD]
        by_cases g : own_B C &&& 223 = own_B D &&& 223
        · simp [g]
        · have : ¬ (own_B C &&& 223) + 32 = (own_B D &&& 223) + 32 := fun q => g (by have e := congrArg (fun z => z - 32) q; simpa using e)
          simp [g, this]
def own_get (s0 s1 s2 s3 s4 s5 j : Int32) : Int32 := if j = 0 then s0 else if j = 1 then s1 else if j = 2 then s2 else if j = 3 then s3 else if j = 4 then s4 else s5
def own_kd (i : Int32) (w0 w1 w2 w3 w4 w5 w6 w7 w8 : Addr) : Addr := if i = 0 then w0 else if i = 1 then w1 else if i = 2 then w2 else if i = 3 then w3 else if i = 4 then w4 else if i = 5 then w5 else if i = 6 then w6 else if i = 7 then w7 else w8
theorem own_plus {a b : Int32} {k : Int} (hb : b.toInt = k) (h0 : -100 ≤ k) (h1 : k ≤ 100) (ha : -1000 ≤ a.toInt) (ha2 : a.toInt ≤ 1000) : (a + b).toInt = a.toInt + k := by
  have q := c_iadd a b
  have r := rng32 (a + b)
  omega
theorem own_shr0 (z : Int32) : z >>> ((0 : Int32) &&& 31) = z := by
  have q := c_ishr z 0 0 (by decide)
  exact Int32.toInt_inj.mp (by rw [q]; simp)
theorem own_remN (x : Int32) (n : Int32) (k : Int) (h : 0 ≤ x.toInt) (hn : n.toInt = k) (hk : 0 < k) : 0 ≤ (x % n).toInt ∧ (x % n).toInt < k := by
  have q := (c_iremV x n).1 h (by omega)
  omega
theorem own_rg2 (y : Int32) (h0 : 0 ≤ y.toInt) (h1 : y.toInt < 2) : y = 0 ∨ y = 1 := by
  have : y.toInt = 0 ∨ y.toInt = 1 := by omega
  rcases this with q | q
  · exact Or.inl (Int32.toInt_inj.mp q)
  · exact Or.inr ((Int32.toInt_inj.mp q))
theorem own_rg3 (y : Int32) (h0 : 0 ≤ y.toInt) (h1 : y.toInt < 3) : y = 0 ∨ y = 1 ∨ y = 2 := by
  have : y.toInt = 0 ∨ y.toInt = 1 ∨ y.toInt = 2 := by omega
  rcases this with q | q | q
  · exact Or.inl (Int32.toInt_inj.mp q)
  · exact Or.inr (Or.inl (Int32.toInt_inj.mp q))
  · exact Or.inr (Or.inr ((Int32.toInt_inj.mp q)))
theorem own_rg4 (y : Int32) (h0 : 0 ≤ y.toInt) (h1 : y.toInt < 4) : y = 0 ∨ y = 1 ∨ y = 2 ∨ y = 3 := by
  have : y.toInt = 0 ∨ y.toInt = 1 ∨ y.toInt = 2 ∨ y.toInt = 3 := by omega
  rcases this with q | q | q | q
  · exact Or.inl (Int32.toInt_inj.mp q)
  · exact Or.inr (Or.inl (Int32.toInt_inj.mp q))
  · exact Or.inr (Or.inr (Or.inl (Int32.toInt_inj.mp q)))
  · exact Or.inr (Or.inr (Or.inr ((Int32.toInt_inj.mp q))))
theorem own_rg5 (y : Int32) (h0 : 0 ≤ y.toInt) (h1 : y.toInt < 5) : y = 0 ∨ y = 1 ∨ y = 2 ∨ y = 3 ∨ y = 4 := by
  have : y.toInt = 0 ∨ y.toInt = 1 ∨ y.toInt = 2 ∨ y.toInt = 3 ∨ y.toInt = 4 := by omega
  rcases this with q | q | q | q | q
  · exact Or.inl (Int32.toInt_inj.mp q)
  · exact Or.inr (Or.inl (Int32.toInt_inj.mp q))
  · exact Or.inr (Or.inr (Or.inl (Int32.toInt_inj.mp q)))
  · exact Or.inr (Or.inr (Or.inr (Or.inl (Int32.toInt_inj.mp q))))
  · exact Or.inr (Or.inr (Or.inr (Or.inr ((Int32.toInt_inj.mp q)))))
theorem own_rg6 (y : Int32) (h0 : 0 ≤ y.toInt) (h1 : y.toInt < 6) : y = 0 ∨ y = 1 ∨ y = 2 ∨ y = 3 ∨ y = 4 ∨ y = 5 := by
  have : y.toInt = 0 ∨ y.toInt = 1 ∨ y.toInt = 2 ∨ y.toInt = 3 ∨ y.toInt = 4 ∨ y.toInt = 5 := by omega
  rcases this with q | q | q | q | q | q
  · exact Or.inl (Int32.toInt_inj.mp q)
  · exact Or.inr (Or.inl (Int32.toInt_inj.mp q))
  · exact Or.inr (Or.inr (Or.inl (Int32.toInt_inj.mp q)))
  · exact Or.inr (Or.inr (Or.inr (Or.inl (Int32.toInt_inj.mp q))))
  · exact Or.inr (Or.inr (Or.inr (Or.inr (Or.inl (Int32.toInt_inj.mp q)))))
  · exact Or.inr (Or.inr (Or.inr (Or.inr (Or.inr ((Int32.toInt_inj.mp q))))))
theorem own_rg1 (y : Int32) (h0 : 0 ≤ y.toInt) (h1 : y.toInt < 1) : y = 0 := by
  have z : (0 : Int32).toInt = 0 := by decide
  exact Int32.toInt_inj.mp (by omega)
theorem own_hb0 (s0 s1 s2 s3 s4 s5 j : Int32) (h0 : ¬ j < 0) (h1 : j < (0 : Int32)) : ([] : List Value).getD j.toNatClampNeg (.int 0) = .int (own_B (own_get s0 s1 s2 s3 s4 s5 j)) := by
  have a := Int32.lt_iff_toInt_lt.mp h1
  have z : (0 : Int32).toInt = 0 := by decide
  exact absurd (Int32.lt_iff_toInt_lt.mpr (by omega)) h0
theorem own_hb1 (s0 s1 s2 s3 s4 s5 j : Int32) (h0 : ¬ j < 0) (h1 : j < (1 : Int32)) : ([(.int (nar .byte (s0.toInt8.toInt32)))] : List Value).getD j.toNatClampNeg (.int 0) = .int (own_B (own_get s0 s1 s2 s3 s4 s5 j)) := by
  have a := Int32.lt_iff_toInt_lt.mp h1
  have b : ¬ j.toInt < (0 : Int32).toInt := fun q => h0 (Int32.lt_iff_toInt_lt.mpr q)
  have z : (0 : Int32).toInt = 0 := by decide
  have zn : (1 : Int32).toInt = 1 := by decide
  obtain rfl := own_rg1 j (by omega) (by omega)
  rfl
theorem own_hb2 (s0 s1 s2 s3 s4 s5 j : Int32) (h0 : ¬ j < 0) (h1 : j < (2 : Int32)) : ([(.int (nar .byte (s0.toInt8.toInt32))), (.int (nar .byte (s1.toInt8.toInt32)))] : List Value).getD j.toNatClampNeg (.int 0) = .int (own_B (own_get s0 s1 s2 s3 s4 s5 j)) := by
  have a := Int32.lt_iff_toInt_lt.mp h1
  have b : ¬ j.toInt < (0 : Int32).toInt := fun q => h0 (Int32.lt_iff_toInt_lt.mpr q)
  have z : (0 : Int32).toInt = 0 := by decide
  have zn : (2 : Int32).toInt = 2 := by decide
  rcases own_rg2 j (by omega) (by omega) with rfl | rfl <;> rfl
theorem own_hb3 (s0 s1 s2 s3 s4 s5 j : Int32) (h0 : ¬ j < 0) (h1 : j < (3 : Int32)) : ([(.int (nar .byte (s0.toInt8.toInt32))), (.int (nar .byte (s1.toInt8.toInt32))), (.int (nar .byte (s2.toInt8.toInt32)))] : List Value).getD j.toNatClampNeg (.int 0) = .int (own_B (own_get s0 s1 s2 s3 s4 s5 j)) := by
  have a := Int32.lt_iff_toInt_lt.mp h1
  have b : ¬ j.toInt < (0 : Int32).toInt := fun q => h0 (Int32.lt_iff_toInt_lt.mpr q)
  have z : (0 : Int32).toInt = 0 := by decide
  have zn : (3 : Int32).toInt = 3 := by decide
  rcases own_rg3 j (by omega) (by omega) with rfl | rfl | rfl <;> rfl
theorem own_hb4 (s0 s1 s2 s3 s4 s5 j : Int32) (h0 : ¬ j < 0) (h1 : j < (4 : Int32)) : ([(.int (nar .byte (s0.toInt8.toInt32))), (.int (nar .byte (s1.toInt8.toInt32))), (.int (nar .byte (s2.toInt8.toInt32))), (.int (nar .byte (s3.toInt8.toInt32)))] : List Value).getD j.toNatClampNeg (.int 0) = .int (own_B (own_get s0 s1 s2 s3 s4 s5 j)) := by
  have a := Int32.lt_iff_toInt_lt.mp h1
  have b : ¬ j.toInt < (0 : Int32).toInt := fun q => h0 (Int32.lt_iff_toInt_lt.mpr q)
  have z : (0 : Int32).toInt = 0 := by decide
  have zn : (4 : Int32).toInt = 4 := by decide
  rcases own_rg4 j (by omega) (by omega) with rfl | rfl | rfl | rfl <;> rfl
theorem own_hb5 (s0 s1 s2 s3 s4 s5 j : Int32) (h0 : ¬ j < 0) (h1 : j < (5 : Int32)) : ([(.int (nar .byte (s0.toInt8.toInt32))), (.int (nar .byte (s1.toInt8.toInt32))), (.int (nar .byte (s2.toInt8.toInt32))), (.int (nar .byte (s3.toInt8.toInt32))), (.int (nar .byte (s4.toInt8.toInt32)))] : List Value).getD j.toNatClampNeg (.int 0) = .int (own_B (own_get s0 s1 s2 s3 s4 s5 j)) := by
  have a := Int32.lt_iff_toInt_lt.mp h1
  have b : ¬ j.toInt < (0 : Int32).toInt := fun q => h0 (Int32.lt_iff_toInt_lt.mpr q)
  have z : (0 : Int32).toInt = 0 := by decide
  have zn : (5 : Int32).toInt = 5 := by decide
  rcases own_rg5 j (by omega) (by omega) with rfl | rfl | rfl | rfl | rfl <;> rfl
theorem own_gch {s0 s1 s2 s3 s4 s5 : Int32} (g0 : own_ch s0) (g1 : own_ch s1) (g2 : own_ch s2) (g3 : own_ch s3) (g4 : own_ch s4) (g5 : own_ch s5) (j : Int32) : own_ch (own_get s0 s1 s2 s3 s4 s5 j) := by
  unfold own_get
  repeat' split
  all_goals assumption
def own_cp1_Q (Z : State) (a1 a2 : Addr) (p1 p2 p3 : Int32) (k1 k2 : ClassId) (c0 : Int32) (h0 : Heap) (n0 : Nat) (v : Option Value) (h : Heap) (L : List Loc) : Prop := v = some (.int 1) ∧ Fr n0 L ∧ Keep h0 h [a2] ∧ Arv Z h a2 k2 .byte (1 : Int32) [(.int (nar .byte (c0.toInt8.toInt32)))] (.int 0)
set_option maxRecDepth 65536 in
set_option maxHeartbeats 40000000 in
theorem own_cp1 (l : Launch) {Z : State} {a0 : Array Value} (hw : own_W Z a0) (ws : List Jvm.Cond) (a1 a2 : Addr) (p1 p2 p3 : Int32) (k1 k2 : ClassId) (c0 : Int32) (h0 : Heap) (n0 : Nat) (Z0 : n0 ≤ h0.size) (hp1 : p1 = 0) (hp2 : p2 = 0) (hp3 : p3 = (1 : Int32)) (hc0 : own_ch c0) (n12 : a1 ≠ a2) (g_a2 : n0 ≤ a2) (V1 : Arv Z h0 a1 k1 .char (1 : Int32) [(.int c0)] (.int 0)) (V2 : Arv Z h0 a2 k2 .byte (1 : Int32) [(.int 0)] (.int 0)) :
    MetFree l (⟨"java/lang/StringUTF16", "compress", "([CI[BII)I"⟩ : MethodName) (head1 (Jvm.Cond.code (⟨"java/lang/StringUTF16", "compress", "([CI[BII)I"⟩ : MethodName) jdk_52_method_21_code 7 (some .int) :: ws) ({ frames := 0, cells := 0, slots := 0, locals := 0 } : Room)) (fun a U => a = #[(.ref a1), (.int p1), (.ref a2), (.int p2), (.int p3)] ∧ Z.Warmed39 U.vm ∧ U.heap = h0) (fun _ _ _ _ _ => True) (fun _ U o U' => ∃ v L, o = .returned v ∧ own_cp1_Q Z a1 a2 p1 p2 p3 k1 k2 c0 h0 n0 v U'.heap L ∧ FrameEnd U o U' L ({ frames := 0, cells := 0, slots := 0, locals := 0 } : Room).cells ({ frames := 0, cells := 0, slots := 0, locals := 0 } : Room).slots) := by
  refine own_enter (C := ({ frames := 0, cells := 0, slots := 0, locals := 0 } : Room).cells) (S := ({ frames := 0, cells := 0, slots := 0, locals := 0 } : Room).slots) (plainFor_of_name own_pn0) ?_
  intro p e s m below meth c T0 X0 I e0
  obtain ⟨hx, hby, hml, hown, hnm, hret, hlk, hZ⟩ := I
  have N0 := Fr.nil n0
  have O0 := own_extr h0
  refine own_cast (own_ef7 m a1 p1 a2 p2 p3) ?_
  show own_Go _ _ _ _ T0 (mkF m 0 #[.val (.ref a1), .val (.int p1), .val (.ref a2), .val (.int p2), .val (.int p3), .unset, .unset] [])
  rw [hp1, hp2, hp3]
  show own_Go _ _ _ _ T0 (mkF m 0 #[.val (.ref a1), .val (.int 0), .val (.ref a2), .val (.int 0), .val (.int 1), .unset, .unset] [])
  have K0 := Keep.refl h0 [a2]
  refine own_st (fun _ k => XS.iconst X0.here hx rfl (hb hby own_d7_0) k) ?_
  refine own_st (fun _ k => XS.istore X0.here hx rfl (hb hby own_d7_1) rfl (l' := #[.val (.ref a1), .val (.int 0), .val (.ref a2), .val (.int 0), .val (.int 1), .val (.int 0), .unset]) rfl k) ?_
  refine own_st (fun _ k => XS.iload X0.here hx rfl (hb hby own_d7_3) rfl k) ?_
  refine own_st (fun _ k => XS.iload X0.here hx rfl (hb hby own_d7_5) rfl k) ?_
  refine own_st (fun _ k => XS.icmpNo X0.here hx rfl (hb hby own_d7_7) rfl (tlt (by decide : (0 : Int32) < (1 : Int32))).2.1 k) ?_
  refine own_st (fun _ k => XS.aloadN X0.here hx rfl (hb hby own_d7_10) rfl rfl k) ?_
  refine own_st (fun _ k => XS.iloadN X0.here hx rfl (hb hby own_d7_11) rfl k) ?_
  refine own_st (own_ldC X0 hx hZ e0 V1 (j := (0 : Int32)) (by decide) (v := (.int c0)) rfl (g := (mkF m 12 #[.val (.ref a1), .val (.int 0), .val (.ref a2), .val (.int 0), .val (.int 1), .val (.int 0), .unset] [(.int 0), (.ref a1)])) rfl rfl (hb hby own_d7_12)) ?_
  show own_Go _ _ _ _ T0 (mkF m 13 #[.val (.ref a1), .val (.int 0), .val (.ref a2), .val (.int 0), .val (.int 1), .val (.int 0), .unset] [(.int c0)])
  refine own_st (fun _ k => XS.istore X0.here hx rfl (hb hby own_d7_13) rfl (l' := #[.val (.ref a1), .val (.int 0), .val (.ref a2), .val (.int 0), .val (.int 1), .val (.int 0), .val (.int c0)]) rfl k) ?_
  refine own_st (fun _ k => XS.iload X0.here hx rfl (hb hby own_d7_15) rfl k) ?_
  refine own_st (fun _ k => XS.sipush X0.here hx rfl (hb hby own_d7_17) k) ?_
  refine own_st (fun _ k => XS.icmpYes X0.here hx rfl (pc0 := 20) (pc' := 26) rfl (hb hby own_d7_20) rfl (flt (own_le255 hc0 : ¬ ((255 : Int32) < c0))).2.2.2 (by decide) (by decide) k) ?_
  refine own_st (fun _ k => XS.aloadN X0.here hx rfl (hb hby own_d7_26) rfl rfl k) ?_
  refine own_st (fun _ k => XS.iloadN X0.here hx rfl (hb hby own_d7_27) rfl k) ?_
  refine own_st (fun _ k => XS.iload X0.here hx rfl (hb hby own_d7_28) rfl k) ?_
  refine own_st (fun _ k => XS.i2b X0.here hx rfl (hb hby own_d7_30) rfl k) ?_
  show own_Go _ _ _ _ T0 (mkF m 31 #[.val (.ref a1), .val (.int 0), .val (.ref a2), .val (.int 0), .val (.int 1), .val (.int 0), .val (.int c0)] [(.int (c0.toInt8.toInt32)), (.int 0), (.ref a2)])
  obtain ⟨T1, hp1, X1, e1, W1, Va1, st1⟩ := own_stB X0 hx hZ e0 V2 (by decide) 0 (by decide) (Nat.le_of_ble_eq_true rfl) (g := (mkF m 31 #[.val (.ref a1), .val (.int 0), .val (.ref a2), .val (.int 0), .val (.int 1), .val (.int 0), .val (.int c0)] [(.int (c0.toInt8.toInt32)), (.int 0), (.ref a2)])) rfl rfl (hb hby own_d7_31)
  have K1 := Keep.wr K0 W1 (Or.inl (List.mem_of_getElem? (i := 0) rfl))
  have V_a1_1 := V1.other W1 n12
  have Va1 : Arv Z hp1 a2 k2 .byte (1 : Int32) [(.int (nar .byte (c0.toInt8.toInt32)))] (.int 0) := Va1
  have N1 := Fr.snoc X1 N0 g_a2
  refine own_st st1 ?_
  refine own_st (fun _ k => XS.iinc X1.here hx rfl (hb hby own_d7_32) rfl (l' := #[.val (.ref a1), .val (.int ((0 : Int32) + (1 : Int32))), .val (.ref a2), .val (.int 0), .val (.int 1), .val (.int 0), .val (.int c0)]) rfl k) ?_
  show own_Go _ _ _ _ T1 (mkF m 35 #[.val (.ref a1), .val (.int ((0 : Int32) + (1 : Int32))), .val (.ref a2), .val (.int 0), .val (.int 1), .val (.int 0), .val (.int c0)] [])
  rw [show ((0 : Int32) + (1 : Int32)) = (1 : Int32) from by decide]
  refine own_st (fun _ k => XS.iinc X1.here hx rfl (hb hby own_d7_35) rfl (l' := #[.val (.ref a1), .val (.int 1), .val (.ref a2), .val (.int ((0 : Int32) + (1 : Int32))), .val (.int 1), .val (.int 0), .val (.int c0)]) rfl k) ?_
  show own_Go _ _ _ _ T1 (mkF m 38 #[.val (.ref a1), .val (.int 1), .val (.ref a2), .val (.int ((0 : Int32) + (1 : Int32))), .val (.int 1), .val (.int 0), .val (.int c0)] [])
  rw [show ((0 : Int32) + (1 : Int32)) = (1 : Int32) from by decide]
  refine own_st (fun _ k => XS.iinc X1.here hx rfl (hb hby own_d7_38) rfl (l' := #[.val (.ref a1), .val (.int 1), .val (.ref a2), .val (.int 1), .val (.int 1), .val (.int ((0 : Int32) + (1 : Int32))), .val (.int c0)]) rfl k) ?_
  show own_Go _ _ _ _ T1 (mkF m 41 #[.val (.ref a1), .val (.int 1), .val (.ref a2), .val (.int 1), .val (.int 1), .val (.int ((0 : Int32) + (1 : Int32))), .val (.int c0)] [])
  rw [show ((0 : Int32) + (1 : Int32)) = (1 : Int32) from by decide]
  refine own_st (fun _ k => XS.goto X1.here hx rfl (pc0 := 41) (pc' := 3) rfl (hb hby own_d7_41) (by decide) (by decide) k) ?_
  refine own_st (fun _ k => XS.iload X1.here hx rfl (hb hby own_d7_3) rfl k) ?_
  refine own_st (fun _ k => XS.iload X1.here hx rfl (hb hby own_d7_5) rfl k) ?_
  refine own_st (fun _ k => XS.icmpYes X1.here hx rfl (pc0 := 7) (pc' := 44) rfl (hb hby own_d7_7) rfl (flt (by decide : ¬ ((1 : Int32) < (1 : Int32)))).2.1 (by decide) (by decide) k) ?_
  refine own_st (fun _ k => XS.iload X1.here hx rfl (hb hby own_d7_44) rfl k) ?_
  exact own_retI X1 hx hret hlk (hb hby own_d7_46) ⟨rfl, N1, by rw [e1]; exact K1, by rw [e1]; exact Va1⟩ (by decide) (by decide)
def own_cq1_Q (Z : State) (a1 : Addr) (p1 p2 : Int32) (k1 : ClassId) (c0 : Int32) (h0 : Heap) (n0 : Nat) (v : Option Value) (h : Heap) (L : List Loc) : Prop := ∃ b k, v = some (.ref b) ∧ Fr n0 L ∧ Ext h0 h ∧ n0 ≤ b ∧ h0.size ≤ b ∧ Arv Z h b k .byte (1 : Int32) [(.int (nar .byte (c0.toInt8.toInt32)))] (.int 0)
set_option maxRecDepth 65536 in
set_option maxHeartbeats 40000000 in
theorem own_cq1 (l : Launch) {Z : State} {a0 : Array Value} (hw : own_W Z a0) (ws : List Jvm.Cond) (a1 : Addr) (p1 p2 : Int32) (k1 : ClassId) (c0 : Int32) (h0 : Heap) (n0 : Nat) (Z0 : n0 ≤ h0.size) (hp1 : p1 = 0) (hp2 : p2 = (1 : Int32)) (hc0 : own_ch c0) (V1 : Arv Z h0 a1 k1 .char (1 : Int32) [(.int c0)] (.int 0)) :
    MetFree l (⟨"java/lang/StringUTF16", "compress", "([CII)[B"⟩ : MethodName) (head1 (Jvm.Cond.code (⟨"java/lang/StringUTF16", "compress", "([CII)[B"⟩ : MethodName) jdk_52_method_16_code 6 (some (.array .byte)) :: ws) ({ frames := 1, cells := 1, slots := 1, locals := 18 } : Room)) (fun a U => a = #[(.ref a1), (.int p1), (.int p2)] ∧ Z.Warmed39 U.vm ∧ U.heap = h0) (fun _ _ _ _ _ => True) (fun _ U o U' => ∃ v L, o = .returned v ∧ own_cq1_Q Z a1 p1 p2 k1 c0 h0 n0 v U'.heap L ∧ FrameEnd U o U' L ({ frames := 1, cells := 1, slots := 1, locals := 18 } : Room).cells ({ frames := 1, cells := 1, slots := 1, locals := 18 } : Room).slots) := by
  refine own_enter (C := ({ frames := 1, cells := 1, slots := 1, locals := 18 } : Room).cells) (S := ({ frames := 1, cells := 1, slots := 1, locals := 18 } : Room).slots) (plainFor_of_name own_pn0) ?_
  intro p e s m below meth c T0 X0 I e0
  obtain ⟨hx, hby, hml, hown, hnm, hret, hlk, hZ⟩ := I
  have N0 := Fr.nil n0
  have O0 := own_extr h0
  refine own_cast (own_ef6 m a1 p1 p2) ?_
  show own_Go _ _ _ _ T0 (mkF m 0 #[.val (.ref a1), .val (.int p1), .val (.int p2), .unset, .unset, .unset] [])
  rw [hp1, hp2]
  show own_Go _ _ _ _ T0 (mkF m 0 #[.val (.ref a1), .val (.int 0), .val (.int 1), .unset, .unset, .unset] [])
  refine own_st (fun _ k => XS.iloadN X0.here hx rfl (hb hby own_d6_0) rfl k) ?_
  obtain ⟨T1, hp1, kk1, X1, e1, Et1, A1, st1⟩ := newP X0 hx hZ (aty := .byte) (own_w27 hw) e0 (g := (mkF m 1 #[.val (.ref a1), .val (.int 0), .val (.int 1), .unset, .unset, .unset] [(.int 1)])) rfl (hb hby own_d6_1) rfl (by decide) (cap := 1) (by decide) (by decide) (by decide) (by decide)
  obtain ⟨b1, g1⟩ : ∃ z, z = h0.size := ⟨_, rfl⟩
  rw [← g1] at A1 st1
  have s_b1 : h0.size ≤ b1 := Nat.le_trans O0.1 (Nat.le_of_eq g1.symm)
  have g_b1 : n0 ≤ b1 := Nat.le_trans Z0 s_b1
  have O1 := own_extt O0 Et1
  have Va1 : Arv Z hp1 b1 kk1 .byte (1 : Int32) [(.int 0)] (.int 0) := (Arv.new A1 (by decide)).pad (pad_rep [] (.int 0) 1)
  refine own_st st1 ?_
  refine own_st (fun _ k => XS.astoreN X1.here hx rfl (hb hby own_d6_3) rfl rfl (l' := #[.val (.ref a1), .val (.int 0), .val (.int 1), .val (.ref b1), .unset, .unset]) rfl k) ?_
  refine own_st (fun _ k => XS.aloadN X1.here hx rfl (hb hby own_d6_4) rfl rfl k) ?_
  refine own_st (fun _ k => XS.iloadN X1.here hx rfl (hb hby own_d6_5) rfl k) ?_
  refine own_st (fun _ k => XS.aloadN X1.here hx rfl (hb hby own_d6_6) rfl rfl k) ?_
  refine own_st (fun _ k => XS.iconst X1.here hx rfl (hb hby own_d6_7) k) ?_
  refine own_st (fun _ k => XS.iloadN X1.here hx rfl (hb hby own_d6_8) rfl k) ?_
  show own_Go _ _ _ _ T1 (mkF m 9 #[.val (.ref a1), .val (.int 0), .val (.int 1), .val (.ref b1), .unset, .unset] [(.int 1), (.int 0), (.ref b1), (.int 0), (.ref a1)])
  obtain ⟨v2, T2, L2, hQ2, X2, st2⟩ := own_callS X1 hx hZ (y := (⟨"java/lang/StringUTF16", "compress", "([CI[BII)I"⟩ : MethodName)) hown (own_w28 hw) (own_w29 hw) (own_w25 hw) (own_w30 hw) (by decide) (own_cp1 l hw [] a1 b1 (0 : Int32) (0 : Int32) (1 : Int32) k1 kk1 c0 hp1 n0 (Nat.le_trans Z0 O1.1) rfl rfl rfl hc0 (Nat.ne_of_lt (Nat.lt_of_lt_of_le V1.lt s_b1)) g_b1 (V1.ext O1) Va1) e1 (g := (mkF m 9 #[.val (.ref a1), .val (.int 0), .val (.int 1), .val (.ref b1), .unset, .unset] [(.int 1), (.int 0), (.ref b1), (.int 0), (.ref a1)])) rfl (by rw [hml]; rfl) (argsL := [(.ref a1), (.int 0), (.ref b1), (.int 0), (.int 1)]) (rest := []) (lenOf own_pd0 rfl) rfl rfl (W := 0) (Nat.le_of_eq rfl) (hb hby own_d6_9) (by decide) (by decide) (by decide) (by decide)
  obtain ⟨rfl, N2, K2, Vb2⟩ := hQ2
  have O2 : Ext h0 T2.heap := ⟨Nat.le_trans O1.1 K2.1, fun x c r => K2.2.1 x c (O1.2 x c r) (fun z => by
    have q := (Array.getElem?_eq_some_iff.mp r).1
    simp only [List.mem_cons, List.not_mem_nil, or_false] at z
    rcases z with rfl
    exact absurd q (Nat.not_lt.mpr s_b1))⟩
  have N2' := Fr.app N0 N2
  refine own_st st2 ?_
  refine own_st (fun _ k => XS.istore X2.here hx rfl (hb hby own_d6_12) rfl (l' := #[.val (.ref a1), .val (.int 0), .val (.int 1), .val (.ref b1), .val (.int 1), .unset]) rfl k) ?_
  refine own_st (fun _ k => XS.iload X2.here hx rfl (hb hby own_d6_14) rfl k) ?_
  refine own_st (fun _ k => XS.iloadN X2.here hx rfl (hb hby own_d6_16) rfl k) ?_
  refine own_st (fun _ k => XS.icmpYes X2.here hx rfl (pc0 := 17) (pc' := 57) rfl (hb hby own_d6_17) rfl (teq (by decide : (1 : Int32) = (1 : Int32))).1 (by decide) (by decide) k) ?_
  refine own_st (fun _ k => XS.aloadN X2.here hx rfl (hb hby own_d6_57) rfl rfl k) ?_
  exact own_retA X2 hx hret rfl hlk rfl (hb hby own_d6_58) ⟨b1, _, rfl, N2', O2, g_b1, s_b1, Vb2⟩ (by decide) (by decide)
def own_cd1_Q (Z : State) (a1 : Addr) (p1 : Int32) (k1 : ClassId) (c0 : Int32) (h0 : Heap) (n0 : Nat) (v : Option Value) (h : Heap) (L : List Loc) : Prop := v = some (.int 0) ∧ Fr n0 L ∧ h = h0
set_option maxRecDepth 65536 in
set_option maxHeartbeats 40000000 in
theorem own_cd1 (l : Launch) {Z : State} {a0 : Array Value} (hw : own_W Z a0) (ws : List Jvm.Cond) (a1 : Addr) (p1 : Int32) (k1 : ClassId) (c0 : Int32) (h0 : Heap) (n0 : Nat) (Z0 : n0 ≤ h0.size) (hp1 : p1 = (1 : Int32)) (V1 : Arv Z h0 a1 k1 .byte (1 : Int32) [(.int (nar .byte (c0.toInt8.toInt32)))] (.int 0)) :
    MetFree l (⟨"java/lang/StringUTF16", "coderFromArrayLen", "([BI)B"⟩ : MethodName) (head1 (Jvm.Cond.code (⟨"java/lang/StringUTF16", "coderFromArrayLen", "([BI)B"⟩ : MethodName) jdk_52_method_15_code 2 (some .byte) :: ws) ({ frames := 0, cells := 0, slots := 0, locals := 0 } : Room)) (fun a U => a = #[(.ref a1), (.int p1)] ∧ Z.Warmed39 U.vm ∧ U.heap = h0) (fun _ _ _ _ _ => True) (fun _ U o U' => ∃ v L, o = .returned v ∧ own_cd1_Q Z a1 p1 k1 c0 h0 n0 v U'.heap L ∧ FrameEnd U o U' L ({ frames := 0, cells := 0, slots := 0, locals := 0 } : Room).cells ({ frames := 0, cells := 0, slots := 0, locals := 0 } : Room).slots) := by
  refine own_enter (C := ({ frames := 0, cells := 0, slots := 0, locals := 0 } : Room).cells) (S := ({ frames := 0, cells := 0, slots := 0, locals := 0 } : Room).slots) (plainFor_of_name own_pn0) ?_
  intro p e s m below meth c T0 X0 I e0
  obtain ⟨hx, hby, hml, hown, hnm, hret, hlk, hZ⟩ := I
  have N0 := Fr.nil n0
  have O0 := own_extr h0
  refine own_cast (own_ef8 m a1 p1) ?_
  show own_Go _ _ _ _ T0 (mkF m 0 #[.val (.ref a1), .val (.int p1)] [])
  rw [hp1]
  show own_Go _ _ _ _ T0 (mkF m 0 #[.val (.ref a1), .val (.int 1)] [])
  refine own_st (fun _ k => XS.iloadN X0.here hx rfl (hb hby own_d8_0) rfl k) ?_
  refine own_st (fun _ k => XS.aloadN X0.here hx rfl (hb hby own_d8_1) rfl rfl k) ?_
  refine own_st (own_len X0 hx hZ e0 (V1.ext O0) (g := (mkF m 2 #[.val (.ref a1), .val (.int 1)] [(.ref a1), (.int 1)])) rfl rfl (hb hby own_d8_2)) ?_
  refine own_st (fun _ k => XS.isub X0.here hx rfl (hb hby own_d8_3) rfl k) ?_
  show own_Go _ _ _ _ T0 (mkF m 4 #[.val (.ref a1), .val (.int 1)] [(.int ((1 : Int32) - (1 : Int32)))])
  rw [show ((1 : Int32) - (1 : Int32)) = (0 : Int32) from by decide]
  refine own_st (fun _ k => XS.bipush X0.here hx rfl (hb hby own_d8_4) k) ?_
  refine own_st (fun _ k => XS.iushr X0.here hx rfl (hb hby own_d8_6) rfl k) ?_
  show own_Go _ _ _ _ T0 (mkF m 7 #[.val (.ref a1), .val (.int 1)] [(.int (((0 : Int32).toUInt32 >>> ((31 : Int32) &&& 31).toUInt32).toInt32))])
  rw [show (((0 : Int32).toUInt32 >>> ((31 : Int32) &&& 31).toUInt32).toInt32) = (0 : Int32) from by decide]
  refine own_st (fun _ k => XS.i2b X0.here hx rfl (hb hby own_d8_7) rfl k) ?_
  show own_Go _ _ _ _ T0 (mkF m 8 #[.val (.ref a1), .val (.int 1)] [(.int ((0 : Int32).toInt8.toInt32))])
  rw [show ((0 : Int32).toInt8.toInt32) = (0 : Int32) from by decide]
  exact own_retN X0 hx hret (by simp) hlk (hb hby own_d8_8) ⟨rfl, N0, e0⟩ (by decide) (by decide)
def own_vd1_Q (Z : State) (a1 a2 : Addr) (p1 p2 cs : Int32) (k1 : ClassId) (c0 : Int32) (h0 : Heap) (n0 : Nat) (v : Option Value) (h : Heap) (L : List Loc) : Prop := v = none ∧ Fr n0 L ∧ Keep h0 h [a1] ∧ ∃ b k, Fld Z h a1 "java/lang/String" "value" "[B" (.ref b) ∧ Fld Z h a1 "java/lang/String" "coder" "B" (.int 0) ∧ Arv Z h b k .byte (1 : Int32) [(.int (nar .byte (c0.toInt8.toInt32)))] (.int 0)
set_option maxRecDepth 65536 in
set_option maxHeartbeats 40000000 in
theorem own_vd1 (l : Launch) {Z : State} {a0 : Array Value} (hw : own_W Z a0) (ws : List Jvm.Cond) (a1 a2 : Addr) (p1 p2 cs : Int32) (k1 : ClassId) (c0 : Int32) (h0 : Heap) (n0 : Nat) (Z0 : n0 ≤ h0.size) (hp1 : p1 = 0) (hp2 : p2 = (1 : Int32)) (hc0 : own_ch c0) (Scs : Sta Z h0 "java/lang/String" "COMPACT_STRINGS" "Z" (.int cs)) (hcs : ¬ cs = 0) (g_a1 : n0 ≤ a1) (Ea : Exa Z h0 a1 "java/lang/String") (Fv : Fld Z h0 a1 "java/lang/String" "value" "[B" .null) (Fc : Fld Z h0 a1 "java/lang/String" "coder" "B" (.int 0)) (V1 : Arv Z h0 a2 k1 .char (1 : Int32) [(.int c0)] (.int 0)) :
    MetFree l (⟨"java/lang/String", "<init>", "([CIILjava/lang/Void;)V"⟩ : MethodName) (head1 (Jvm.Cond.code (⟨"java/lang/String", "<init>", "([CIILjava/lang/Void;)V"⟩ : MethodName) jdk_42_method_149_code 6 none :: ws) ({ frames := 2, cells := 1, slots := 1, locals := 40 } : Room)) (fun a U => a = #[(.ref a1), (.ref a2), (.int p1), (.int p2), .null] ∧ Z.Warmed39 U.vm ∧ U.heap = h0) (fun _ _ _ _ _ => True) (fun _ U o U' => ∃ v L, o = .returned v ∧ own_vd1_Q Z a1 a2 p1 p2 cs k1 c0 h0 n0 v U'.heap L ∧ FrameEnd U o U' L ({ frames := 2, cells := 1, slots := 1, locals := 40 } : Room).cells ({ frames := 2, cells := 1, slots := 1, locals := 40 } : Room).slots) := by
  refine own_enter (C := ({ frames := 2, cells := 1, slots := 1, locals := 40 } : Room).cells) (S := ({ frames := 2, cells := 1, slots := 1, locals := 40 } : Room).slots) (plainFor_of_name own_pn1) ?_
  intro p e s m below meth c T0 X0 I e0
  obtain ⟨hx, hby, hml, hown, hnm, hret, hlk, hZ⟩ := I
  have N0 := Fr.nil n0
  have O0 := own_extr h0
  refine own_cast (own_ef4n m a1 a2 p1 p2) ?_
  show own_Go _ _ _ _ T0 (mkF m 0 #[.val (.ref a1), .val (.ref a2), .val (.int p1), .val (.int p2), .val .null, .unset] [])
  rw [hp1, hp2]
  show own_Go _ _ _ _ T0 (mkF m 0 #[.val (.ref a1), .val (.ref a2), .val (.int 0), .val (.int 1), .val .null, .unset] [])
  have K0 := Keep.refl h0 [a1]
  refine own_st (fun _ k => XS.aloadN X0.here hx rfl (hb hby own_d4_0) rfl rfl k) ?_
  obtain ⟨T1, X1, e1, st1⟩ := initO X0 hx hZ hown (own_w19 hw) (own_w20 hw) (own_w21 hw) e0 (g := (mkF m 1 #[.val (.ref a1), .val (.ref a2), .val (.int 0), .val (.int 1), .val .null, .unset] [(.ref a1)])) rfl (by rw [hml]; rfl) rfl (hb hby own_d4_1) (by decide) (W := 0) (Nat.le_of_eq rfl) (by decide)
  refine own_st st1 ?_
  refine own_st (fun _ k => XS.iloadN X1.here hx rfl (hb hby own_d4_4) rfl k) ?_
  refine own_st (fun _ k => XS.ifYes X1.here hx rfl (pc0 := 5) (pc' := 27) rfl (hb hby own_d4_5) rfl ((if0 _ _).trans (feq (by decide : ¬ ((1 : Int32) = (0 : Int32)))).2) (by decide) (by decide) k) ?_
  obtain ⟨T2, X2, e2, st2⟩ := getS2 X1 hx hZ hown (host := "") (Or.inl (own_w22 hw)) Via.refl e1 Scs (g := (mkF m 27 #[.val (.ref a1), .val (.ref a2), .val (.int 0), .val (.int 1), .val .null, .unset] [])) rfl (hb hby own_d4_27)
  refine own_st st2 ?_
  refine own_st (fun _ k => XS.ifNo X2.here hx rfl (hb hby own_d4_30) rfl ((if0 _ _).trans (feq (hcs : ¬ (cs = (0 : Int32)))).1) k) ?_
  refine own_st (fun _ k => XS.aloadN X2.here hx rfl (hb hby own_d4_33) rfl rfl k) ?_
  refine own_st (fun _ k => XS.iloadN X2.here hx rfl (hb hby own_d4_34) rfl k) ?_
  show own_Go _ _ _ _ T2 (mkF m 35 #[.val (.ref a1), .val (.ref a2), .val (.int 0), .val (.int 1), .val .null, .unset] [(.int 0), (.ref a2)])
  refine own_st (fun _ k => XS.iloadN X2.here hx rfl (hb hby own_d4_35) rfl k) ?_
  obtain ⟨v3, T3, L3, hQ3, X3, st3⟩ := own_callS X2 hx hZ (y := (⟨"java/lang/StringUTF16", "compress", "([CII)[B"⟩ : MethodName)) hown (own_w23 hw) (own_w24 hw) (own_w25 hw) (own_w26 hw) (by decide) (own_cq1 l hw [] a2 (0 : Int32) (1 : Int32) k1 c0 h0 n0 Z0 rfl rfl hc0 V1) e2 (g := (mkF m 36 #[.val (.ref a1), .val (.ref a2), .val (.int 0), .val (.int 1), .val .null, .unset] [(.int 1), (.int 0), (.ref a2)])) rfl (by rw [hml]; rfl) (argsL := [(.ref a2), (.int 0), (.int 1)]) (rest := []) (lenOf own_pd1 rfl) rfl rfl (W := 0) (Nat.le_of_eq rfl) (hb hby own_d4_36) (by decide) (by decide) (by decide) (by decide)
  obtain ⟨b, kb, rfl, N3, Et3, gb, sb, Vb⟩ := hQ3
  have nab : a1 ≠ b := Nat.ne_of_lt (Nat.lt_of_lt_of_le Ea.lt sb)
  have K3x := Keep.ext K0 Et3
  have Scs_3 := Scs.ext Et3
  have Ex_a1_3 := Ea.ext Et3
  have F_value_a1_3 := Fv.ext Et3
  have F_coder_a1_3 := Fc.ext Et3
  have N3' := Fr.app N0 N3
  refine own_st st3 ?_
  refine own_st (fun _ k => XS.astore X3.here hx rfl (hb hby own_d4_39) rfl rfl (l' := #[.val (.ref a1), .val (.ref a2), .val (.int 0), .val (.int 1), .val .null, .val (.ref b)]) rfl k) ?_
  refine own_st (fun _ k => XS.aloadN X3.here hx rfl (hb hby own_d4_41) rfl rfl k) ?_
  refine own_st (fun _ k => XS.aload X3.here hx rfl (hb hby own_d4_42) rfl rfl k) ?_
  refine own_st (fun _ k => XS.iloadN X3.here hx rfl (hb hby own_d4_44) rfl k) ?_
  obtain ⟨v4, T4, L4, hQ4, X4, st4⟩ := own_callS X3 hx hZ (y := (⟨"java/lang/StringUTF16", "coderFromArrayLen", "([BI)B"⟩ : MethodName)) hown (own_w31 hw) (own_w32 hw) (own_w25 hw) (own_w33 hw) (by decide) (own_cd1 l hw [] b (1 : Int32) kb c0 T3.heap n0 (Nat.le_trans Z0 Et3.1) rfl Vb) rfl (g := (mkF m 45 #[.val (.ref a1), .val (.ref a2), .val (.int 0), .val (.int 1), .val .null, .val (.ref b)] [(.int 1), (.ref b), (.ref a1)])) rfl (by rw [hml]; rfl) (argsL := [(.ref b), (.int 1)]) (rest := [(.ref a1)]) (lenOf own_pd2 rfl) rfl rfl (W := 1) (Nat.le_of_eq rfl) (hb hby own_d4_45) (by decide) (by decide) (by decide) (by decide)
  obtain ⟨rfl, N4, e4⟩ := hQ4
  have N4' := Fr.app N3' N4
  refine own_st st4 ?_
  obtain ⟨T5, hp5, X5, e5, W5, st5⟩ := putFN X4 hx hZ hown (own_w34 hw) Via.refl e4 F_coder_a1_3 Ex_a1_3 (Or.inr ⟨(own_w35 hw), rfl, hnm⟩) (own_w10 hw) (ty := .byte) (v' := (.int 0)) (by decide) rfl (by decide) (g := (mkF m 48 #[.val (.ref a1), .val (.ref a2), .val (.int 0), .val (.int 1), .val .null, .val (.ref b)] [(.int 0), (.ref a1)])) rfl rfl (hb hby own_d4_48)
  have K5 := Keep.wr K3x W5 (Or.inl (List.mem_of_getElem? (i := 0) rfl))
  have Scs_5 := Scs_3.wr W5
  have V_b_5 := Vb.other W5 (Ne.symm nab)
  have Ex_a1_5 := Ex_a1_3.wr W5
  have F_value_a1_5 := F_value_a1_3.other W5 (Or.inr (slot_ne (Or.inr (own_w37 hw)) (Or.inr (own_w35 hw)) (by decide) (t := (.array .byte)) (t' := .byte) (by decide) (by decide)))
  have F_coder_a1_5 := F_coder_a1_3.same W5
  have N5 := Fr.snoc X5 N4' g_a1
  refine own_st st5 ?_
  show own_Go _ _ _ _ T5 (mkF m 51 #[.val (.ref a1), .val (.ref a2), .val (.int 0), .val (.int 1), .val .null, .val (.ref b)] [])
  refine own_st (fun _ k => XS.aloadN X5.here hx rfl (hb hby own_d4_51) rfl rfl k) ?_
  refine own_st (fun _ k => XS.aload X5.here hx rfl (hb hby own_d4_52) rfl rfl k) ?_
  obtain ⟨T6, hp6, X6, e6, W6, st6⟩ := putF X5 hx hZ hown (host := "") (Or.inl (own_w36 hw)) Via.refl e5 F_value_a1_5 Ex_a1_5 (Or.inr ⟨(own_w37 hw), rfl, hnm⟩) (own_w10 hw) (ty := (.array .byte)) (by decide) rfl rfl (g := (mkF m 54 #[.val (.ref a1), .val (.ref a2), .val (.int 0), .val (.int 1), .val .null, .val (.ref b)] [(.ref b), (.ref a1)])) rfl rfl (hb hby own_d4_54)
  have K6 := Keep.wr K5 W6 (Or.inl (List.mem_of_getElem? (i := 0) rfl))
  have Scs_6 := Scs_5.wr W6
  have V_b_6 := V_b_5.other W6 (Ne.symm nab)
  have Ex_a1_6 := Ex_a1_5.wr W6
  have F_coder_a1_6 := F_coder_a1_5.other W6 (Or.inr (slot_ne (Or.inr (own_w35 hw)) (Or.inr (own_w37 hw)) (by decide) (t := .byte) (t' := (.array .byte)) (by decide) (by decide)))
  have F_value_a1_6 := F_value_a1_5.same W6
  have N6 := Fr.snoc X6 N5 g_a1
  refine own_st st6 ?_
  exact own_retV X6 hx hret hlk (hb hby own_d4_57) ⟨rfl, N6, by rw [e6]; exact K6, b, kb, by rw [e6]; exact F_value_a1_6, by rw [e6]; exact F_coder_a1_6, by rw [e6]; exact V_b_6⟩ (by decide) (by decide)
def own_cc1_Q (Z : State) (a1 a2 : Addr) (cs : Int32) (k1 : ClassId) (c0 : Int32) (h0 : Heap) (n0 : Nat) (v : Option Value) (h : Heap) (L : List Loc) : Prop := v = none ∧ Fr n0 L ∧ Keep h0 h [a1] ∧ ∃ b k, Fld Z h a1 "java/lang/String" "value" "[B" (.ref b) ∧ Fld Z h a1 "java/lang/String" "coder" "B" (.int 0) ∧ Arv Z h b k .byte (1 : Int32) [(.int (nar .byte (c0.toInt8.toInt32)))] (.int 0)
set_option maxRecDepth 65536 in
set_option maxHeartbeats 40000000 in
theorem own_cc1 (l : Launch) {Z : State} {a0 : Array Value} (hw : own_W Z a0) (ws : List Jvm.Cond) (a1 a2 : Addr) (cs : Int32) (k1 : ClassId) (c0 : Int32) (h0 : Heap) (n0 : Nat) (Z0 : n0 ≤ h0.size) (hc0 : own_ch c0) (Scs : Sta Z h0 "java/lang/String" "COMPACT_STRINGS" "Z" (.int cs)) (hcs : ¬ cs = 0) (g_a1 : n0 ≤ a1) (Ea : Exa Z h0 a1 "java/lang/String") (Fv : Fld Z h0 a1 "java/lang/String" "value" "[B" .null) (Fc : Fld Z h0 a1 "java/lang/String" "coder" "B" (.int 0)) (V1 : Arv Z h0 a2 k1 .char (1 : Int32) [(.int c0)] (.int 0)) :
    MetFree l (⟨"java/lang/String", "<init>", "([C)V"⟩ : MethodName) (head1 (Jvm.Cond.code (⟨"java/lang/String", "<init>", "([C)V"⟩ : MethodName) jdk_42_method_3_code 2 none :: ws) ({ frames := 3, cells := 1, slots := 1, locals := 57 } : Room)) (fun a U => a = #[(.ref a1), (.ref a2)] ∧ Z.Warmed39 U.vm ∧ U.heap = h0) (fun _ _ _ _ _ => True) (fun _ U o U' => ∃ v L, o = .returned v ∧ own_cc1_Q Z a1 a2 cs k1 c0 h0 n0 v U'.heap L ∧ FrameEnd U o U' L ({ frames := 3, cells := 1, slots := 1, locals := 57 } : Room).cells ({ frames := 3, cells := 1, slots := 1, locals := 57 } : Room).slots) := by
  refine own_enter (C := ({ frames := 3, cells := 1, slots := 1, locals := 57 } : Room).cells) (S := ({ frames := 3, cells := 1, slots := 1, locals := 57 } : Room).slots) (plainFor_of_name own_pn1) ?_
  intro p e s m below meth c T0 X0 I e0
  obtain ⟨hx, hby, hml, hown, hnm, hret, hlk, hZ⟩ := I
  have N0 := Fr.nil n0
  have O0 := own_extr h0
  refine own_cast (own_ef3 m a1 a2) ?_
  show own_Go _ _ _ _ T0 (mkF m 0 #[.val (.ref a1), .val (.ref a2)] [])
  have K0 := Keep.refl h0 [a1]
  refine own_st (fun _ k => XS.aloadN X0.here hx rfl (hb hby own_d3_0) rfl rfl k) ?_
  refine own_st (fun _ k => XS.aloadN X0.here hx rfl (hb hby own_d3_1) rfl rfl k) ?_
  refine own_st (fun _ k => XS.iconst X0.here hx rfl (hb hby own_d3_2) k) ?_
  refine own_st (fun _ k => XS.aloadN X0.here hx rfl (hb hby own_d3_3) rfl rfl k) ?_
  refine own_st (own_len X0 hx hZ e0 V1 (g := (mkF m 4 #[.val (.ref a1), .val (.ref a2)] [(.ref a2), (.int 0), (.ref a2), (.ref a1)])) rfl rfl (hb hby own_d3_4)) ?_
  refine own_st (fun _ k => XS.aconstNull X0.here hx rfl (hb hby own_d3_5) k) ?_
  obtain ⟨v1, T1, L1, hQ1, X1, st1⟩ := own_callI X0 hx hZ (y := (⟨"java/lang/String", "<init>", "([CIILjava/lang/Void;)V"⟩ : MethodName)) rfl hown (own_w15 hw) (own_w16 hw) (own_w11 hw) (own_w18 hw) (by decide) (own_vd1 l hw [] a1 a2 (0 : Int32) (1 : Int32) cs k1 c0 h0 n0 Z0 rfl rfl hc0 Scs hcs g_a1 Ea Fv Fc V1) e0 (g := (mkF m 6 #[.val (.ref a1), .val (.ref a2)] [.null, (.int 1), (.int 0), (.ref a2), (.ref a1)])) rfl (by rw [hml]; rfl) (argsL := [(.ref a2), (.int 0), (.int 1), .null]) (rest := []) (lenOf own_pd3 rfl) rfl rfl (W := 0) (Nat.le_of_eq rfl) (hb hby own_d3_6) (by decide) (by decide) (by decide) (by decide)
  obtain ⟨rfl, N1, K1, b, kb, Gv, Gc, Vb⟩ := hQ1
  have N1' := Fr.app N0 N1
  refine own_st st1 ?_
  exact own_retV X1 hx hret hlk (hb hby own_d3_9) ⟨rfl, N1', K1, b, kb, Gv, Gc, Vb⟩ (by decide) (by decide)
def own_cp2_Q (Z : State) (a1 a2 : Addr) (p1 p2 p3 : Int32) (k1 k2 : ClassId) (c0 c1 : Int32) (h0 : Heap) (n0 : Nat) (v : Option Value) (h : Heap) (L : List Loc) : Prop := v = some (.int 2) ∧ Fr n0 L ∧ Keep h0 h [a2] ∧ Arv Z h a2 k2 .byte (2 : Int32) [(.int (nar .byte (c0.toInt8.toInt32))), (.int (nar .byte (c1.toInt8.toInt32)))] (.int 0)
set_option maxRecDepth 65536 in
set_option maxHeartbeats 40000000 in
theorem own_cp2 (l : Launch) {Z : State} {a0 : Array Value} (hw : own_W Z a0) (ws : List Jvm.Cond) (a1 a2 : Addr) (p1 p2 p3 : Int32) (k1 k2 : ClassId) (c0 c1 : Int32) (h0 : Heap) (n0 : Nat) (Z0 : n0 ≤ h0.size) (hp1 : p1 = 0) (hp2 : p2 = 0) (hp3 : p3 = (2 : Int32)) (hc0 : own_ch c0) (hc1 : own_ch c1) (n12 : a1 ≠ a2) (g_a2 : n0 ≤ a2) (V1 : Arv Z h0 a1 k1 .char (2 : Int32) [(.int c0), (.int c1)] (.int 0)) (V2 : Arv Z h0 a2 k2 .byte (2 : Int32) [(.int 0), (.int 0)] (.int 0)) :
    MetFree l (⟨"java/lang/StringUTF16", "compress", "([CI[BII)I"⟩ : MethodName) (head1 (Jvm.Cond.code (⟨"java/lang/StringUTF16", "compress", "([CI[BII)I"⟩ : MethodName) jdk_52_method_21_code 7 (some .int) :: ws) ({ frames := 0, cells := 0, slots := 0, locals := 0 } : Room)) (fun a U => a = #[(.ref a1), (.int p1), (.ref a2), (.int p2), (.int p3)] ∧ Z.Warmed39 U.vm ∧ U.heap = h0) (fun _ _ _ _ _ => True) (fun _ U o U' => ∃ v L, o = .returned v ∧ own_cp2_Q Z a1 a2 p1 p2 p3 k1 k2 c0 c1 h0 n0 v U'.heap L ∧ FrameEnd U o U' L ({ frames := 0, cells := 0, slots := 0, locals := 0 } : Room).cells ({ frames := 0, cells := 0, slots := 0, locals := 0 } : Room).slots) := by
  refine own_enter (C := ({ frames := 0, cells := 0, slots := 0, locals := 0 } : Room).cells) (S := ({ frames := 0, cells := 0, slots := 0, locals := 0 } : Room).slots) (plainFor_of_name own_pn0) ?_
  intro p e s m below meth c T0 X0 I e0
  obtain ⟨hx, hby, hml, hown, hnm, hret, hlk, hZ⟩ := I
  have N0 := Fr.nil n0
  have O0 := own_extr h0
  refine own_cast (own_ef7 m a1 p1 a2 p2 p3) ?_
  show own_Go _ _ _ _ T0 (mkF m 0 #[.val (.ref a1), .val (.int p1), .val (.ref a2), .val (.int p2), .val (.int p3), .unset, .unset] [])
  rw [hp1, hp2, hp3]
  show own_Go _ _ _ _ T0 (mkF m 0 #[.val (.ref a1), .val (.int 0), .val (.ref a2), .val (.int 0), .val (.int 2), .unset, .unset] [])
  have K0 := Keep.refl h0 [a2]
  refine own_st (fun _ k => XS.iconst X0.here hx rfl (hb hby own_d7_0) k) ?_
  refine own_st (fun _ k => XS.istore X0.here hx rfl (hb hby own_d7_1) rfl (l' := #[.val (.ref a1), .val (.int 0), .val (.ref a2), .val (.int 0), .val (.int 2), .val (.int 0), .unset]) rfl k) ?_
  refine own_st (fun _ k => XS.iload X0.here hx rfl (hb hby own_d7_3) rfl k) ?_
  refine own_st (fun _ k => XS.iload X0.here hx rfl (hb hby own_d7_5) rfl k) ?_
  refine own_st (fun _ k => XS.icmpNo X0.here hx rfl (hb hby own_d7_7) rfl (tlt (by decide : (0 : Int32) < (2 : Int32))).2.1 k) ?_
  refine own_st (fun _ k => XS.aloadN X0.here hx rfl (hb hby own_d7_10) rfl rfl k) ?_
  refine own_st (fun _ k => XS.iloadN X0.here hx rfl (hb hby own_d7_11) rfl k) ?_
  refine own_st (own_ldC X0 hx hZ e0 V1 (j := (0 : Int32)) (by decide) (v := (.int c0)) rfl (g := (mkF m 12 #[.val (.ref a1), .val (.int 0), .val (.ref a2), .val (.int 0), .val (.int 2), .val (.int 0), .unset] [(.int 0), (.ref a1)])) rfl rfl (hb hby own_d7_12)) ?_
  show own_Go _ _ _ _ T0 (mkF m 13 #[.val (.ref a1), .val (.int 0), .val (.ref a2), .val (.int 0), .val (.int 2), .val (.int 0), .unset] [(.int c0)])
  refine own_st (fun _ k => XS.istore X0.here hx rfl (hb hby own_d7_13) rfl (l' := #[.val (.ref a1), .val (.int 0), .val (.ref a2), .val (.int 0), .val (.int 2), .val (.int 0), .val (.int c0)]) rfl k) ?_
  refine own_st (fun _ k => XS.iload X0.here hx rfl (hb hby own_d7_15) rfl k) ?_
  refine own_st (fun _ k => XS.sipush X0.here hx rfl (hb hby own_d7_17) k) ?_
  refine own_st (fun _ k => XS.icmpYes X0.here hx rfl (pc0 := 20) (pc' := 26) rfl (hb hby own_d7_20) rfl (flt (own_le255 hc0 : ¬ ((255 : Int32) < c0))).2.2.2 (by decide) (by decide) k) ?_
  refine own_st (fun _ k => XS.aloadN X0.here hx rfl (hb hby own_d7_26) rfl rfl k) ?_
  refine own_st (fun _ k => XS.iloadN X0.here hx rfl (hb hby own_d7_27) rfl k) ?_
  refine own_st (fun _ k => XS.iload X0.here hx rfl (hb hby own_d7_28) rfl k) ?_
  refine own_st (fun _ k => XS.i2b X0.here hx rfl (hb hby own_d7_30) rfl k) ?_
  show own_Go _ _ _ _ T0 (mkF m 31 #[.val (.ref a1), .val (.int 0), .val (.ref a2), .val (.int 0), .val (.int 2), .val (.int 0), .val (.int c0)] [(.int (c0.toInt8.toInt32)), (.int 0), (.ref a2)])
  obtain ⟨T1, hp1, X1, e1, W1, Va1, st1⟩ := own_stB X0 hx hZ e0 V2 (by decide) 0 (by decide) (Nat.le_of_ble_eq_true rfl) (g := (mkF m 31 #[.val (.ref a1), .val (.int 0), .val (.ref a2), .val (.int 0), .val (.int 2), .val (.int 0), .val (.int c0)] [(.int (c0.toInt8.toInt32)), (.int 0), (.ref a2)])) rfl rfl (hb hby own_d7_31)
  have K1 := Keep.wr K0 W1 (Or.inl (List.mem_of_getElem? (i := 0) rfl))
  have V_a1_1 := V1.other W1 n12
  have Va1 : Arv Z hp1 a2 k2 .byte (2 : Int32) [(.int (nar .byte (c0.toInt8.toInt32))), (.int 0)] (.int 0) := Va1
  have N1 := Fr.snoc X1 N0 g_a2
  refine own_st st1 ?_
  refine own_st (fun _ k => XS.iinc X1.here hx rfl (hb hby own_d7_32) rfl (l' := #[.val (.ref a1), .val (.int ((0 : Int32) + (1 : Int32))), .val (.ref a2), .val (.int 0), .val (.int 2), .val (.int 0), .val (.int c0)]) rfl k) ?_
  show own_Go _ _ _ _ T1 (mkF m 35 #[.val (.ref a1), .val (.int ((0 : Int32) + (1 : Int32))), .val (.ref a2), .val (.int 0), .val (.int 2), .val (.int 0), .val (.int c0)] [])
  rw [show ((0 : Int32) + (1 : Int32)) = (1 : Int32) from by decide]
  refine own_st (fun _ k => XS.iinc X1.here hx rfl (hb hby own_d7_35) rfl (l' := #[.val (.ref a1), .val (.int 1), .val (.ref a2), .val (.int ((0 : Int32) + (1 : Int32))), .val (.int 2), .val (.int 0), .val (.int c0)]) rfl k) ?_
  show own_Go _ _ _ _ T1 (mkF m 38 #[.val (.ref a1), .val (.int 1), .val (.ref a2), .val (.int ((0 : Int32) + (1 : Int32))), .val (.int 2), .val (.int 0), .val (.int c0)] [])
  rw [show ((0 : Int32) + (1 : Int32)) = (1 : Int32) from by decide]
  refine own_st (fun _ k => XS.iinc X1.here hx rfl (hb hby own_d7_38) rfl (l' := #[.val (.ref a1), .val (.int 1), .val (.ref a2), .val (.int 1), .val (.int 2), .val (.int ((0 : Int32) + (1 : Int32))), .val (.int c0)]) rfl k) ?_
  show own_Go _ _ _ _ T1 (mkF m 41 #[.val (.ref a1), .val (.int 1), .val (.ref a2), .val (.int 1), .val (.int 2), .val (.int ((0 : Int32) + (1 : Int32))), .val (.int c0)] [])
  rw [show ((0 : Int32) + (1 : Int32)) = (1 : Int32) from by decide]
  refine own_st (fun _ k => XS.goto X1.here hx rfl (pc0 := 41) (pc' := 3) rfl (hb hby own_d7_41) (by decide) (by decide) k) ?_
  refine own_st (fun _ k => XS.iload X1.here hx rfl (hb hby own_d7_3) rfl k) ?_
  refine own_st (fun _ k => XS.iload X1.here hx rfl (hb hby own_d7_5) rfl k) ?_
  refine own_st (fun _ k => XS.icmpNo X1.here hx rfl (hb hby own_d7_7) rfl (tlt (by decide : (1 : Int32) < (2 : Int32))).2.1 k) ?_
  refine own_st (fun _ k => XS.aloadN X1.here hx rfl (hb hby own_d7_10) rfl rfl k) ?_
  refine own_st (fun _ k => XS.iloadN X1.here hx rfl (hb hby own_d7_11) rfl k) ?_
  refine own_st (own_ldC X1 hx hZ e1 V_a1_1 (j := (1 : Int32)) (by decide) (v := (.int c1)) rfl (g := (mkF m 12 #[.val (.ref a1), .val (.int 1), .val (.ref a2), .val (.int 1), .val (.int 2), .val (.int 1), .val (.int c0)] [(.int 1), (.ref a1)])) rfl rfl (hb hby own_d7_12)) ?_
  show own_Go _ _ _ _ T1 (mkF m 13 #[.val (.ref a1), .val (.int 1), .val (.ref a2), .val (.int 1), .val (.int 2), .val (.int 1), .val (.int c0)] [(.int c1)])
  refine own_st (fun _ k => XS.istore X1.here hx rfl (hb hby own_d7_13) rfl (l' := #[.val (.ref a1), .val (.int 1), .val (.ref a2), .val (.int 1), .val (.int 2), .val (.int 1), .val (.int c1)]) rfl k) ?_
  refine own_st (fun _ k => XS.iload X1.here hx rfl (hb hby own_d7_15) rfl k) ?_
  refine own_st (fun _ k => XS.sipush X1.here hx rfl (hb hby own_d7_17) k) ?_
  refine own_st (fun _ k => XS.icmpYes X1.here hx rfl (pc0 := 20) (pc' := 26) rfl (hb hby own_d7_20) rfl (flt (own_le255 hc1 : ¬ ((255 : Int32) < c1))).2.2.2 (by decide) (by decide) k) ?_
  refine own_st (fun _ k => XS.aloadN X1.here hx rfl (hb hby own_d7_26) rfl rfl k) ?_
  refine own_st (fun _ k => XS.iloadN X1.here hx rfl (hb hby own_d7_27) rfl k) ?_
  refine own_st (fun _ k => XS.iload X1.here hx rfl (hb hby own_d7_28) rfl k) ?_
  refine own_st (fun _ k => XS.i2b X1.here hx rfl (hb hby own_d7_30) rfl k) ?_
  show own_Go _ _ _ _ T1 (mkF m 31 #[.val (.ref a1), .val (.int 1), .val (.ref a2), .val (.int 1), .val (.int 2), .val (.int 1), .val (.int c1)] [(.int (c1.toInt8.toInt32)), (.int 1), (.ref a2)])
  obtain ⟨T2, hp2, X2, e2, W2, Va2, st2⟩ := own_stB X1 hx hZ e1 Va1 (by decide) 1 (by decide) (Nat.le_of_ble_eq_true rfl) (g := (mkF m 31 #[.val (.ref a1), .val (.int 1), .val (.ref a2), .val (.int 1), .val (.int 2), .val (.int 1), .val (.int c1)] [(.int (c1.toInt8.toInt32)), (.int 1), (.ref a2)])) rfl rfl (hb hby own_d7_31)
  have K2 := Keep.wr K1 W2 (Or.inl (List.mem_of_getElem? (i := 0) rfl))
  have V_a1_2 := V_a1_1.other W2 n12
  have Va2 : Arv Z hp2 a2 k2 .byte (2 : Int32) [(.int (nar .byte (c0.toInt8.toInt32))), (.int (nar .byte (c1.toInt8.toInt32)))] (.int 0) := Va2
  have N2 := Fr.snoc X2 N1 g_a2
  refine own_st st2 ?_
  refine own_st (fun _ k => XS.iinc X2.here hx rfl (hb hby own_d7_32) rfl (l' := #[.val (.ref a1), .val (.int ((1 : Int32) + (1 : Int32))), .val (.ref a2), .val (.int 1), .val (.int 2), .val (.int 1), .val (.int c1)]) rfl k) ?_
  show own_Go _ _ _ _ T2 (mkF m 35 #[.val (.ref a1), .val (.int ((1 : Int32) + (1 : Int32))), .val (.ref a2), .val (.int 1), .val (.int 2), .val (.int 1), .val (.int c1)] [])
  rw [show ((1 : Int32) + (1 : Int32)) = (2 : Int32) from by decide]
  refine own_st (fun _ k => XS.iinc X2.here hx rfl (hb hby own_d7_35) rfl (l' := #[.val (.ref a1), .val (.int 2), .val (.ref a2), .val (.int ((1 : Int32) + (1 : Int32))), .val (.int 2), .val (.int 1), .val (.int c1)]) rfl k) ?_
  show own_Go _ _ _ _ T2 (mkF m 38 #[.val (.ref a1), .val (.int 2), .val (.ref a2), .val (.int ((1 : Int32) + (1 : Int32))), .val (.int 2), .val (.int 1), .val (.int c1)] [])
  rw [show ((1 : Int32) + (1 : Int32)) = (2 : Int32) from by decide]
  refine own_st (fun _ k => XS.iinc X2.here hx rfl (hb hby own_d7_38) rfl (l' := #[.val (.ref a1), .val (.int 2), .val (.ref a2), .val (.int 2), .val (.int 2), .val (.int ((1 : Int32) + (1 : Int32))), .val (.int c1)]) rfl k) ?_
  show own_Go _ _ _ _ T2 (mkF m 41 #[.val (.ref a1), .val (.int 2), .val (.ref a2), .val (.int 2), .val (.int 2), .val (.int ((1 : Int32) + (1 : Int32))), .val (.int c1)] [])
  rw [show ((1 : Int32) + (1 : Int32)) = (2 : Int32) from by decide]
  refine own_st (fun _ k => XS.goto X2.here hx rfl (pc0 := 41) (pc' := 3) rfl (hb hby own_d7_41) (by decide) (by decide) k) ?_
  refine own_st (fun _ k => XS.iload X2.here hx rfl (hb hby own_d7_3) rfl k) ?_
  refine own_st (fun _ k => XS.iload X2.here hx rfl (hb hby own_d7_5) rfl k) ?_
  refine own_st (fun _ k => XS.icmpYes X2.here hx rfl (pc0 := 7) (pc' := 44) rfl (hb hby own_d7_7) rfl (flt (by decide : ¬ ((2 : Int32) < (2 : Int32)))).2.1 (by decide) (by decide) k) ?_
  refine own_st (fun _ k => XS.iload X2.here hx rfl (hb hby own_d7_44) rfl k) ?_
  exact own_retI X2 hx hret hlk (hb hby own_d7_46) ⟨rfl, N2, by rw [e2]; exact K2, by rw [e2]; exact Va2⟩ (by decide) (by decide)
def own_cq2_Q (Z : State) (a1 : Addr) (p1 p2 : Int32) (k1 : ClassId) (c0 c1 : Int32) (h0 : Heap) (n0 : Nat) (v : Option Value) (h : Heap) (L : List Loc) : Prop := ∃ b k, v = some (.ref b) ∧ Fr n0 L ∧ Ext h0 h ∧ n0 ≤ b ∧ h0.size ≤ b ∧ Arv Z h b k .byte (2 : Int32) [(.int (nar .byte (c0.toInt8.toInt32))), (.int (nar .byte (c1.toInt8.toInt32)))] (.int 0)
set_option maxRecDepth 65536 in
set_option maxHeartbeats 40000000 in
theorem own_cq2 (l : Launch) {Z : State} {a0 : Array Value} (hw : own_W Z a0) (ws : List Jvm.Cond) (a1 : Addr) (p1 p2 : Int32) (k1 : ClassId) (c0 c1 : Int32) (h0 : Heap) (n0 : Nat) (Z0 : n0 ≤ h0.size) (hp1 : p1 = 0) (hp2 : p2 = (2 : Int32)) (hc0 : own_ch c0) (hc1 : own_ch c1) (V1 : Arv Z h0 a1 k1 .char (2 : Int32) [(.int c0), (.int c1)] (.int 0)) :
    MetFree l (⟨"java/lang/StringUTF16", "compress", "([CII)[B"⟩ : MethodName) (head1 (Jvm.Cond.code (⟨"java/lang/StringUTF16", "compress", "([CII)[B"⟩ : MethodName) jdk_52_method_16_code 6 (some (.array .byte)) :: ws) ({ frames := 1, cells := 1, slots := 2, locals := 18 } : Room)) (fun a U => a = #[(.ref a1), (.int p1), (.int p2)] ∧ Z.Warmed39 U.vm ∧ U.heap = h0) (fun _ _ _ _ _ => True) (fun _ U o U' => ∃ v L, o = .returned v ∧ own_cq2_Q Z a1 p1 p2 k1 c0 c1 h0 n0 v U'.heap L ∧ FrameEnd U o U' L ({ frames := 1, cells := 1, slots := 2, locals := 18 } : Room).cells ({ frames := 1, cells := 1, slots := 2, locals := 18 } : Room).slots) := by
  refine own_enter (C := ({ frames := 1, cells := 1, slots := 2, locals := 18 } : Room).cells) (S := ({ frames := 1, cells := 1, slots := 2, locals := 18 } : Room).slots) (plainFor_of_name own_pn0) ?_
  intro p e s m below meth c T0 X0 I e0
  obtain ⟨hx, hby, hml, hown, hnm, hret, hlk, hZ⟩ := I
  have N0 := Fr.nil n0
  have O0 := own_extr h0
  refine own_cast (own_ef6 m a1 p1 p2) ?_
  show own_Go _ _ _ _ T0 (mkF m 0 #[.val (.ref a1), .val (.int p1), .val (.int p2), .unset, .unset, .unset] [])
  rw [hp1, hp2]
  show own_Go _ _ _ _ T0 (mkF m 0 #[.val (.ref a1), .val (.int 0), .val (.int 2), .unset, .unset, .unset] [])
  refine own_st (fun _ k => XS.iloadN X0.here hx rfl (hb hby own_d6_0) rfl k) ?_
  obtain ⟨T1, hp1, kk1, X1, e1, Et1, A1, st1⟩ := newP X0 hx hZ (aty := .byte) (own_w27 hw) e0 (g := (mkF m 1 #[.val (.ref a1), .val (.int 0), .val (.int 2), .unset, .unset, .unset] [(.int 2)])) rfl (hb hby own_d6_1) rfl (by decide) (cap := 2) (by decide) (by decide) (by decide) (by decide)
  obtain ⟨b1, g1⟩ : ∃ z, z = h0.size := ⟨_, rfl⟩
  rw [← g1] at A1 st1
  have s_b1 : h0.size ≤ b1 := Nat.le_trans O0.1 (Nat.le_of_eq g1.symm)
  have g_b1 : n0 ≤ b1 := Nat.le_trans Z0 s_b1
  have O1 := own_extt O0 Et1
  have Va1 : Arv Z hp1 b1 kk1 .byte (2 : Int32) [(.int 0), (.int 0)] (.int 0) := (Arv.new A1 (by decide)).pad (pad_rep [] (.int 0) 2)
  refine own_st st1 ?_
  refine own_st (fun _ k => XS.astoreN X1.here hx rfl (hb hby own_d6_3) rfl rfl (l' := #[.val (.ref a1), .val (.int 0), .val (.int 2), .val (.ref b1), .unset, .unset]) rfl k) ?_
  refine own_st (fun _ k => XS.aloadN X1.here hx rfl (hb hby own_d6_4) rfl rfl k) ?_
  refine own_st (fun _ k => XS.iloadN X1.here hx rfl (hb hby own_d6_5) rfl k) ?_
  refine own_st (fun _ k => XS.aloadN X1.here hx rfl (hb hby own_d6_6) rfl rfl k) ?_
  refine own_st (fun _ k => XS.iconst X1.here hx rfl (hb hby own_d6_7) k) ?_
  refine own_st (fun _ k => XS.iloadN X1.here hx rfl (hb hby own_d6_8) rfl k) ?_
  show own_Go _ _ _ _ T1 (mkF m 9 #[.val (.ref a1), .val (.int 0), .val (.int 2), .val (.ref b1), .unset, .unset] [(.int 2), (.int 0), (.ref b1), (.int 0), (.ref a1)])
  obtain ⟨v2, T2, L2, hQ2, X2, st2⟩ := own_callS X1 hx hZ (y := (⟨"java/lang/StringUTF16", "compress", "([CI[BII)I"⟩ : MethodName)) hown (own_w28 hw) (own_w29 hw) (own_w25 hw) (own_w30 hw) (by decide) (own_cp2 l hw [] a1 b1 (0 : Int32) (0 : Int32) (2 : Int32) k1 kk1 c0 c1 hp1 n0 (Nat.le_trans Z0 O1.1) rfl rfl rfl hc0 hc1 (Nat.ne_of_lt (Nat.lt_of_lt_of_le V1.lt s_b1)) g_b1 (V1.ext O1) Va1) e1 (g := (mkF m 9 #[.val (.ref a1), .val (.int 0), .val (.int 2), .val (.ref b1), .unset, .unset] [(.int 2), (.int 0), (.ref b1), (.int 0), (.ref a1)])) rfl (by rw [hml]; rfl) (argsL := [(.ref a1), (.int 0), (.ref b1), (.int 0), (.int 2)]) (rest := []) (lenOf own_pd0 rfl) rfl rfl (W := 0) (Nat.le_of_eq rfl) (hb hby own_d6_9) (by decide) (by decide) (by decide) (by decide)
  obtain ⟨rfl, N2, K2, Vb2⟩ := hQ2
  have O2 : Ext h0 T2.heap := ⟨Nat.le_trans O1.1 K2.1, fun x c r => K2.2.1 x c (O1.2 x c r) (fun z => by
    have q := (Array.getElem?_eq_some_iff.mp r).1
    simp only [List.mem_cons, List.not_mem_nil, or_false] at z
    rcases z with rfl
    exact absurd q (Nat.not_lt.mpr s_b1))⟩
  have N2' := Fr.app N0 N2
  refine own_st st2 ?_
  refine own_st (fun _ k => XS.istore X2.here hx rfl (hb hby own_d6_12) rfl (l' := #[.val (.ref a1), .val (.int 0), .val (.int 2), .val (.ref b1), .val (.int 2), .unset]) rfl k) ?_
  refine own_st (fun _ k => XS.iload X2.here hx rfl (hb hby own_d6_14) rfl k) ?_
  refine own_st (fun _ k => XS.iloadN X2.here hx rfl (hb hby own_d6_16) rfl k) ?_
  refine own_st (fun _ k => XS.icmpYes X2.here hx rfl (pc0 := 17) (pc' := 57) rfl (hb hby own_d6_17) rfl (teq (by decide : (2 : Int32) = (2 : Int32))).1 (by decide) (by decide) k) ?_
  refine own_st (fun _ k => XS.aloadN X2.here hx rfl (hb hby own_d6_57) rfl rfl k) ?_
  exact own_retA X2 hx hret rfl hlk rfl (hb hby own_d6_58) ⟨b1, _, rfl, N2', O2, g_b1, s_b1, Vb2⟩ (by decide) (by decide)
def own_cd2_Q (Z : State) (a1 : Addr) (p1 : Int32) (k1 : ClassId) (c0 c1 : Int32) (h0 : Heap) (n0 : Nat) (v : Option Value) (h : Heap) (L : List Loc) : Prop := v = some (.int 0) ∧ Fr n0 L ∧ h = h0
set_option maxRecDepth 65536 in
set_option maxHeartbeats 40000000 in
theorem own_cd2 (l : Launch) {Z : State} {a0 : Array Value} (hw : own_W Z a0) (ws : List Jvm.Cond) (a1 : Addr) (p1 : Int32) (k1 : ClassId) (c0 c1 : Int32) (h0 : Heap) (n0 : Nat) (Z0 : n0 ≤ h0.size) (hp1 : p1 = (2 : Int32)) (V1 : Arv Z h0 a1 k1 .byte (2 : Int32) [(.int (nar .byte (c0.toInt8.toInt32))), (.int (nar .byte (c1.toInt8.toInt32)))] (.int 0)) :
    MetFree l (⟨"java/lang/StringUTF16", "coderFromArrayLen", "([BI)B"⟩ : MethodName) (head1 (Jvm.Cond.code (⟨"java/lang/StringUTF16", "coderFromArrayLen", "([BI)B"⟩ : MethodName) jdk_52_method_15_code 2 (some .byte) :: ws) ({ frames := 0, cells := 0, slots := 0, locals := 0 } : Room)) (fun a U => a = #[(.ref a1), (.int p1)] ∧ Z.Warmed39 U.vm ∧ U.heap = h0) (fun _ _ _ _ _ => True) (fun _ U o U' => ∃ v L, o = .returned v ∧ own_cd2_Q Z a1 p1 k1 c0 c1 h0 n0 v U'.heap L ∧ FrameEnd U o U' L ({ frames := 0, cells := 0, slots := 0, locals := 0 } : Room).cells ({ frames := 0, cells := 0, slots := 0, locals := 0 } : Room).slots) := by
  refine own_enter (C := ({ frames := 0, cells := 0, slots := 0, locals := 0 } : Room).cells) (S := ({ frames := 0, cells := 0, slots := 0, locals := 0 } : Room).slots) (plainFor_of_name own_pn0) ?_
  intro p e s m below meth c T0 X0 I e0
  obtain ⟨hx, hby, hml, hown, hnm, hret, hlk, hZ⟩ := I
  have N0 := Fr.nil n0
  have O0 := own_extr h0
  refine own_cast (own_ef8 m a1 p1) ?_
  show own_Go _ _ _ _ T0 (mkF m 0 #[.val (.ref a1), .val (.int p1)] [])
  rw [hp1]
  show own_Go _ _ _ _ T0 (mkF m 0 #[.val (.ref a1), .val (.int 2)] [])
  refine own_st (fun _ k => XS.iloadN X0.here hx rfl (hb hby own_d8_0) rfl k) ?_
  refine own_st (fun _ k => XS.aloadN X0.here hx rfl (hb hby own_d8_1) rfl rfl k) ?_
  refine own_st (own_len X0 hx hZ e0 (V1.ext O0) (g := (mkF m 2 #[.val (.ref a1), .val (.int 2)] [(.ref a1), (.int 2)])) rfl rfl (hb hby own_d8_2)) ?_
  refine own_st (fun _ k => XS.isub X0.here hx rfl (hb hby own_d8_3) rfl k) ?_
  show own_Go _ _ _ _ T0 (mkF m 4 #[.val (.ref a1), .val (.int 2)] [(.int ((2 : Int32) - (2 : Int32)))])
  rw [show ((2 : Int32) - (2 : Int32)) = (0 : Int32) from by decide]
  refine own_st (fun _ k => XS.bipush X0.here hx rfl (hb hby own_d8_4) k) ?_
  refine own_st (fun _ k => XS.iushr X0.here hx rfl (hb hby own_d8_6) rfl k) ?_
  show own_Go _ _ _ _ T0 (mkF m 7 #[.val (.ref a1), .val (.int 2)] [(.int (((0 : Int32).toUInt32 >>> ((31 : Int32) &&& 31).toUInt32).toInt32))])
  rw [show (((0 : Int32).toUInt32 >>> ((31 : Int32) &&& 31).toUInt32).toInt32) = (0 : Int32) from by decide]
  refine own_st (fun _ k => XS.i2b X0.here hx rfl (hb hby own_d8_7) rfl k) ?_
  show own_Go _ _ _ _ T0 (mkF m 8 #[.val (.ref a1), .val (.int 2)] [(.int ((0 : Int32).toInt8.toInt32))])
  rw [show ((0 : Int32).toInt8.toInt32) = (0 : Int32) from by decide]
  exact own_retN X0 hx hret (by simp) hlk (hb hby own_d8_8) ⟨rfl, N0, e0⟩ (by decide) (by decide)
def own_vd2_Q (Z : State) (a1 a2 : Addr) (p1 p2 cs : Int32) (k1 : ClassId) (c0 c1 : Int32) (h0 : Heap) (n0 : Nat) (v : Option Value) (h : Heap) (L : List Loc) : Prop := v = none ∧ Fr n0 L ∧ Keep h0 h [a1] ∧ ∃ b k, Fld Z h a1 "java/lang/String" "value" "[B" (.ref b) ∧ Fld Z h a1 "java/lang/String" "coder" "B" (.int 0) ∧ Arv Z h b k .byte (2 : Int32) [(.int (nar .byte (c0.toInt8.toInt32))), (.int (nar .byte (c1.toInt8.toInt32)))] (.int 0)
set_option maxRecDepth 65536 in
set_option maxHeartbeats 40000000 in
theorem own_vd2 (l : Launch) {Z : State} {a0 : Array Value} (hw : own_W Z a0) (ws : List Jvm.Cond) (a1 a2 : Addr) (p1 p2 cs : Int32) (k1 : ClassId) (c0 c1 : Int32) (h0 : Heap) (n0 : Nat) (Z0 : n0 ≤ h0.size) (hp1 : p1 = 0) (hp2 : p2 = (2 : Int32)) (hc0 : own_ch c0) (hc1 : own_ch c1) (Scs : Sta Z h0 "java/lang/String" "COMPACT_STRINGS" "Z" (.int cs)) (hcs : ¬ cs = 0) (g_a1 : n0 ≤ a1) (Ea : Exa Z h0 a1 "java/lang/String") (Fv : Fld Z h0 a1 "java/lang/String" "value" "[B" .null) (Fc : Fld Z h0 a1 "java/lang/String" "coder" "B" (.int 0)) (V1 : Arv Z h0 a2 k1 .char (2 : Int32) [(.int c0), (.int c1)] (.int 0)) :
    MetFree l (⟨"java/lang/String", "<init>", "([CIILjava/lang/Void;)V"⟩ : MethodName) (head1 (Jvm.Cond.code (⟨"java/lang/String", "<init>", "([CIILjava/lang/Void;)V"⟩ : MethodName) jdk_42_method_149_code 6 none :: ws) ({ frames := 2, cells := 1, slots := 2, locals := 40 } : Room)) (fun a U => a = #[(.ref a1), (.ref a2), (.int p1), (.int p2), .null] ∧ Z.Warmed39 U.vm ∧ U.heap = h0) (fun _ _ _ _ _ => True) (fun _ U o U' => ∃ v L, o = .returned v ∧ own_vd2_Q Z a1 a2 p1 p2 cs k1 c0 c1 h0 n0 v U'.heap L ∧ FrameEnd U o U' L ({ frames := 2, cells := 1, slots := 2, locals := 40 } : Room).cells ({ frames := 2, cells := 1, slots := 2, locals := 40 } : Room).slots) := by
  refine own_enter (C := ({ frames := 2, cells := 1, slots := 2, locals := 40 } : Room).cells) (S := ({ frames := 2, cells := 1, slots := 2, locals := 40 } : Room).slots) (plainFor_of_name own_pn1) ?_
  intro p e s m below meth c T0 X0 I e0
  obtain ⟨hx, hby, hml, hown, hnm, hret, hlk, hZ⟩ := I
  have N0 := Fr.nil n0
  have O0 := own_extr h0
  refine own_cast (own_ef4n m a1 a2 p1 p2) ?_
  show own_Go _ _ _ _ T0 (mkF m 0 #[.val (.ref a1), .val (.ref a2), .val (.int p1), .val (.int p2), .val .null, .unset] [])
  rw [hp1, hp2]
  show own_Go _ _ _ _ T0 (mkF m 0 #[.val (.ref a1), .val (.ref a2), .val (.int 0), .val (.int 2), .val .null, .unset] [])
  have K0 := Keep.refl h0 [a1]
  refine own_st (fun _ k => XS.aloadN X0.here hx rfl (hb hby own_d4_0) rfl rfl k) ?_
  obtain ⟨T1, X1, e1, st1⟩ := initO X0 hx hZ hown (own_w19 hw) (own_w20 hw) (own_w21 hw) e0 (g := (mkF m 1 #[.val (.ref a1), .val (.ref a2), .val (.int 0), .val (.int 2), .val .null, .unset] [(.ref a1)])) rfl (by rw [hml]; rfl) rfl (hb hby own_d4_1) (by decide) (W := 0) (Nat.le_of_eq rfl) (by decide)
  refine own_st st1 ?_
  refine own_st (fun _ k => XS.iloadN X1.here hx rfl (hb hby own_d4_4) rfl k) ?_
  refine own_st (fun _ k => XS.ifYes X1.here hx rfl (pc0 := 5) (pc' := 27) rfl (hb hby own_d4_5) rfl ((if0 _ _).trans (feq (by decide : ¬ ((2 : Int32) = (0 : Int32)))).2) (by decide) (by decide) k) ?_
  obtain ⟨T2, X2, e2, st2⟩ := getS2 X1 hx hZ hown (host := "") (Or.inl (own_w22 hw)) Via.refl e1 Scs (g := (mkF m 27 #[.val (.ref a1), .val (.ref a2), .val (.int 0), .val (.int 2), .val .null, .unset] [])) rfl (hb hby own_d4_27)
  refine own_st st2 ?_
  refine own_st (fun _ k => XS.ifNo X2.here hx rfl (hb hby own_d4_30) rfl ((if0 _ _).trans (feq (hcs : ¬ (cs = (0 : Int32)))).1) k) ?_
  refine own_st (fun _ k => XS.aloadN X2.here hx rfl (hb hby own_d4_33) rfl rfl k) ?_
  refine own_st (fun _ k => XS.iloadN X2.here hx rfl (hb hby own_d4_34) rfl k) ?_
  show own_Go _ _ _ _ T2 (mkF m 35 #[.val (.ref a1), .val (.ref a2), .val (.int 0), .val (.int 2), .val .null, .unset] [(.int 0), (.ref a2)])
  refine own_st (fun _ k => XS.iloadN X2.here hx rfl (hb hby own_d4_35) rfl k) ?_
  obtain ⟨v3, T3, L3, hQ3, X3, st3⟩ := own_callS X2 hx hZ (y := (⟨"java/lang/StringUTF16", "compress", "([CII)[B"⟩ : MethodName)) hown (own_w23 hw) (own_w24 hw) (own_w25 hw) (own_w26 hw) (by decide) (own_cq2 l hw [] a2 (0 : Int32) (2 : Int32) k1 c0 c1 h0 n0 Z0 rfl rfl hc0 hc1 V1) e2 (g := (mkF m 36 #[.val (.ref a1), .val (.ref a2), .val (.int 0), .val (.int 2), .val .null, .unset] [(.int 2), (.int 0), (.ref a2)])) rfl (by rw [hml]; rfl) (argsL := [(.ref a2), (.int 0), (.int 2)]) (rest := []) (lenOf own_pd1 rfl) rfl rfl (W := 0) (Nat.le_of_eq rfl) (hb hby own_d4_36) (by decide) (by decide) (by decide) (by decide)
  obtain ⟨b, kb, rfl, N3, Et3, gb, sb, Vb⟩ := hQ3
  have nab : a1 ≠ b := Nat.ne_of_lt (Nat.lt_of_lt_of_le Ea.lt sb)
  have K3x := Keep.ext K0 Et3
  have Scs_3 := Scs.ext Et3
  have Ex_a1_3 := Ea.ext Et3
  have F_value_a1_3 := Fv.ext Et3
  have F_coder_a1_3 := Fc.ext Et3
  have N3' := Fr.app N0 N3
  refine own_st st3 ?_
  refine own_st (fun _ k => XS.astore X3.here hx rfl (hb hby own_d4_39) rfl rfl (l' := #[.val (.ref a1), .val (.ref a2), .val (.int 0), .val (.int 2), .val .null, .val (.ref b)]) rfl k) ?_
  refine own_st (fun _ k => XS.aloadN X3.here hx rfl (hb hby own_d4_41) rfl rfl k) ?_
  refine own_st (fun _ k => XS.aload X3.here hx rfl (hb hby own_d4_42) rfl rfl k) ?_
  refine own_st (fun _ k => XS.iloadN X3.here hx rfl (hb hby own_d4_44) rfl k) ?_
  obtain ⟨v4, T4, L4, hQ4, X4, st4⟩ := own_callS X3 hx hZ (y := (⟨"java/lang/StringUTF16", "coderFromArrayLen", "([BI)B"⟩ : MethodName)) hown (own_w31 hw) (own_w32 hw) (own_w25 hw) (own_w33 hw) (by decide) (own_cd2 l hw [] b (2 : Int32) kb c0 c1 T3.heap n0 (Nat.le_trans Z0 Et3.1) rfl Vb) rfl (g := (mkF m 45 #[.val (.ref a1), .val (.ref a2), .val (.int 0), .val (.int 2), .val .null, .val (.ref b)] [(.int 2), (.ref b), (.ref a1)])) rfl (by rw [hml]; rfl) (argsL := [(.ref b), (.int 2)]) (rest := [(.ref a1)]) (lenOf own_pd2 rfl) rfl rfl (W := 1) (Nat.le_of_eq rfl) (hb hby own_d4_45) (by decide) (by decide) (by decide) (by decide)
  obtain ⟨rfl, N4, e4⟩ := hQ4
  have N4' := Fr.app N3' N4
  refine own_st st4 ?_
  obtain ⟨T5, hp5, X5, e5, W5, st5⟩ := putFN X4 hx hZ hown (own_w34 hw) Via.refl e4 F_coder_a1_3 Ex_a1_3 (Or.inr ⟨(own_w35 hw), rfl, hnm⟩) (own_w10 hw) (ty := .byte) (v' := (.int 0)) (by decide) rfl (by decide) (g := (mkF m 48 #[.val (.ref a1), .val (.ref a2), .val (.int 0), .val (.int 2), .val .null, .val (.ref b)] [(.int 0), (.ref a1)])) rfl rfl (hb hby own_d4_48)
  have K5 := Keep.wr K3x W5 (Or.inl (List.mem_of_getElem? (i := 0) rfl))
  have Scs_5 := Scs_3.wr W5
  have V_b_5 := Vb.other W5 (Ne.symm nab)
  have Ex_a1_5 := Ex_a1_3.wr W5
  have F_value_a1_5 := F_value_a1_3.other W5 (Or.inr (slot_ne (Or.inr (own_w37 hw)) (Or.inr (own_w35 hw)) (by decide) (t := (.array .byte)) (t' := .byte) (by decide) (by decide)))
  have F_coder_a1_5 := F_coder_a1_3.same W5
  have N5 := Fr.snoc X5 N4' g_a1
  refine own_st st5 ?_
  show own_Go _ _ _ _ T5 (mkF m 51 #[.val (.ref a1), .val (.ref a2), .val (.int 0), .val (.int 2), .val .null, .val (.ref b)] [])
  refine own_st (fun _ k => XS.aloadN X5.here hx rfl (hb hby own_d4_51) rfl rfl k) ?_
  refine own_st (fun _ k => XS.aload X5.here hx rfl (hb hby own_d4_52) rfl rfl k) ?_
  obtain ⟨T6, hp6, X6, e6, W6, st6⟩ := putF X5 hx hZ hown (host := "") (Or.inl (own_w36 hw)) Via.refl e5 F_value_a1_5 Ex_a1_5 (Or.inr ⟨(own_w37 hw), rfl, hnm⟩) (own_w10 hw) (ty := (.array .byte)) (by decide) rfl rfl (g := (mkF m 54 #[.val (.ref a1), .val (.ref a2), .val (.int 0), .val (.int 2), .val .null, .val (.ref b)] [(.ref b), (.ref a1)])) rfl rfl (hb hby own_d4_54)
  have K6 := Keep.wr K5 W6 (Or.inl (List.mem_of_getElem? (i := 0) rfl))
  have Scs_6 := Scs_5.wr W6
  have V_b_6 := V_b_5.other W6 (Ne.symm nab)
  have Ex_a1_6 := Ex_a1_5.wr W6
  have F_coder_a1_6 := F_coder_a1_5.other W6 (Or.inr (slot_ne (Or.inr (own_w35 hw)) (Or.inr (own_w37 hw)) (by decide) (t := .byte) (t' := (.array .byte)) (by decide) (by decide)))
  have F_value_a1_6 := F_value_a1_5.same W6
  have N6 := Fr.snoc X6 N5 g_a1
  refine own_st st6 ?_
  exact own_retV X6 hx hret hlk (hb hby own_d4_57) ⟨rfl, N6, by rw [e6]; exact K6, b, kb, by rw [e6]; exact F_value_a1_6, by rw [e6]; exact F_coder_a1_6, by rw [e6]; exact V_b_6⟩ (by decide) (by decide)
def own_cc2_Q (Z : State) (a1 a2 : Addr) (cs : Int32) (k1 : ClassId) (c0 c1 : Int32) (h0 : Heap) (n0 : Nat) (v : Option Value) (h : Heap) (L : List Loc) : Prop := v = none ∧ Fr n0 L ∧ Keep h0 h [a1] ∧ ∃ b k, Fld Z h a1 "java/lang/String" "value" "[B" (.ref b) ∧ Fld Z h a1 "java/lang/String" "coder" "B" (.int 0) ∧ Arv Z h b k .byte (2 : Int32) [(.int (nar .byte (c0.toInt8.toInt32))), (.int (nar .byte (c1.toInt8.toInt32)))] (.int 0)
set_option maxRecDepth 65536 in
set_option maxHeartbeats 40000000 in
theorem own_cc2 (l : Launch) {Z : State} {a0 : Array Value} (hw : own_W Z a0) (ws : List Jvm.Cond) (a1 a2 : Addr) (cs : Int32) (k1 : ClassId) (c0 c1 : Int32) (h0 : Heap) (n0 : Nat) (Z0 : n0 ≤ h0.size) (hc0 : own_ch c0) (hc1 : own_ch c1) (Scs : Sta Z h0 "java/lang/String" "COMPACT_STRINGS" "Z" (.int cs)) (hcs : ¬ cs = 0) (g_a1 : n0 ≤ a1) (Ea : Exa Z h0 a1 "java/lang/String") (Fv : Fld Z h0 a1 "java/lang/String" "value" "[B" .null) (Fc : Fld Z h0 a1 "java/lang/String" "coder" "B" (.int 0)) (V1 : Arv Z h0 a2 k1 .char (2 : Int32) [(.int c0), (.int c1)] (.int 0)) :
    MetFree l (⟨"java/lang/String", "<init>", "([C)V"⟩ : MethodName) (head1 (Jvm.Cond.code (⟨"java/lang/String", "<init>", "([C)V"⟩ : MethodName) jdk_42_method_3_code 2 none :: ws) ({ frames := 3, cells := 1, slots := 2, locals := 57 } : Room)) (fun a U => a = #[(.ref a1), (.ref a2)] ∧ Z.Warmed39 U.vm ∧ U.heap = h0) (fun _ _ _ _ _ => True) (fun _ U o U' => ∃ v L, o = .returned v ∧ own_cc2_Q Z a1 a2 cs k1 c0 c1 h0 n0 v U'.heap L ∧ FrameEnd U o U' L ({ frames := 3, cells := 1, slots := 2, locals := 57 } : Room).cells ({ frames := 3, cells := 1, slots := 2, locals := 57 } : Room).slots) := by
  refine own_enter (C := ({ frames := 3, cells := 1, slots := 2, locals := 57 } : Room).cells) (S := ({ frames := 3, cells := 1, slots := 2, locals := 57 } : Room).slots) (plainFor_of_name own_pn1) ?_
  intro p e s m below meth c T0 X0 I e0
  obtain ⟨hx, hby, hml, hown, hnm, hret, hlk, hZ⟩ := I
  have N0 := Fr.nil n0
  have O0 := own_extr h0
  refine own_cast (own_ef3 m a1 a2) ?_
  show own_Go _ _ _ _ T0 (mkF m 0 #[.val (.ref a1), .val (.ref a2)] [])
  have K0 := Keep.refl h0 [a1]
  refine own_st (fun _ k => XS.aloadN X0.here hx rfl (hb hby own_d3_0) rfl rfl k) ?_
  refine own_st (fun _ k => XS.aloadN X0.here hx rfl (hb hby own_d3_1) rfl rfl k) ?_
  refine own_st (fun _ k => XS.iconst X0.here hx rfl (hb hby own_d3_2) k) ?_
  refine own_st (fun _ k => XS.aloadN X0.here hx rfl (hb hby own_d3_3) rfl rfl k) ?_
  refine own_st (own_len X0 hx hZ e0 V1 (g := (mkF m 4 #[.val (.ref a1), .val (.ref a2)] [(.ref a2), (.int 0), (.ref a2), (.ref a1)])) rfl rfl (hb hby own_d3_4)) ?_
  refine own_st (fun _ k => XS.aconstNull X0.here hx rfl (hb hby own_d3_5) k) ?_
  obtain ⟨v1, T1, L1, hQ1, X1, st1⟩ := own_callI X0 hx hZ (y := (⟨"java/lang/String", "<init>", "([CIILjava/lang/Void;)V"⟩ : MethodName)) rfl hown (own_w15 hw) (own_w16 hw) (own_w11 hw) (own_w18 hw) (by decide) (own_vd2 l hw [] a1 a2 (0 : Int32) (2 : Int32) cs k1 c0 c1 h0 n0 Z0 rfl rfl hc0 hc1 Scs hcs g_a1 Ea Fv Fc V1) e0 (g := (mkF m 6 #[.val (.ref a1), .val (.ref a2)] [.null, (.int 2), (.int 0), (.ref a2), (.ref a1)])) rfl (by rw [hml]; rfl) (argsL := [(.ref a2), (.int 0), (.int 2), .null]) (rest := []) (lenOf own_pd3 rfl) rfl rfl (W := 0) (Nat.le_of_eq rfl) (hb hby own_d3_6) (by decide) (by decide) (by decide) (by decide)
  obtain ⟨rfl, N1, K1, b, kb, Gv, Gc, Vb⟩ := hQ1
  have N1' := Fr.app N0 N1
  refine own_st st1 ?_
  exact own_retV X1 hx hret hlk (hb hby own_d3_9) ⟨rfl, N1', K1, b, kb, Gv, Gc, Vb⟩ (by decide) (by decide)
def own_cp3_Q (Z : State) (a1 a2 : Addr) (p1 p2 p3 : Int32) (k1 k2 : ClassId) (c0 c1 c2 : Int32) (h0 : Heap) (n0 : Nat) (v : Option Value) (h : Heap) (L : List Loc) : Prop := v = some (.int 3) ∧ Fr n0 L ∧ Keep h0 h [a2] ∧ Arv Z h a2 k2 .byte (3 : Int32) [(.int (nar .byte (c0.toInt8.toInt32))), (.int (nar .byte (c1.toInt8.toInt32))), (.int (nar .byte (c2.toInt8.toInt32)))] (.int 0)
set_option maxRecDepth 65536 in
set_option maxHeartbeats 40000000 in
theorem own_cp3 (l : Launch) {Z : State} {a0 : Array Value} (hw : own_W Z a0) (ws : List Jvm.Cond) (a1 a2 : Addr) (p1 p2 p3 : Int32) (k1 k2 : ClassId) (c0 c1 c2 : Int32) (h0 : Heap) (n0 : Nat) (Z0 : n0 ≤ h0.size) (hp1 : p1 = 0) (hp2 : p2 = 0) (hp3 : p3 = (3 : Int32)) (hc0 : own_ch c0) (hc1 : own_ch c1) (hc2 : own_ch c2) (n12 : a1 ≠ a2) (g_a2 : n0 ≤ a2) (V1 : Arv Z h0 a1 k1 .char (3 : Int32) [(.int c0), (.int c1), (.int c2)] (.int 0)) (V2 : Arv Z h0 a2 k2 .byte (3 : Int32) [(.int 0), (.int 0), (.int 0)] (.int 0)) :
    MetFree l (⟨"java/lang/StringUTF16", "compress", "([CI[BII)I"⟩ : MethodName) (head1 (Jvm.Cond.code (⟨"java/lang/StringUTF16", "compress", "([CI[BII)I"⟩ : MethodName) jdk_52_method_21_code 7 (some .int) :: ws) ({ frames := 0, cells := 0, slots := 0, locals := 0 } : Room)) (fun a U => a = #[(.ref a1), (.int p1), (.ref a2), (.int p2), (.int p3)] ∧ Z.Warmed39 U.vm ∧ U.heap = h0) (fun _ _ _ _ _ => True) (fun _ U o U' => ∃ v L, o = .returned v ∧ own_cp3_Q Z a1 a2 p1 p2 p3 k1 k2 c0 c1 c2 h0 n0 v U'.heap L ∧ FrameEnd U o U' L ({ frames := 0, cells := 0, slots := 0, locals := 0 } : Room).cells ({ frames := 0, cells := 0, slots := 0, locals := 0 } : Room).slots) := by
  refine own_enter (C := ({ frames := 0, cells := 0, slots := 0, locals := 0 } : Room).cells) (S := ({ frames := 0, cells := 0, slots := 0, locals := 0 } : Room).slots) (plainFor_of_name own_pn0) ?_
  intro p e s m below meth c T0 X0 I e0
  obtain ⟨hx, hby, hml, hown, hnm, hret, hlk, hZ⟩ := I
  have N0 := Fr.nil n0
  have O0 := own_extr h0
  refine own_cast (own_ef7 m a1 p1 a2 p2 p3) ?_
  show own_Go _ _ _ _ T0 (mkF m 0 #[.val (.ref a1), .val (.int p1), .val (.ref a2), .val (.int p2), .val (.int p3), .unset, .unset] [])
  rw [hp1, hp2, hp3]
  show own_Go _ _ _ _ T0 (mkF m 0 #[.val (.ref a1), .val (.int 0), .val (.ref a2), .val (.int 0), .val (.int 3), .unset, .unset] [])
  have K0 := Keep.refl h0 [a2]
  refine own_st (fun _ k => XS.iconst X0.here hx rfl (hb hby own_d7_0) k) ?_
  refine own_st (fun _ k => XS.istore X0.here hx rfl (hb hby own_d7_1) rfl (l' := #[.val (.ref a1), .val (.int 0), .val (.ref a2), .val (.int 0), .val (.int 3), .val (.int 0), .unset]) rfl k) ?_
  refine own_st (fun _ k => XS.iload X0.here hx rfl (hb hby own_d7_3) rfl k) ?_
  refine own_st (fun _ k => XS.iload X0.here hx rfl (hb hby own_d7_5) rfl k) ?_
  refine own_st (fun _ k => XS.icmpNo X0.here hx rfl (hb hby own_d7_7) rfl (tlt (by decide : (0 : Int32) < (3 : Int32))).2.1 k) ?_
  refine own_st (fun _ k => XS.aloadN X0.here hx rfl (hb hby own_d7_10) rfl rfl k) ?_
  refine own_st (fun _ k => XS.iloadN X0.here hx rfl (hb hby own_d7_11) rfl k) ?_
  refine own_st (own_ldC X0 hx hZ e0 V1 (j := (0 : Int32)) (by decide) (v := (.int c0)) rfl (g := (mkF m 12 #[.val (.ref a1), .val (.int 0), .val (.ref a2), .val (.int 0), .val (.int 3), .val (.int 0), .unset] [(.int 0), (.ref a1)])) rfl rfl (hb hby own_d7_12)) ?_
  show own_Go _ _ _ _ T0 (mkF m 13 #[.val (.ref a1), .val (.int 0), .val (.ref a2), .val (.int 0), .val (.int 3), .val (.int 0), .unset] [(.int c0)])
  refine own_st (fun _ k => XS.istore X0.here hx rfl (hb hby own_d7_13) rfl (l' := #[.val (.ref a1), .val (.int 0), .val (.ref a2), .val (.int 0), .val (.int 3), .val (.int 0), .val (.int c0)]) rfl k) ?_
  refine own_st (fun _ k => XS.iload X0.here hx rfl (hb hby own_d7_15) rfl k) ?_
  refine own_st (fun _ k => XS.sipush X0.here hx rfl (hb hby own_d7_17) k) ?_
  refine own_st (fun _ k => XS.icmpYes X0.here hx rfl (pc0 := 20) (pc' := 26) rfl (hb hby own_d7_20) rfl (flt (own_le255 hc0 : ¬ ((255 : Int32) < c0))).2.2.2 (by decide) (by decide) k) ?_
  refine own_st (fun _ k => XS.aloadN X0.here hx rfl (hb hby own_d7_26) rfl rfl k) ?_
  refine own_st (fun _ k => XS.iloadN X0.here hx rfl (hb hby own_d7_27) rfl k) ?_
  refine own_st (fun _ k => XS.iload X0.here hx rfl (hb hby own_d7_28) rfl k) ?_
  refine own_st (fun _ k => XS.i2b X0.here hx rfl (hb hby own_d7_30) rfl k) ?_
  show own_Go _ _ _ _ T0 (mkF m 31 #[.val (.ref a1), .val (.int 0), .val (.ref a2), .val (.int 0), .val (.int 3), .val (.int 0), .val (.int c0)] [(.int (c0.toInt8.toInt32)), (.int 0), (.ref a2)])
  obtain ⟨T1, hp1, X1, e1, W1, Va1, st1⟩ := own_stB X0 hx hZ e0 V2 (by decide) 0 (by decide) (Nat.le_of_ble_eq_true rfl) (g := (mkF m 31 #[.val (.ref a1), .val (.int 0), .val (.ref a2), .val (.int 0), .val (.int 3), .val (.int 0), .val (.int c0)] [(.int (c0.toInt8.toInt32)), (.int 0), (.ref a2)])) rfl rfl (hb hby own_d7_31)
  have K1 := Keep.wr K0 W1 (Or.inl (List.mem_of_getElem? (i := 0) rfl))
  have V_a1_1 := V1.other W1 n12
  have Va1 : Arv Z hp1 a2 k2 .byte (3 : Int32) [(.int (nar .byte (c0.toInt8.toInt32))), (.int 0), (.int 0)] (.int 0) := Va1
  have N1 := Fr.snoc X1 N0 g_a2
  refine own_st st1 ?_
  refine own_st (fun _ k => XS.iinc X1.here hx rfl (hb hby own_d7_32) rfl (l' := #[.val (.ref a1), .val (.int ((0 : Int32) + (1 : Int32))), .val (.ref a2), .val (.int 0), .val (.int 3), .val (.int 0), .val (.int c0)]) rfl k) ?_
  show own_Go _ _ _ _ T1 (mkF m 35 #[.val (.ref a1), .val (.int ((0 : Int32) + (1 : Int32))), .val (.ref a2), .val (.int 0), .val (.int 3), .val (.int 0), .val (.int c0)] [])
  rw [show ((0 : Int32) + (1 : Int32)) = (1 : Int32) from by decide]
  refine own_st (fun _ k => XS.iinc X1.here hx rfl (hb hby own_d7_35) rfl (l' := #[.val (.ref a1), .val (.int 1), .val (.ref a2), .val (.int ((0 : Int32) + (1 : Int32))), .val (.int 3), .val (.int 0), .val (.int c0)]) rfl k) ?_
  show own_Go _ _ _ _ T1 (mkF m 38 #[.val (.ref a1), .val (.int 1), .val (.ref a2), .val (.int ((0 : Int32) + (1 : Int32))), .val (.int 3), .val (.int 0), .val (.int c0)] [])
  rw [show ((0 : Int32) + (1 : Int32)) = (1 : Int32) from by decide]
  refine own_st (fun _ k => XS.iinc X1.here hx rfl (hb hby own_d7_38) rfl (l' := #[.val (.ref a1), .val (.int 1), .val (.ref a2), .val (.int 1), .val (.int 3), .val (.int ((0 : Int32) + (1 : Int32))), .val (.int c0)]) rfl k) ?_
  show own_Go _ _ _ _ T1 (mkF m 41 #[.val (.ref a1), .val (.int 1), .val (.ref a2), .val (.int 1), .val (.int 3), .val (.int ((0 : Int32) + (1 : Int32))), .val (.int c0)] [])
  rw [show ((0 : Int32) + (1 : Int32)) = (1 : Int32) from by decide]
  refine own_st (fun _ k => XS.goto X1.here hx rfl (pc0 := 41) (pc' := 3) rfl (hb hby own_d7_41) (by decide) (by decide) k) ?_
  refine own_st (fun _ k => XS.iload X1.here hx rfl (hb hby own_d7_3) rfl k) ?_
  refine own_st (fun _ k => XS.iload X1.here hx rfl (hb hby own_d7_5) rfl k) ?_
  refine own_st (fun _ k => XS.icmpNo X1.here hx rfl (hb hby own_d7_7) rfl (tlt (by decide : (1 : Int32) < (3 : Int32))).2.1 k) ?_
  refine own_st (fun _ k => XS.aloadN X1.here hx rfl (hb hby own_d7_10) rfl rfl k) ?_
  refine own_st (fun _ k => XS.iloadN X1.here hx rfl (hb hby own_d7_11) rfl k) ?_
  refine own_st (own_ldC X1 hx hZ e1 V_a1_1 (j := (1 : Int32)) (by decide) (v := (.int c1)) rfl (g := (mkF m 12 #[.val (.ref a1), .val (.int 1), .val (.ref a2), .val (.int 1), .val (.int 3), .val (.int 1), .val (.int c0)] [(.int 1), (.ref a1)])) rfl rfl (hb hby own_d7_12)) ?_
  show own_Go _ _ _ _ T1 (mkF m 13 #[.val (.ref a1), .val (.int 1), .val (.ref a2), .val (.int 1), .val (.int 3), .val (.int 1), .val (.int c0)] [(.int c1)])
  refine own_st (fun _ k => XS.istore X1.here hx rfl (hb hby own_d7_13) rfl (l' := #[.val (.ref a1), .val (.int 1), .val (.ref a2), .val (.int 1), .val (.int 3), .val (.int 1), .val (.int c1)]) rfl k) ?_
  refine own_st (fun _ k => XS.iload X1.here hx rfl (hb hby own_d7_15) rfl k) ?_
  refine own_st (fun _ k => XS.sipush X1.here hx rfl (hb hby own_d7_17) k) ?_
  refine own_st (fun _ k => XS.icmpYes X1.here hx rfl (pc0 := 20) (pc' := 26) rfl (hb hby own_d7_20) rfl (flt (own_le255 hc1 : ¬ ((255 : Int32) < c1))).2.2.2 (by decide) (by decide) k) ?_
  refine own_st (fun _ k => XS.aloadN X1.here hx rfl (hb hby own_d7_26) rfl rfl k) ?_
  refine own_st (fun _ k => XS.iloadN X1.here hx rfl (hb hby own_d7_27) rfl k) ?_
  refine own_st (fun _ k => XS.iload X1.here hx rfl (hb hby own_d7_28) rfl k) ?_
  refine own_st (fun _ k => XS.i2b X1.here hx rfl (hb hby own_d7_30) rfl k) ?_
  show own_Go _ _ _ _ T1 (mkF m 31 #[.val (.ref a1), .val (.int 1), .val (.ref a2), .val (.int 1), .val (.int 3), .val (.int 1), .val (.int c1)] [(.int (c1.toInt8.toInt32)), (.int 1), (.ref a2)])
  obtain ⟨T2, hp2, X2, e2, W2, Va2, st2⟩ := own_stB X1 hx hZ e1 Va1 (by decide) 1 (by decide) (Nat.le_of_ble_eq_true rfl) (g := (mkF m 31 #[.val (.ref a1), .val (.int 1), .val (.ref a2), .val (.int 1), .val (.int 3), .val (.int 1), .val (.int c1)] [(.int (c1.toInt8.toInt32)), (.int 1), (.ref a2)])) rfl rfl (hb hby own_d7_31)
  have K2 := Keep.wr K1 W2 (Or.inl (List.mem_of_getElem? (i := 0) rfl))
  have V_a1_2 := V_a1_1.other W2 n12
  have Va2 : Arv Z hp2 a2 k2 .byte (3 : Int32) [(.int (nar .byte (c0.toInt8.toInt32))), (.int (nar .byte (c1.toInt8.toInt32))), (.int 0)] (.int 0) := Va2
  have N2 := Fr.snoc X2 N1 g_a2
  refine own_st st2 ?_
  refine own_st (fun _ k => XS.iinc X2.here hx rfl (hb hby own_d7_32) rfl (l' := #[.val (.ref a1), .val (.int ((1 : Int32) + (1 : Int32))), .val (.ref a2), .val (.int 1), .val (.int 3), .val (.int 1), .val (.int c1)]) rfl k) ?_
  show own_Go _ _ _ _ T2 (mkF m 35 #[.val (.ref a1), .val (.int ((1 : Int32) + (1 : Int32))), .val (.ref a2), .val (.int 1), .val (.int 3), .val (.int 1), .val (.int c1)] [])
  rw [show ((1 : Int32) + (1 : Int32)) = (2 : Int32) from by decide]
  refine own_st (fun _ k => XS.iinc X2.here hx rfl (hb hby own_d7_35) rfl (l' := #[.val (.ref a1), .val (.int 2), .val (.ref a2), .val (.int ((1 : Int32) + (1 : Int32))), .val (.int 3), .val (.int 1), .val (.int c1)]) rfl k) ?_
  show own_Go _ _ _ _ T2 (mkF m 38 #[.val (.ref a1), .val (.int 2), .val (.ref a2), .val (.int ((1 : Int32) + (1 : Int32))), .val (.int 3), .val (.int 1), .val (.int c1)] [])
  rw [show ((1 : Int32) + (1 : Int32)) = (2 : Int32) from by decide]
  refine own_st (fun _ k => XS.iinc X2.here hx rfl (hb hby own_d7_38) rfl (l' := #[.val (.ref a1), .val (.int 2), .val (.ref a2), .val (.int 2), .val (.int 3), .val (.int ((1 : Int32) + (1 : Int32))), .val (.int c1)]) rfl k) ?_
  show own_Go _ _ _ _ T2 (mkF m 41 #[.val (.ref a1), .val (.int 2), .val (.ref a2), .val (.int 2), .val (.int 3), .val (.int ((1 : Int32) + (1 : Int32))), .val (.int c1)] [])
  rw [show ((1 : Int32) + (1 : Int32)) = (2 : Int32) from by decide]
  refine own_st (fun _ k => XS.goto X2.here hx rfl (pc0 := 41) (pc' := 3) rfl (hb hby own_d7_41) (by decide) (by decide) k) ?_
  refine own_st (fun _ k => XS.iload X2.here hx rfl (hb hby own_d7_3) rfl k) ?_
  refine own_st (fun _ k => XS.iload X2.here hx rfl (hb hby own_d7_5) rfl k) ?_
  refine own_st (fun _ k => XS.icmpNo X2.here hx rfl (hb hby own_d7_7) rfl (tlt (by decide : (2 : Int32) < (3 : Int32))).2.1 k) ?_
  refine own_st (fun _ k => XS.aloadN X2.here hx rfl (hb hby own_d7_10) rfl rfl k) ?_
  refine own_st (fun _ k => XS.iloadN X2.here hx rfl (hb hby own_d7_11) rfl k) ?_
  refine own_st (own_ldC X2 hx hZ e2 V_a1_2 (j := (2 : Int32)) (by decide) (v := (.int c2)) rfl (g := (mkF m 12 #[.val (.ref a1), .val (.int 2), .val (.ref a2), .val (.int 2), .val (.int 3), .val (.int 2), .val (.int c1)] [(.int 2), (.ref a1)])) rfl rfl (hb hby own_d7_12)) ?_
  show own_Go _ _ _ _ T2 (mkF m 13 #[.val (.ref a1), .val (.int 2), .val (.ref a2), .val (.int 2), .val (.int 3), .val (.int 2), .val (.int c1)] [(.int c2)])
  refine own_st (fun _ k => XS.istore X2.here hx rfl (hb hby own_d7_13) rfl (l' := #[.val (.ref a1), .val (.int 2), .val (.ref a2), .val (.int 2), .val (.int 3), .val (.int 2), .val (.int c2)]) rfl k) ?_
  refine own_st (fun _ k => XS.iload X2.here hx rfl (hb hby own_d7_15) rfl k) ?_
  refine own_st (fun _ k => XS.sipush X2.here hx rfl (hb hby own_d7_17) k) ?_
  refine own_st (fun _ k => XS.icmpYes X2.here hx rfl (pc0 := 20) (pc' := 26) rfl (hb hby own_d7_20) rfl (flt (own_le255 hc2 : ¬ ((255 : Int32) < c2))).2.2.2 (by decide) (by decide) k) ?_
  refine own_st (fun _ k => XS.aloadN X2.here hx rfl (hb hby own_d7_26) rfl rfl k) ?_
  refine own_st (fun _ k => XS.iloadN X2.here hx rfl (hb hby own_d7_27) rfl k) ?_
  refine own_st (fun _ k => XS.iload X2.here hx rfl (hb hby own_d7_28) rfl k) ?_
  refine own_st (fun _ k => XS.i2b X2.here hx rfl (hb hby own_d7_30) rfl k) ?_
  show own_Go _ _ _ _ T2 (mkF m 31 #[.val (.ref a1), .val (.int 2), .val (.ref a2), .val (.int 2), .val (.int 3), .val (.int 2), .val (.int c2)] [(.int (c2.toInt8.toInt32)), (.int 2), (.ref a2)])
  obtain ⟨T3, hp3, X3, e3, W3, Va3, st3⟩ := own_stB X2 hx hZ e2 Va2 (by decide) 2 (by decide) (Nat.le_of_ble_eq_true rfl) (g := (mkF m 31 #[.val (.ref a1), .val (.int 2), .val (.ref a2), .val (.int 2), .val (.int 3), .val (.int 2), .val (.int c2)] [(.int (c2.toInt8.toInt32)), (.int 2), (.ref a2)])) rfl rfl (hb hby own_d7_31)
  have K3 := Keep.wr K2 W3 (Or.inl (List.mem_of_getElem? (i := 0) rfl))
  have V_a1_3 := V_a1_2.other W3 n12
  have Va3 : Arv Z hp3 a2 k2 .byte (3 : Int32) [(.int (nar .byte (c0.toInt8.toInt32))), (.int (nar .byte (c1.toInt8.toInt32))), (.int (nar .byte (c2.toInt8.toInt32)))] (.int 0) := Va3
  have N3 := Fr.snoc X3 N2 g_a2
  refine own_st st3 ?_
  refine own_st (fun _ k => XS.iinc X3.here hx rfl (hb hby own_d7_32) rfl (l' := #[.val (.ref a1), .val (.int ((2 : Int32) + (1 : Int32))), .val (.ref a2), .val (.int 2), .val (.int 3), .val (.int 2), .val (.int c2)]) rfl k) ?_
  show own_Go _ _ _ _ T3 (mkF m 35 #[.val (.ref a1), .val (.int ((2 : Int32) + (1 : Int32))), .val (.ref a2), .val (.int 2), .val (.int 3), .val (.int 2), .val (.int c2)] [])
  rw [show ((2 : Int32) + (1 : Int32)) = (3 : Int32) from by decide]
  refine own_st (fun _ k => XS.iinc X3.here hx rfl (hb hby own_d7_35) rfl (l' := #[.val (.ref a1), .val (.int 3), .val (.ref a2), .val (.int ((2 : Int32) + (1 : Int32))), .val (.int 3), .val (.int 2), .val (.int c2)]) rfl k) ?_
  show own_Go _ _ _ _ T3 (mkF m 38 #[.val (.ref a1), .val (.int 3), .val (.ref a2), .val (.int ((2 : Int32) + (1 : Int32))), .val (.int 3), .val (.int 2), .val (.int c2)] [])
  rw [show ((2 : Int32) + (1 : Int32)) = (3 : Int32) from by decide]
  refine own_st (fun _ k => XS.iinc X3.here hx rfl (hb hby own_d7_38) rfl (l' := #[.val (.ref a1), .val (.int 3), .val (.ref a2), .val (.int 3), .val (.int 3), .val (.int ((2 : Int32) + (1 : Int32))), .val (.int c2)]) rfl k) ?_
  show own_Go _ _ _ _ T3 (mkF m 41 #[.val (.ref a1), .val (.int 3), .val (.ref a2), .val (.int 3), .val (.int 3), .val (.int ((2 : Int32) + (1 : Int32))), .val (.int c2)] [])
  rw [show ((2 : Int32) + (1 : Int32)) = (3 : Int32) from by decide]
  refine own_st (fun _ k => XS.goto X3.here hx rfl (pc0 := 41) (pc' := 3) rfl (hb hby own_d7_41) (by decide) (by decide) k) ?_
  refine own_st (fun _ k => XS.iload X3.here hx rfl (hb hby own_d7_3) rfl k) ?_
  refine own_st (fun _ k => XS.iload X3.here hx rfl (hb hby own_d7_5) rfl k) ?_
  refine own_st (fun _ k => XS.icmpYes X3.here hx rfl (pc0 := 7) (pc' := 44) rfl (hb hby own_d7_7) rfl (flt (by decide : ¬ ((3 : Int32) < (3 : Int32)))).2.1 (by decide) (by decide) k) ?_
  refine own_st (fun _ k => XS.iload X3.here hx rfl (hb hby own_d7_44) rfl k) ?_
  exact own_retI X3 hx hret hlk (hb hby own_d7_46) ⟨rfl, N3, by rw [e3]; exact K3, by rw [e3]; exact Va3⟩ (by decide) (by decide)
def own_cq3_Q (Z : State) (a1 : Addr) (p1 p2 : Int32) (k1 : ClassId) (c0 c1 c2 : Int32) (h0 : Heap) (n0 : Nat) (v : Option Value) (h : Heap) (L : List Loc) : Prop := ∃ b k, v = some (.ref b) ∧ Fr n0 L ∧ Ext h0 h ∧ n0 ≤ b ∧ h0.size ≤ b ∧ Arv Z h b k .byte (3 : Int32) [(.int (nar .byte (c0.toInt8.toInt32))), (.int (nar .byte (c1.toInt8.toInt32))), (.int (nar .byte (c2.toInt8.toInt32)))] (.int 0)
set_option maxRecDepth 65536 in
set_option maxHeartbeats 40000000 in
theorem own_cq3 (l : Launch) {Z : State} {a0 : Array Value} (hw : own_W Z a0) (ws : List Jvm.Cond) (a1 : Addr) (p1 p2 : Int32) (k1 : ClassId) (c0 c1 c2 : Int32) (h0 : Heap) (n0 : Nat) (Z0 : n0 ≤ h0.size) (hp1 : p1 = 0) (hp2 : p2 = (3 : Int32)) (hc0 : own_ch c0) (hc1 : own_ch c1) (hc2 : own_ch c2) (V1 : Arv Z h0 a1 k1 .char (3 : Int32) [(.int c0), (.int c1), (.int c2)] (.int 0)) :
    MetFree l (⟨"java/lang/StringUTF16", "compress", "([CII)[B"⟩ : MethodName) (head1 (Jvm.Cond.code (⟨"java/lang/StringUTF16", "compress", "([CII)[B"⟩ : MethodName) jdk_52_method_16_code 6 (some (.array .byte)) :: ws) ({ frames := 1, cells := 1, slots := 3, locals := 18 } : Room)) (fun a U => a = #[(.ref a1), (.int p1), (.int p2)] ∧ Z.Warmed39 U.vm ∧ U.heap = h0) (fun _ _ _ _ _ => True) (fun _ U o U' => ∃ v L, o = .returned v ∧ own_cq3_Q Z a1 p1 p2 k1 c0 c1 c2 h0 n0 v U'.heap L ∧ FrameEnd U o U' L ({ frames := 1, cells := 1, slots := 3, locals := 18 } : Room).cells ({ frames := 1, cells := 1, slots := 3, locals := 18 } : Room).slots) := by
  refine own_enter (C := ({ frames := 1, cells := 1, slots := 3, locals := 18 } : Room).cells) (S := ({ frames := 1, cells := 1, slots := 3, locals := 18 } : Room).slots) (plainFor_of_name own_pn0) ?_
  intro p e s m below meth c T0 X0 I e0
  obtain ⟨hx, hby, hml, hown, hnm, hret, hlk, hZ⟩ := I
  have N0 := Fr.nil n0
  have O0 := own_extr h0
  refine own_cast (own_ef6 m a1 p1 p2) ?_
  show own_Go _ _ _ _ T0 (mkF m 0 #[.val (.ref a1), .val (.int p1), .val (.int p2), .unset, .unset, .unset] [])
  rw [hp1, hp2]
  show own_Go _ _ _ _ T0 (mkF m 0 #[.val (.ref a1), .val (.int 0), .val (.int 3), .unset, .unset, .unset] [])
  refine own_st (fun _ k => XS.iloadN X0.here hx rfl (hb hby own_d6_0) rfl k) ?_
  obtain ⟨T1, hp1, kk1, X1, e1, Et1, A1, st1⟩ := newP X0 hx hZ (aty := .byte) (own_w27 hw) e0 (g := (mkF m 1 #[.val (.ref a1), .val (.int 0), .val (.int 3), .unset, .unset, .unset] [(.int 3)])) rfl (hb hby own_d6_1) rfl (by decide) (cap := 3) (by decide) (by decide) (by decide) (by decide)
  obtain ⟨b1, g1⟩ : ∃ z, z = h0.size := ⟨_, rfl⟩
  rw [← g1] at A1 st1
  have s_b1 : h0.size ≤ b1 := Nat.le_trans O0.1 (Nat.le_of_eq g1.symm)
  have g_b1 : n0 ≤ b1 := Nat.le_trans Z0 s_b1
  have O1 := own_extt O0 Et1
  have Va1 : Arv Z hp1 b1 kk1 .byte (3 : Int32) [(.int 0), (.int 0), (.int 0)] (.int 0) := (Arv.new A1 (by decide)).pad (pad_rep [] (.int 0) 3)
  refine own_st st1 ?_
  refine own_st (fun _ k => XS.astoreN X1.here hx rfl (hb hby own_d6_3) rfl rfl (l' := #[.val (.ref a1), .val (.int 0), .val (.int 3), .val (.ref b1), .unset, .unset]) rfl k) ?_
  refine own_st (fun _ k => XS.aloadN X1.here hx rfl (hb hby own_d6_4) rfl rfl k) ?_
  refine own_st (fun _ k => XS.iloadN X1.here hx rfl (hb hby own_d6_5) rfl k) ?_
  refine own_st (fun _ k => XS.aloadN X1.here hx rfl (hb hby own_d6_6) rfl rfl k) ?_
  refine own_st (fun _ k => XS.iconst X1.here hx rfl (hb hby own_d6_7) k) ?_
  refine own_st (fun _ k => XS.iloadN X1.here hx rfl (hb hby own_d6_8) rfl k) ?_
  show own_Go _ _ _ _ T1 (mkF m 9 #[.val (.ref a1), .val (.int 0), .val (.int 3), .val (.ref b1), .unset, .unset] [(.int 3), (.int 0), (.ref b1), (.int 0), (.ref a1)])
  obtain ⟨v2, T2, L2, hQ2, X2, st2⟩ := own_callS X1 hx hZ (y := (⟨"java/lang/StringUTF16", "compress", "([CI[BII)I"⟩ : MethodName)) hown (own_w28 hw) (own_w29 hw) (own_w25 hw) (own_w30 hw) (by decide) (own_cp3 l hw [] a1 b1 (0 : Int32) (0 : Int32) (3 : Int32) k1 kk1 c0 c1 c2 hp1 n0 (Nat.le_trans Z0 O1.1) rfl rfl rfl hc0 hc1 hc2 (Nat.ne_of_lt (Nat.lt_of_lt_of_le V1.lt s_b1)) g_b1 (V1.ext O1) Va1) e1 (g := (mkF m 9 #[.val (.ref a1), .val (.int 0), .val (.int 3), .val (.ref b1), .unset, .unset] [(.int 3), (.int 0), (.ref b1), (.int 0), (.ref a1)])) rfl (by rw [hml]; rfl) (argsL := [(.ref a1), (.int 0), (.ref b1), (.int 0), (.int 3)]) (rest := []) (lenOf own_pd0 rfl) rfl rfl (W := 0) (Nat.le_of_eq rfl) (hb hby own_d6_9) (by decide) (by decide) (by decide) (by decide)
  obtain ⟨rfl, N2, K2, Vb2⟩ := hQ2
  have O2 : Ext h0 T2.heap := ⟨Nat.le_trans O1.1 K2.1, fun x c r => K2.2.1 x c (O1.2 x c r) (fun z => by
    have q := (Array.getElem?_eq_some_iff.mp r).1
    simp only [List.mem_cons, List.not_mem_nil, or_false] at z
    rcases z with rfl
    exact absurd q (Nat.not_lt.mpr s_b1))⟩
  have N2' := Fr.app N0 N2
  refine own_st st2 ?_
  refine own_st (fun _ k => XS.istore X2.here hx rfl (hb hby own_d6_12) rfl (l' := #[.val (.ref a1), .val (.int 0), .val (.int 3), .val (.ref b1), .val (.int 3), .unset]) rfl k) ?_
  refine own_st (fun _ k => XS.iload X2.here hx rfl (hb hby own_d6_14) rfl k) ?_
  refine own_st (fun _ k => XS.iloadN X2.here hx rfl (hb hby own_d6_16) rfl k) ?_
  refine own_st (fun _ k => XS.icmpYes X2.here hx rfl (pc0 := 17) (pc' := 57) rfl (hb hby own_d6_17) rfl (teq (by decide : (3 : Int32) = (3 : Int32))).1 (by decide) (by decide) k) ?_
  refine own_st (fun _ k => XS.aloadN X2.here hx rfl (hb hby own_d6_57) rfl rfl k) ?_
  exact own_retA X2 hx hret rfl hlk rfl (hb hby own_d6_58) ⟨b1, _, rfl, N2', O2, g_b1, s_b1, Vb2⟩ (by decide) (by decide)
def own_cd3_Q (Z : State) (a1 : Addr) (p1 : Int32) (k1 : ClassId) (c0 c1 c2 : Int32) (h0 : Heap) (n0 : Nat) (v : Option Value) (h : Heap) (L : List Loc) : Prop := v = some (.int 0) ∧ Fr n0 L ∧ h = h0
set_option maxRecDepth 65536 in
set_option maxHeartbeats 40000000 in
theorem own_cd3 (l : Launch) {Z : State} {a0 : Array Value} (hw : own_W Z a0) (ws : List Jvm.Cond) (a1 : Addr) (p1 : Int32) (k1 : ClassId) (c0 c1 c2 : Int32) (h0 : Heap) (n0 : Nat) (Z0 : n0 ≤ h0.size) (hp1 : p1 = (3 : Int32)) (V1 : Arv Z h0 a1 k1 .byte (3 : Int32) [(.int (nar .byte (c0.toInt8.toInt32))), (.int (nar .byte (c1.toInt8.toInt32))), (.int (nar .byte (c2.toInt8.toInt32)))] (.int 0)) :
    MetFree l (⟨"java/lang/StringUTF16", "coderFromArrayLen", "([BI)B"⟩ : MethodName) (head1 (Jvm.Cond.code (⟨"java/lang/StringUTF16", "coderFromArrayLen", "([BI)B"⟩ : MethodName) jdk_52_method_15_code 2 (some .byte) :: ws) ({ frames := 0, cells := 0, slots := 0, locals := 0 } : Room)) (fun a U => a = #[(.ref a1), (.int p1)] ∧ Z.Warmed39 U.vm ∧ U.heap = h0) (fun _ _ _ _ _ => True) (fun _ U o U' => ∃ v L, o = .returned v ∧ own_cd3_Q Z a1 p1 k1 c0 c1 c2 h0 n0 v U'.heap L ∧ FrameEnd U o U' L ({ frames := 0, cells := 0, slots := 0, locals := 0 } : Room).cells ({ frames := 0, cells := 0, slots := 0, locals := 0 } : Room).slots) := by
  refine own_enter (C := ({ frames := 0, cells := 0, slots := 0, locals := 0 } : Room).cells) (S := ({ frames := 0, cells := 0, slots := 0, locals := 0 } : Room).slots) (plainFor_of_name own_pn0) ?_
  intro p e s m below meth c T0 X0 I e0
  obtain ⟨hx, hby, hml, hown, hnm, hret, hlk, hZ⟩ := I
  have N0 := Fr.nil n0
  have O0 := own_extr h0
  refine own_cast (own_ef8 m a1 p1) ?_
  show own_Go _ _ _ _ T0 (mkF m 0 #[.val (.ref a1), .val (.int p1)] [])
  rw [hp1]
  show own_Go _ _ _ _ T0 (mkF m 0 #[.val (.ref a1), .val (.int 3)] [])
  refine own_st (fun _ k => XS.iloadN X0.here hx rfl (hb hby own_d8_0) rfl k) ?_
  refine own_st (fun _ k => XS.aloadN X0.here hx rfl (hb hby own_d8_1) rfl rfl k) ?_
  refine own_st (own_len X0 hx hZ e0 (V1.ext O0) (g := (mkF m 2 #[.val (.ref a1), .val (.int 3)] [(.ref a1), (.int 3)])) rfl rfl (hb hby own_d8_2)) ?_
  refine own_st (fun _ k => XS.isub X0.here hx rfl (hb hby own_d8_3) rfl k) ?_
  show own_Go _ _ _ _ T0 (mkF m 4 #[.val (.ref a1), .val (.int 3)] [(.int ((3 : Int32) - (3 : Int32)))])
  rw [show ((3 : Int32) - (3 : Int32)) = (0 : Int32) from by decide]
  refine own_st (fun _ k => XS.bipush X0.here hx rfl (hb hby own_d8_4) k) ?_
  refine own_st (fun _ k => XS.iushr X0.here hx rfl (hb hby own_d8_6) rfl k) ?_
  show own_Go _ _ _ _ T0 (mkF m 7 #[.val (.ref a1), .val (.int 3)] [(.int (((0 : Int32).toUInt32 >>> ((31 : Int32) &&& 31).toUInt32).toInt32))])
  rw [show (((0 : Int32).toUInt32 >>> ((31 : Int32) &&& 31).toUInt32).toInt32) = (0 : Int32) from by decide]
  refine own_st (fun _ k => XS.i2b X0.here hx rfl (hb hby own_d8_7) rfl k) ?_
  show own_Go _ _ _ _ T0 (mkF m 8 #[.val (.ref a1), .val (.int 3)] [(.int ((0 : Int32).toInt8.toInt32))])
  rw [show ((0 : Int32).toInt8.toInt32) = (0 : Int32) from by decide]
  exact own_retN X0 hx hret (by simp) hlk (hb hby own_d8_8) ⟨rfl, N0, e0⟩ (by decide) (by decide)
def own_vd3_Q (Z : State) (a1 a2 : Addr) (p1 p2 cs : Int32) (k1 : ClassId) (c0 c1 c2 : Int32) (h0 : Heap) (n0 : Nat) (v : Option Value) (h : Heap) (L : List Loc) : Prop := v = none ∧ Fr n0 L ∧ Keep h0 h [a1] ∧ ∃ b k, Fld Z h a1 "java/lang/String" "value" "[B" (.ref b) ∧ Fld Z h a1 "java/lang/String" "coder" "B" (.int 0) ∧ Arv Z h b k .byte (3 : Int32) [(.int (nar .byte (c0.toInt8.toInt32))), (.int (nar .byte (c1.toInt8.toInt32))), (.int (nar .byte (c2.toInt8.toInt32)))] (.int 0)
set_option maxRecDepth 65536 in
set_option maxHeartbeats 40000000 in
theorem own_vd3 (l : Launch) {Z : State} {a0 : Array Value} (hw : own_W Z a0) (ws : List Jvm.Cond) (a1 a2 : Addr) (p1 p2 cs : Int32) (k1 : ClassId) (c0 c1 c2 : Int32) (h0 : Heap) (n0 : Nat) (Z0 : n0 ≤ h0.size) (hp1 : p1 = 0) (hp2 : p2 = (3 : Int32)) (hc0 : own_ch c0) (hc1 : own_ch c1) (hc2 : own_ch c2) (Scs : Sta Z h0 "java/lang/String" "COMPACT_STRINGS" "Z" (.int cs)) (hcs : ¬ cs = 0) (g_a1 : n0 ≤ a1) (Ea : Exa Z h0 a1 "java/lang/String") (Fv : Fld Z h0 a1 "java/lang/String" "value" "[B" .null) (Fc : Fld Z h0 a1 "java/lang/String" "coder" "B" (.int 0)) (V1 : Arv Z h0 a2 k1 .char (3 : Int32) [(.int c0), (.int c1), (.int c2)] (.int 0)) :
    MetFree l (⟨"java/lang/String", "<init>", "([CIILjava/lang/Void;)V"⟩ : MethodName) (head1 (Jvm.Cond.code (⟨"java/lang/String", "<init>", "([CIILjava/lang/Void;)V"⟩ : MethodName) jdk_42_method_149_code 6 none :: ws) ({ frames := 2, cells := 1, slots := 3, locals := 40 } : Room)) (fun a U => a = #[(.ref a1), (.ref a2), (.int p1), (.int p2), .null] ∧ Z.Warmed39 U.vm ∧ U.heap = h0) (fun _ _ _ _ _ => True) (fun _ U o U' => ∃ v L, o = .returned v ∧ own_vd3_Q Z a1 a2 p1 p2 cs k1 c0 c1 c2 h0 n0 v U'.heap L ∧ FrameEnd U o U' L ({ frames := 2, cells := 1, slots := 3, locals := 40 } : Room).cells ({ frames := 2, cells := 1, slots := 3, locals := 40 } : Room).slots) := by
  refine own_enter (C := ({ frames := 2, cells := 1, slots := 3, locals := 40 } : Room).cells) (S := ({ frames := 2, cells := 1, slots := 3, locals := 40 } : Room).slots) (plainFor_of_name own_pn1) ?_
  intro p e s m below meth c T0 X0 I e0
  obtain ⟨hx, hby, hml, hown, hnm, hret, hlk, hZ⟩ := I
  have N0 := Fr.nil n0
  have O0 := own_extr h0
  refine own_cast (own_ef4n m a1 a2 p1 p2) ?_
  show own_Go _ _ _ _ T0 (mkF m 0 #[.val (.ref a1), .val (.ref a2), .val (.int p1), .val (.int p2), .val .null, .unset] [])
  rw [hp1, hp2]
  show own_Go _ _ _ _ T0 (mkF m 0 #[.val (.ref a1), .val (.ref a2), .val (.int 0), .val (.int 3), .val .null, .unset] [])
  have K0 := Keep.refl h0 [a1]
  refine own_st (fun _ k => XS.aloadN X0.here hx rfl (hb hby own_d4_0) rfl rfl k) ?_
  obtain ⟨T1, X1, e1, st1⟩ := initO X0 hx hZ hown (own_w19 hw) (own_w20 hw) (own_w21 hw) e0 (g := (mkF m 1 #[.val (.ref a1), .val (.ref a2), .val (.int 0), .val (.int 3), .val .null, .unset] [(.ref a1)])) rfl (by rw [hml]; rfl) rfl (hb hby own_d4_1) (by decide) (W := 0) (Nat.le_of_eq rfl) (by decide)
  refine own_st st1 ?_
  refine own_st (fun _ k => XS.iloadN X1.here hx rfl (hb hby own_d4_4) rfl k) ?_
  refine own_st (fun _ k => XS.ifYes X1.here hx rfl (pc0 := 5) (pc' := 27) rfl (hb hby own_d4_5) rfl ((if0 _ _).trans (feq (by decide : ¬ ((3 : Int32) = (0 : Int32)))).2) (by decide) (by decide) k) ?_
  obtain ⟨T2, X2, e2, st2⟩ := getS2 X1 hx hZ hown (host := "") (Or.inl (own_w22 hw)) Via.refl e1 Scs (g := (mkF m 27 #[.val (.ref a1), .val (.ref a2), .val (.int 0), .val (.int 3), .val .null, .unset] [])) rfl (hb hby own_d4_27)
  refine own_st st2 ?_
  refine own_st (fun _ k => XS.ifNo X2.here hx rfl (hb hby own_d4_30) rfl ((if0 _ _).trans (feq (hcs : ¬ (cs = (0 : Int32)))).1) k) ?_
  refine own_st (fun _ k => XS.aloadN X2.here hx rfl (hb hby own_d4_33) rfl rfl k) ?_
  refine own_st (fun _ k => XS.iloadN X2.here hx rfl (hb hby own_d4_34) rfl k) ?_
  show own_Go _ _ _ _ T2 (mkF m 35 #[.val (.ref a1), .val (.ref a2), .val (.int 0), .val (.int 3), .val .null, .unset] [(.int 0), (.ref a2)])
  refine own_st (fun _ k => XS.iloadN X2.here hx rfl (hb hby own_d4_35) rfl k) ?_
  obtain ⟨v3, T3, L3, hQ3, X3, st3⟩ := own_callS X2 hx hZ (y := (⟨"java/lang/StringUTF16", "compress", "([CII)[B"⟩ : MethodName)) hown (own_w23 hw) (own_w24 hw) (own_w25 hw) (own_w26 hw) (by decide) (own_cq3 l hw [] a2 (0 : Int32) (3 : Int32) k1 c0 c1 c2 h0 n0 Z0 rfl rfl hc0 hc1 hc2 V1) e2 (g := (mkF m 36 #[.val (.ref a1), .val (.ref a2), .val (.int 0), .val (.int 3), .val .null, .unset] [(.int 3), (.int 0), (.ref a2)])) rfl (by rw [hml]; rfl) (argsL := [(.ref a2), (.int 0), (.int 3)]) (rest := []) (lenOf own_pd1 rfl) rfl rfl (W := 0) (Nat.le_of_eq rfl) (hb hby own_d4_36) (by decide) (by decide) (by decide) (by decide)
  obtain ⟨b, kb, rfl, N3, Et3, gb, sb, Vb⟩ := hQ3
  have nab : a1 ≠ b := Nat.ne_of_lt (Nat.lt_of_lt_of_le Ea.lt sb)
  have K3x := Keep.ext K0 Et3
  have Scs_3 := Scs.ext Et3
  have Ex_a1_3 := Ea.ext Et3
  have F_value_a1_3 := Fv.ext Et3
  have F_coder_a1_3 := Fc.ext Et3
  have N3' := Fr.app N0 N3
  refine own_st st3 ?_
  refine own_st (fun _ k => XS.astore X3.here hx rfl (hb hby own_d4_39) rfl rfl (l' := #[.val (.ref a1), .val (.ref a2), .val (.int 0), .val (.int 3), .val .null, .val (.ref b)]) rfl k) ?_
  refine own_st (fun _ k => XS.aloadN X3.here hx rfl (hb hby own_d4_41) rfl rfl k) ?_
  refine own_st (fun _ k => XS.aload X3.here hx rfl (hb hby own_d4_42) rfl rfl k) ?_
  refine own_st (fun _ k => XS.iloadN X3.here hx rfl (hb hby own_d4_44) rfl k) ?_
  obtain ⟨v4, T4, L4, hQ4, X4, st4⟩ := own_callS X3 hx hZ (y := (⟨"java/lang/StringUTF16", "coderFromArrayLen", "([BI)B"⟩ : MethodName)) hown (own_w31 hw) (own_w32 hw) (own_w25 hw) (own_w33 hw) (by decide) (own_cd3 l hw [] b (3 : Int32) kb c0 c1 c2 T3.heap n0 (Nat.le_trans Z0 Et3.1) rfl Vb) rfl (g := (mkF m 45 #[.val (.ref a1), .val (.ref a2), .val (.int 0), .val (.int 3), .val .null, .val (.ref b)] [(.int 3), (.ref b), (.ref a1)])) rfl (by rw [hml]; rfl) (argsL := [(.ref b), (.int 3)]) (rest := [(.ref a1)]) (lenOf own_pd2 rfl) rfl rfl (W := 1) (Nat.le_of_eq rfl) (hb hby own_d4_45) (by decide) (by decide) (by decide) (by decide)
  obtain ⟨rfl, N4, e4⟩ := hQ4
  have N4' := Fr.app N3' N4
  refine own_st st4 ?_
  obtain ⟨T5, hp5, X5, e5, W5, st5⟩ := putFN X4 hx hZ hown (own_w34 hw) Via.refl e4 F_coder_a1_3 Ex_a1_3 (Or.inr ⟨(own_w35 hw), rfl, hnm⟩) (own_w10 hw) (ty := .byte) (v' := (.int 0)) (by decide) rfl (by decide) (g := (mkF m 48 #[.val (.ref a1), .val (.ref a2), .val (.int 0), .val (.int 3), .val .null, .val (.ref b)] [(.int 0), (.ref a1)])) rfl rfl (hb hby own_d4_48)
  have K5 := Keep.wr K3x W5 (Or.inl (List.mem_of_getElem? (i := 0) rfl))
  have Scs_5 := Scs_3.wr W5
  have V_b_5 := Vb.other W5 (Ne.symm nab)
  have Ex_a1_5 := Ex_a1_3.wr W5
  have F_value_a1_5 := F_value_a1_3.other W5 (Or.inr (slot_ne (Or.inr (own_w37 hw)) (Or.inr (own_w35 hw)) (by decide) (t := (.array .byte)) (t' := .byte) (by decide) (by decide)))
  have F_coder_a1_5 := F_coder_a1_3.same W5
  have N5 := Fr.snoc X5 N4' g_a1
  refine own_st st5 ?_
  show own_Go _ _ _ _ T5 (mkF m 51 #[.val (.ref a1), .val (.ref a2), .val (.int 0), .val (.int 3), .val .null, .val (.ref b)] [])
  refine own_st (fun _ k => XS.aloadN X5.here hx rfl (hb hby own_d4_51) rfl rfl k) ?_
  refine own_st (fun _ k => XS.aload X5.here hx rfl (hb hby own_d4_52) rfl rfl k) ?_
  obtain ⟨T6, hp6, X6, e6, W6, st6⟩ := putF X5 hx hZ hown (host := "") (Or.inl (own_w36 hw)) Via.refl e5 F_value_a1_5 Ex_a1_5 (Or.inr ⟨(own_w37 hw), rfl, hnm⟩) (own_w10 hw) (ty := (.array .byte)) (by decide) rfl rfl (g := (mkF m 54 #[.val (.ref a1), .val (.ref a2), .val (.int 0), .val (.int 3), .val .null, .val (.ref b)] [(.ref b), (.ref a1)])) rfl rfl (hb hby own_d4_54)
  have K6 := Keep.wr K5 W6 (Or.inl (List.mem_of_getElem? (i := 0) rfl))
  have Scs_6 := Scs_5.wr W6
  have V_b_6 := V_b_5.other W6 (Ne.symm nab)
  have Ex_a1_6 := Ex_a1_5.wr W6
  have F_coder_a1_6 := F_coder_a1_5.other W6 (Or.inr (slot_ne (Or.inr (own_w35 hw)) (Or.inr (own_w37 hw)) (by decide) (t := .byte) (t' := (.array .byte)) (by decide) (by decide)))
  have F_value_a1_6 := F_value_a1_5.same W6
  have N6 := Fr.snoc X6 N5 g_a1
  refine own_st st6 ?_
  exact own_retV X6 hx hret hlk (hb hby own_d4_57) ⟨rfl, N6, by rw [e6]; exact K6, b, kb, by rw [e6]; exact F_value_a1_6, by rw [e6]; exact F_coder_a1_6, by rw [e6]; exact V_b_6⟩ (by decide) (by decide)
def own_cc3_Q (Z : State) (a1 a2 : Addr) (cs : Int32) (k1 : ClassId) (c0 c1 c2 : Int32) (h0 : Heap) (n0 : Nat) (v : Option Value) (h : Heap) (L : List Loc) : Prop := v = none ∧ Fr n0 L ∧ Keep h0 h [a1] ∧ ∃ b k, Fld Z h a1 "java/lang/String" "value" "[B" (.ref b) ∧ Fld Z h a1 "java/lang/String" "coder" "B" (.int 0) ∧ Arv Z h b k .byte (3 : Int32) [(.int (nar .byte (c0.toInt8.toInt32))), (.int (nar .byte (c1.toInt8.toInt32))), (.int (nar .byte (c2.toInt8.toInt32)))] (.int 0)
set_option maxRecDepth 65536 in
set_option maxHeartbeats 40000000 in
theorem own_cc3 (l : Launch) {Z : State} {a0 : Array Value} (hw : own_W Z a0) (ws : List Jvm.Cond) (a1 a2 : Addr) (cs : Int32) (k1 : ClassId) (c0 c1 c2 : Int32) (h0 : Heap) (n0 : Nat) (Z0 : n0 ≤ h0.size) (hc0 : own_ch c0) (hc1 : own_ch c1) (hc2 : own_ch c2) (Scs : Sta Z h0 "java/lang/String" "COMPACT_STRINGS" "Z" (.int cs)) (hcs : ¬ cs = 0) (g_a1 : n0 ≤ a1) (Ea : Exa Z h0 a1 "java/lang/String") (Fv : Fld Z h0 a1 "java/lang/String" "value" "[B" .null) (Fc : Fld Z h0 a1 "java/lang/String" "coder" "B" (.int 0)) (V1 : Arv Z h0 a2 k1 .char (3 : Int32) [(.int c0), (.int c1), (.int c2)] (.int 0)) :
    MetFree l (⟨"java/lang/String", "<init>", "([C)V"⟩ : MethodName) (head1 (Jvm.Cond.code (⟨"java/lang/String", "<init>", "([C)V"⟩ : MethodName) jdk_42_method_3_code 2 none :: ws) ({ frames := 3, cells := 1, slots := 3, locals := 57 } : Room)) (fun a U => a = #[(.ref a1), (.ref a2)] ∧ Z.Warmed39 U.vm ∧ U.heap = h0) (fun _ _ _ _ _ => True) (fun _ U o U' => ∃ v L, o = .returned v ∧ own_cc3_Q Z a1 a2 cs k1 c0 c1 c2 h0 n0 v U'.heap L ∧ FrameEnd U o U' L ({ frames := 3, cells := 1, slots := 3, locals := 57 } : Room).cells ({ frames := 3, cells := 1, slots := 3, locals := 57 } : Room).slots) := by
  refine own_enter (C := ({ frames := 3, cells := 1, slots := 3, locals := 57 } : Room).cells) (S := ({ frames := 3, cells := 1, slots := 3, locals := 57 } : Room).slots) (plainFor_of_name own_pn1) ?_
  intro p e s m below meth c T0 X0 I e0
  obtain ⟨hx, hby, hml, hown, hnm, hret, hlk, hZ⟩ := I
  have N0 := Fr.nil n0
  have O0 := own_extr h0
  refine own_cast (own_ef3 m a1 a2) ?_
  show own_Go _ _ _ _ T0 (mkF m 0 #[.val (.ref a1), .val (.ref a2)] [])
  have K0 := Keep.refl h0 [a1]
  refine own_st (fun _ k => XS.aloadN X0.here hx rfl (hb hby own_d3_0) rfl rfl k) ?_
  refine own_st (fun _ k => XS.aloadN X0.here hx rfl (hb hby own_d3_1) rfl rfl k) ?_
  refine own_st (fun _ k => XS.iconst X0.here hx rfl (hb hby own_d3_2) k) ?_
  refine own_st (fun _ k => XS.aloadN X0.here hx rfl (hb hby own_d3_3) rfl rfl k) ?_
  refine own_st (own_len X0 hx hZ e0 V1 (g := (mkF m 4 #[.val (.ref a1), .val (.ref a2)] [(.ref a2), (.int 0), (.ref a2), (.ref a1)])) rfl rfl (hb hby own_d3_4)) ?_
  refine own_st (fun _ k => XS.aconstNull X0.here hx rfl (hb hby own_d3_5) k) ?_
  obtain ⟨v1, T1, L1, hQ1, X1, st1⟩ := own_callI X0 hx hZ (y := (⟨"java/lang/String", "<init>", "([CIILjava/lang/Void;)V"⟩ : MethodName)) rfl hown (own_w15 hw) (own_w16 hw) (own_w11 hw) (own_w18 hw) (by decide) (own_vd3 l hw [] a1 a2 (0 : Int32) (3 : Int32) cs k1 c0 c1 c2 h0 n0 Z0 rfl rfl hc0 hc1 hc2 Scs hcs g_a1 Ea Fv Fc V1) e0 (g := (mkF m 6 #[.val (.ref a1), .val (.ref a2)] [.null, (.int 3), (.int 0), (.ref a2), (.ref a1)])) rfl (by rw [hml]; rfl) (argsL := [(.ref a2), (.int 0), (.int 3), .null]) (rest := []) (lenOf own_pd3 rfl) rfl rfl (W := 0) (Nat.le_of_eq rfl) (hb hby own_d3_6) (by decide) (by decide) (by decide) (by decide)
  obtain ⟨rfl, N1, K1, b, kb, Gv, Gc, Vb⟩ := hQ1
  have N1' := Fr.app N0 N1
  refine own_st st1 ?_
  exact own_retV X1 hx hret hlk (hb hby own_d3_9) ⟨rfl, N1', K1, b, kb, Gv, Gc, Vb⟩ (by decide) (by decide)
def own_cp4_Q (Z : State) (a1 a2 : Addr) (p1 p2 p3 : Int32) (k1 k2 : ClassId) (c0 c1 c2 c3 : Int32) (h0 : Heap) (n0 : Nat) (v : Option Value) (h : Heap) (L : List Loc) : Prop := v = some (.int 4) ∧ Fr n0 L ∧ Keep h0 h [a2] ∧ Arv Z h a2 k2 .byte (4 : Int32) [(.int (nar .byte (c0.toInt8.toInt32))), (.int (nar .byte (c1.toInt8.toInt32))), (.int (nar .byte (c2.toInt8.toInt32))), (.int (nar .byte (c3.toInt8.toInt32)))] (.int 0)
set_option maxRecDepth 65536 in
set_option maxHeartbeats 40000000 in
theorem own_cp4 (l : Launch) {Z : State} {a0 : Array Value} (hw : own_W Z a0) (ws : List Jvm.Cond) (a1 a2 : Addr) (p1 p2 p3 : Int32) (k1 k2 : ClassId) (c0 c1 c2 c3 : Int32) (h0 : Heap) (n0 : Nat) (Z0 : n0 ≤ h0.size) (hp1 : p1 = 0) (hp2 : p2 = 0) (hp3 : p3 = (4 : Int32)) (hc0 : own_ch c0) (hc1 : own_ch c1) (hc2 : own_ch c2) (hc3 : own_ch c3) (n12 : a1 ≠ a2) (g_a2 : n0 ≤ a2) (V1 : Arv Z h0 a1 k1 .char (4 : Int32) [(.int c0), (.int c1), (.int c2), (.int c3)] (.int 0)) (V2 : Arv Z h0 a2 k2 .byte (4 : Int32) [(.int 0), (.int 0), (.int 0), (.int 0)] (.int 0)) :
    MetFree l (⟨"java/lang/StringUTF16", "compress", "([CI[BII)I"⟩ : MethodName) (head1 (Jvm.Cond.code (⟨"java/lang/StringUTF16", "compress", "([CI[BII)I"⟩ : MethodName) jdk_52_method_21_code 7 (some .int) :: ws) ({ frames := 0, cells := 0, slots := 0, locals := 0 } : Room)) (fun a U => a = #[(.ref a1), (.int p1), (.ref a2), (.int p2), (.int p3)] ∧ Z.Warmed39 U.vm ∧ U.heap = h0) (fun _ _ _ _ _ => True) (fun _ U o U' => ∃ v L, o = .returned v ∧ own_cp4_Q Z a1 a2 p1 p2 p3 k1 k2 c0 c1 c2 c3 h0 n0 v U'.heap L ∧ FrameEnd U o U' L ({ frames := 0, cells := 0, slots := 0, locals := 0 } : Room).cells ({ frames := 0, cells := 0, slots := 0, locals := 0 } : Room).slots) := by
  refine own_enter (C := ({ frames := 0, cells := 0, slots := 0, locals := 0 } : Room).cells) (S := ({ frames := 0, cells := 0, slots := 0, locals := 0 } : Room).slots) (plainFor_of_name own_pn0) ?_
  intro p e s m below meth c T0 X0 I e0
  obtain ⟨hx, hby, hml, hown, hnm, hret, hlk, hZ⟩ := I
  have N0 := Fr.nil n0
  have O0 := own_extr h0
  refine own_cast (own_ef7 m a1 p1 a2 p2 p3) ?_
  show own_Go _ _ _ _ T0 (mkF m 0 #[.val (.ref a1), .val (.int p1), .val (.ref a2), .val (.int p2), .val (.int p3), .unset, .unset] [])
  rw [hp1, hp2, hp3]
  show own_Go _ _ _ _ T0 (mkF m 0 #[.val (.ref a1), .val (.int 0), .val (.ref a2), .val (.int 0), .val (.int 4), .unset, .unset] [])
  have K0 := Keep.refl h0 [a2]
  refine own_st (fun _ k => XS.iconst X0.here hx rfl (hb hby own_d7_0) k) ?_
  refine own_st (fun _ k => XS.istore X0.here hx rfl (hb hby own_d7_1) rfl (l' := #[.val (.ref a1), .val (.int 0), .val (.ref a2), .val (.int 0), .val (.int 4), .val (.int 0), .unset]) rfl k) ?_
  refine own_st (fun _ k => XS.iload X0.here hx rfl (hb hby own_d7_3) rfl k) ?_
  refine own_st (fun _ k => XS.iload X0.here hx rfl (hb hby own_d7_5) rfl k) ?_
  refine own_st (fun _ k => XS.icmpNo X0.here hx rfl (hb hby own_d7_7) rfl (tlt (by decide : (0 : Int32) < (4 : Int32))).2.1 k) ?_
  refine own_st (fun _ k => XS.aloadN X0.here hx rfl (hb hby own_d7_10) rfl rfl k) ?_
  refine own_st (fun _ k => XS.iloadN X0.here hx rfl (hb hby own_d7_11) rfl k) ?_
  refine own_st (own_ldC X0 hx hZ e0 V1 (j := (0 : Int32)) (by decide) (v := (.int c0)) rfl (g := (mkF m 12 #[.val (.ref a1), .val (.int 0), .val (.ref a2), .val (.int 0), .val (.int 4), .val (.int 0), .unset] [(.int 0), (.ref a1)])) rfl rfl (hb hby own_d7_12)) ?_
  show own_Go _ _ _ _ T0 (mkF m 13 #[.val (.ref a1), .val (.int 0), .val (.ref a2), .val (.int 0), .val (.int 4), .val (.int 0), .unset] [(.int c0)])
  refine own_st (fun _ k => XS.istore X0.here hx rfl (hb hby own_d7_13) rfl (l' := #[.val (.ref a1), .val (.int 0), .val (.ref a2), .val (.int 0), .val (.int 4), .val (.int 0), .val (.int c0)]) rfl k) ?_
  refine own_st (fun _ k => XS.iload X0.here hx rfl (hb hby own_d7_15) rfl k) ?_
  refine own_st (fun _ k => XS.sipush X0.here hx rfl (hb hby own_d7_17) k) ?_
  refine own_st (fun _ k => XS.icmpYes X0.here hx rfl (pc0 := 20) (pc' := 26) rfl (hb hby own_d7_20) rfl (flt (own_le255 hc0 : ¬ ((255 : Int32) < c0))).2.2.2 (by decide) (by decide) k) ?_
  refine own_st (fun _ k => XS.aloadN X0.here hx rfl (hb hby own_d7_26) rfl rfl k) ?_
  refine own_st (fun _ k => XS.iloadN X0.here hx rfl (hb hby own_d7_27) rfl k) ?_
  refine own_st (fun _ k => XS.iload X0.here hx rfl (hb hby own_d7_28) rfl k) ?_
  refine own_st (fun _ k => XS.i2b X0.here hx rfl (hb hby own_d7_30) rfl k) ?_
  show own_Go _ _ _ _ T0 (mkF m 31 #[.val (.ref a1), .val (.int 0), .val (.ref a2), .val (.int 0), .val (.int 4), .val (.int 0), .val (.int c0)] [(.int (c0.toInt8.toInt32)), (.int 0), (.ref a2)])
  obtain ⟨T1, hp1, X1, e1, W1, Va1, st1⟩ := own_stB X0 hx hZ e0 V2 (by decide) 0 (by decide) (Nat.le_of_ble_eq_true rfl) (g := (mkF m 31 #[.val (.ref a1), .val (.int 0), .val (.ref a2), .val (.int 0), .val (.int 4), .val (.int 0), .val (.int c0)] [(.int (c0.toInt8.toInt32)), (.int 0), (.ref a2)])) rfl rfl (hb hby own_d7_31)
  have K1 := Keep.wr K0 W1 (Or.inl (List.mem_of_getElem? (i := 0) rfl))
  have V_a1_1 := V1.other W1 n12
  have Va1 : Arv Z hp1 a2 k2 .byte (4 : Int32) [(.int (nar .byte (c0.toInt8.toInt32))), (.int 0), (.int 0), (.int 0)] (.int 0) := Va1
  have N1 := Fr.snoc X1 N0 g_a2
  refine own_st st1 ?_
  refine own_st (fun _ k => XS.iinc X1.here hx rfl (hb hby own_d7_32) rfl (l' := #[.val (.ref a1), .val (.int ((0 : Int32) + (1 : Int32))), .val (.ref a2), .val (.int 0), .val (.int 4), .val (.int 0), .val (.int c0)]) rfl k) ?_
  show own_Go _ _ _ _ T1 (mkF m 35 #[.val (.ref a1), .val (.int ((0 : Int32) + (1 : Int32))), .val (.ref a2), .val (.int 0), .val (.int 4), .val (.int 0), .val (.int c0)] [])
  rw [show ((0 : Int32) + (1 : Int32)) = (1 : Int32) from by decide]
  refine own_st (fun _ k => XS.iinc X1.here hx rfl (hb hby own_d7_35) rfl (l' := #[.val (.ref a1), .val (.int 1), .val (.ref a2), .val (.int ((0 : Int32) + (1 : Int32))), .val (.int 4), .val (.int 0), .val (.int c0)]) rfl k) ?_
  show own_Go _ _ _ _ T1 (mkF m 38 #[.val (.ref a1), .val (.int 1), .val (.ref a2), .val (.int ((0 : Int32) + (1 : Int32))), .val (.int 4), .val (.int 0), .val (.int c0)] [])
  rw [show ((0 : Int32) + (1 : Int32)) = (1 : Int32) from by decide]
  refine own_st (fun _ k => XS.iinc X1.here hx rfl (hb hby own_d7_38) rfl (l' := #[.val (.ref a1), .val (.int 1), .val (.ref a2), .val (.int 1), .val (.int 4), .val (.int ((0 : Int32) + (1 : Int32))), .val (.int c0)]) rfl k) ?_
  show own_Go _ _ _ _ T1 (mkF m 41 #[.val (.ref a1), .val (.int 1), .val (.ref a2), .val (.int 1), .val (.int 4), .val (.int ((0 : Int32) + (1 : Int32))), .val (.int c0)] [])
  rw [show ((0 : Int32) + (1 : Int32)) = (1 : Int32) from by decide]
  refine own_st (fun _ k => XS.goto X1.here hx rfl (pc0 := 41) (pc' := 3) rfl (hb hby own_d7_41) (by decide) (by decide) k) ?_
  refine own_st (fun _ k => XS.iload X1.here hx rfl (hb hby own_d7_3) rfl k) ?_
  refine own_st (fun _ k => XS.iload X1.here hx rfl (hb hby own_d7_5) rfl k) ?_
  refine own_st (fun _ k => XS.icmpNo X1.here hx rfl (hb hby own_d7_7) rfl (tlt (by decide : (1 : Int32) < (4 : Int32))).2.1 k) ?_
  refine own_st (fun _ k => XS.aloadN X1.here hx rfl (hb hby own_d7_10) rfl rfl k) ?_
  refine own_st (fun _ k => XS.iloadN X1.here hx rfl (hb hby own_d7_11) rfl k) ?_
  refine own_st (own_ldC X1 hx hZ e1 V_a1_1 (j := (1 : Int32)) (by decide) (v := (.int c1)) rfl (g := (mkF m 12 #[.val (.ref a1), .val (.int 1), .val (.ref a2), .val (.int 1), .val (.int 4), .val (.int 1), .val (.int c0)] [(.int 1), (.ref a1)])) rfl rfl (hb hby own_d7_12)) ?_
  show own_Go _ _ _ _ T1 (mkF m 13 #[.val (.ref a1), .val (.int 1), .val (.ref a2), .val (.int 1), .val (.int 4), .val (.int 1), .val (.int c0)] [(.int c1)])
  refine own_st (fun _ k => XS.istore X1.here hx rfl (hb hby own_d7_13) rfl (l' := #[.val (.ref a1), .val (.int 1), .val (.ref a2), .val (.int 1), .val (.int 4), .val (.int 1), .val (.int c1)]) rfl k) ?_
  refine own_st (fun _ k => XS.iload X1.here hx rfl (hb hby own_d7_15) rfl k) ?_
  refine own_st (fun _ k => XS.sipush X1.here hx rfl (hb hby own_d7_17) k) ?_
  refine own_st (fun _ k => XS.icmpYes X1.here hx rfl (pc0 := 20) (pc' := 26) rfl (hb hby own_d7_20) rfl (flt (own_le255 hc1 : ¬ ((255 : Int32) < c1))).2.2.2 (by decide) (by decide) k) ?_
  refine own_st (fun _ k => XS.aloadN X1.here hx rfl (hb hby own_d7_26) rfl rfl k) ?_
  refine own_st (fun _ k => XS.iloadN X1.here hx rfl (hb hby own_d7_27) rfl k) ?_
  refine own_st (fun _ k => XS.iload X1.here hx rfl (hb hby own_d7_28) rfl k) ?_
  refine own_st (fun _ k => XS.i2b X1.here hx rfl (hb hby own_d7_30) rfl k) ?_
  show own_Go _ _ _ _ T1 (mkF m 31 #[.val (.ref a1), .val (.int 1), .val (.ref a2), .val (.int 1), .val (.int 4), .val (.int 1), .val (.int c1)] [(.int (c1.toInt8.toInt32)), (.int 1), (.ref a2)])
  obtain ⟨T2, hp2, X2, e2, W2, Va2, st2⟩ := own_stB X1 hx hZ e1 Va1 (by decide) 1 (by decide) (Nat.le_of_ble_eq_true rfl) (g := (mkF m 31 #[.val (.ref a1), .val (.int 1), .val (.ref a2), .val (.int 1), .val (.int 4), .val (.int 1), .val (.int c1)] [(.int (c1.toInt8.toInt32)), (.int 1), (.ref a2)])) rfl rfl (hb hby own_d7_31)
  have K2 := Keep.wr K1 W2 (Or.inl (List.mem_of_getElem? (i := 0) rfl))
  have V_a1_2 := V_a1_1.other W2 n12
  have Va2 : Arv Z hp2 a2 k2 .byte (4 : Int32) [(.int (nar .byte (c0.toInt8.toInt32))), (.int (nar .byte (c1.toInt8.toInt32))), (.int 0), (.int 0)] (.int 0) := Va2
  have N2 := Fr.snoc X2 N1 g_a2
  refine own_st st2 ?_
  refine own_st (fun _ k => XS.iinc X2.here hx rfl (hb hby own_d7_32) rfl (l' := #[.val (.ref a1), .val (.int ((1 : Int32) + (1 : Int32))), .val (.ref a2), .val (.int 1), .val (.int 4), .val (.int 1), .val (.int c1)]) rfl k) ?_
  show own_Go _ _ _ _ T2 (mkF m 35 #[.val (.ref a1), .val (.int ((1 : Int32) + (1 : Int32))), .val (.ref a2), .val (.int 1), .val (.int 4), .val (.int 1), .val (.int c1)] [])
  rw [show ((1 : Int32) + (1 : Int32)) = (2 : Int32) from by decide]
  refine own_st (fun _ k => XS.iinc X2.here hx rfl (hb hby own_d7_35) rfl (l' := #[.val (.ref a1), .val (.int 2), .val (.ref a2), .val (.int ((1 : Int32) + (1 : Int32))), .val (.int 4), .val (.int 1), .val (.int c1)]) rfl k) ?_
  show own_Go _ _ _ _ T2 (mkF m 38 #[.val (.ref a1), .val (.int 2), .val (.ref a2), .val (.int ((1 : Int32) + (1 : Int32))), .val (.int 4), .val (.int 1), .val (.int c1)] [])
  rw [show ((1 : Int32) + (1 : Int32)) = (2 : Int32) from by decide]
  refine own_st (fun _ k => XS.iinc X2.here hx rfl (hb hby own_d7_38) rfl (l' := #[.val (.ref a1), .val (.int 2), .val (.ref a2), .val (.int 2), .val (.int 4), .val (.int ((1 : Int32) + (1 : Int32))), .val (.int c1)]) rfl k) ?_
  show own_Go _ _ _ _ T2 (mkF m 41 #[.val (.ref a1), .val (.int 2), .val (.ref a2), .val (.int 2), .val (.int 4), .val (.int ((1 : Int32) + (1 : Int32))), .val (.int c1)] [])
  rw [show ((1 : Int32) + (1 : Int32)) = (2 : Int32) from by decide]
  refine own_st (fun _ k => XS.goto X2.here hx rfl (pc0 := 41) (pc' := 3) rfl (hb hby own_d7_41) (by decide) (by decide) k) ?_
  refine own_st (fun _ k => XS.iload X2.here hx rfl (hb hby own_d7_3) rfl k) ?_
  refine own_st (fun _ k => XS.iload X2.here hx rfl (hb hby own_d7_5) rfl k) ?_
  refine own_st (fun _ k => XS.icmpNo X2.here hx rfl (hb hby own_d7_7) rfl (tlt (by decide : (2 : Int32) < (4 : Int32))).2.1 k) ?_
  refine own_st (fun _ k => XS.aloadN X2.here hx rfl (hb hby own_d7_10) rfl rfl k) ?_
  refine own_st (fun _ k => XS.iloadN X2.here hx rfl (hb hby own_d7_11) rfl k) ?_
  refine own_st (own_ldC X2 hx hZ e2 V_a1_2 (j := (2 : Int32)) (by decide) (v := (.int c2)) rfl (g := (mkF m 12 #[.val (.ref a1), .val (.int 2), .val (.ref a2), .val (.int 2), .val (.int 4), .val (.int 2), .val (.int c1)] [(.int 2), (.ref a1)])) rfl rfl (hb hby own_d7_12)) ?_
  show own_Go _ _ _ _ T2 (mkF m 13 #[.val (.ref a1), .val (.int 2), .val (.ref a2), .val (.int 2), .val (.int 4), .val (.int 2), .val (.int c1)] [(.int c2)])
  refine own_st (fun _ k => XS.istore X2.here hx rfl (hb hby own_d7_13) rfl (l' := #[.val (.ref a1), .val (.int 2), .val (.ref a2), .val (.int 2), .val (.int 4), .val (.int 2), .val (.int c2)]) rfl k) ?_
  refine own_st (fun _ k => XS.iload X2.here hx rfl (hb hby own_d7_15) rfl k) ?_
  refine own_st (fun _ k => XS.sipush X2.here hx rfl (hb hby own_d7_17) k) ?_
  refine own_st (fun _ k => XS.icmpYes X2.here hx rfl (pc0 := 20) (pc' := 26) rfl (hb hby own_d7_20) rfl (flt (own_le255 hc2 : ¬ ((255 : Int32) < c2))).2.2.2 (by decide) (by decide) k) ?_
  refine own_st (fun _ k => XS.aloadN X2.here hx rfl (hb hby own_d7_26) rfl rfl k) ?_
  refine own_st (fun _ k => XS.iloadN X2.here hx rfl (hb hby own_d7_27) rfl k) ?_
  refine own_st (fun _ k => XS.iload X2.here hx rfl (hb hby own_d7_28) rfl k) ?_
  refine own_st (fun _ k => XS.i2b X2.here hx rfl (hb hby own_d7_30) rfl k) ?_
  show own_Go _ _ _ _ T2 (mkF m 31 #[.val (.ref a1), .val (.int 2), .val (.ref a2), .val (.int 2), .val (.int 4), .val (.int 2), .val (.int c2)] [(.int (c2.toInt8.toInt32)), (.int 2), (.ref a2)])
  obtain ⟨T3, hp3, X3, e3, W3, Va3, st3⟩ := own_stB X2 hx hZ e2 Va2 (by decide) 2 (by decide) (Nat.le_of_ble_eq_true rfl) (g := (mkF m 31 #[.val (.ref a1), .val (.int 2), .val (.ref a2), .val (.int 2), .val (.int 4), .val (.int 2), .val (.int c2)] [(.int (c2.toInt8.toInt32)), (.int 2), (.ref a2)])) rfl rfl (hb hby own_d7_31)
  have K3 := Keep.wr K2 W3 (Or.inl (List.mem_of_getElem? (i := 0) rfl))
  have V_a1_3 := V_a1_2.other W3 n12
  have Va3 : Arv Z hp3 a2 k2 .byte (4 : Int32) [(.int (nar .byte (c0.toInt8.toInt32))), (.int (nar .byte (c1.toInt8.toInt32))), (.int (nar .byte (c2.toInt8.toInt32))), (.int 0)] (.int 0) := Va3
  have N3 := Fr.snoc X3 N2 g_a2
  refine own_st st3 ?_
  refine own_st (fun _ k => XS.iinc X3.here hx rfl (hb hby own_d7_32) rfl (l' := #[.val (.ref a1), .val (.int ((2 : Int32) + (1 : Int32))), .val (.ref a2), .val (.int 2), .val (.int 4), .val (.int 2), .val (.int c2)]) rfl k) ?_
  show own_Go _ _ _ _ T3 (mkF m 35 #[.val (.ref a1), .val (.int ((2 : Int32) + (1 : Int32))), .val (.ref a2), .val (.int 2), .val (.int 4), .val (.int 2), .val (.int c2)] [])
  rw [show ((2 : Int32) + (1 : Int32)) = (3 : Int32) from by decide]
  refine own_st (fun _ k => XS.iinc X3.here hx rfl (hb hby own_d7_35) rfl (l' := #[.val (.ref a1), .val (.int 3), .val (.ref a2), .val (.int ((2 : Int32) + (1 : Int32))), .val (.int 4), .val (.int 2), .val (.int c2)]) rfl k) ?_
  show own_Go _ _ _ _ T3 (mkF m 38 #[.val (.ref a1), .val (.int 3), .val (.ref a2), .val (.int ((2 : Int32) + (1 : Int32))), .val (.int 4), .val (.int 2), .val (.int c2)] [])
  rw [show ((2 : Int32) + (1 : Int32)) = (3 : Int32) from by decide]
  refine own_st (fun _ k => XS.iinc X3.here hx rfl (hb hby own_d7_38) rfl (l' := #[.val (.ref a1), .val (.int 3), .val (.ref a2), .val (.int 3), .val (.int 4), .val (.int ((2 : Int32) + (1 : Int32))), .val (.int c2)]) rfl k) ?_
  show own_Go _ _ _ _ T3 (mkF m 41 #[.val (.ref a1), .val (.int 3), .val (.ref a2), .val (.int 3), .val (.int 4), .val (.int ((2 : Int32) + (1 : Int32))), .val (.int c2)] [])
  rw [show ((2 : Int32) + (1 : Int32)) = (3 : Int32) from by decide]
  refine own_st (fun _ k => XS.goto X3.here hx rfl (pc0 := 41) (pc' := 3) rfl (hb hby own_d7_41) (by decide) (by decide) k) ?_
  refine own_st (fun _ k => XS.iload X3.here hx rfl (hb hby own_d7_3) rfl k) ?_
  refine own_st (fun _ k => XS.iload X3.here hx rfl (hb hby own_d7_5) rfl k) ?_
  refine own_st (fun _ k => XS.icmpNo X3.here hx rfl (hb hby own_d7_7) rfl (tlt (by decide : (3 : Int32) < (4 : Int32))).2.1 k) ?_
  refine own_st (fun _ k => XS.aloadN X3.here hx rfl (hb hby own_d7_10) rfl rfl k) ?_
  refine own_st (fun _ k => XS.iloadN X3.here hx rfl (hb hby own_d7_11) rfl k) ?_
  refine own_st (own_ldC X3 hx hZ e3 V_a1_3 (j := (3 : Int32)) (by decide) (v := (.int c3)) rfl (g := (mkF m 12 #[.val (.ref a1), .val (.int 3), .val (.ref a2), .val (.int 3), .val (.int 4), .val (.int 3), .val (.int c2)] [(.int 3), (.ref a1)])) rfl rfl (hb hby own_d7_12)) ?_
  show own_Go _ _ _ _ T3 (mkF m 13 #[.val (.ref a1), .val (.int 3), .val (.ref a2), .val (.int 3), .val (.int 4), .val (.int 3), .val (.int c2)] [(.int c3)])
  refine own_st (fun _ k => XS.istore X3.here hx rfl (hb hby own_d7_13) rfl (l' := #[.val (.ref a1), .val (.int 3), .val (.ref a2), .val (.int 3), .val (.int 4), .val (.int 3), .val (.int c3)]) rfl k) ?_
  refine own_st (fun _ k => XS.iload X3.here hx rfl (hb hby own_d7_15) rfl k) ?_
  refine own_st (fun _ k => XS.sipush X3.here hx rfl (hb hby own_d7_17) k) ?_
  refine own_st (fun _ k => XS.icmpYes X3.here hx rfl (pc0 := 20) (pc' := 26) rfl (hb hby own_d7_20) rfl (flt (own_le255 hc3 : ¬ ((255 : Int32) < c3))).2.2.2 (by decide) (by decide) k) ?_
  refine own_st (fun _ k => XS.aloadN X3.here hx rfl (hb hby own_d7_26) rfl rfl k) ?_
  refine own_st (fun _ k => XS.iloadN X3.here hx rfl (hb hby own_d7_27) rfl k) ?_
  refine own_st (fun _ k => XS.iload X3.here hx rfl (hb hby own_d7_28) rfl k) ?_
  refine own_st (fun _ k => XS.i2b X3.here hx rfl (hb hby own_d7_30) rfl k) ?_
  show own_Go _ _ _ _ T3 (mkF m 31 #[.val (.ref a1), .val (.int 3), .val (.ref a2), .val (.int 3), .val (.int 4), .val (.int 3), .val (.int c3)] [(.int (c3.toInt8.toInt32)), (.int 3), (.ref a2)])
  obtain ⟨T4, hp4, X4, e4, W4, Va4, st4⟩ := own_stB X3 hx hZ e3 Va3 (by decide) 3 (by decide) (Nat.le_of_ble_eq_true rfl) (g := (mkF m 31 #[.val (.ref a1), .val (.int 3), .val (.ref a2), .val (.int 3), .val (.int 4), .val (.int 3), .val (.int c3)] [(.int (c3.toInt8.toInt32)), (.int 3), (.ref a2)])) rfl rfl (hb hby own_d7_31)
  have K4 := Keep.wr K3 W4 (Or.inl (List.mem_of_getElem? (i := 0) rfl))
  have V_a1_4 := V_a1_3.other W4 n12
  have Va4 : Arv Z hp4 a2 k2 .byte (4 : Int32) [(.int (nar .byte (c0.toInt8.toInt32))), (.int (nar .byte (c1.toInt8.toInt32))), (.int (nar .byte (c2.toInt8.toInt32))), (.int (nar .byte (c3.toInt8.toInt32)))] (.int 0) := Va4
  have N4 := Fr.snoc X4 N3 g_a2
  refine own_st st4 ?_
  refine own_st (fun _ k => XS.iinc X4.here hx rfl (hb hby own_d7_32) rfl (l' := #[.val (.ref a1), .val (.int ((3 : Int32) + (1 : Int32))), .val (.ref a2), .val (.int 3), .val (.int 4), .val (.int 3), .val (.int c3)]) rfl k) ?_
  show own_Go _ _ _ _ T4 (mkF m 35 #[.val (.ref a1), .val (.int ((3 : Int32) + (1 : Int32))), .val (.ref a2), .val (.int 3), .val (.int 4), .val (.int 3), .val (.int c3)] [])
  rw [show ((3 : Int32) + (1 : Int32)) = (4 : Int32) from by decide]
  refine own_st (fun _ k => XS.iinc X4.here hx rfl (hb hby own_d7_35) rfl (l' := #[.val (.ref a1), .val (.int 4), .val (.ref a2), .val (.int ((3 : Int32) + (1 : Int32))), .val (.int 4), .val (.int 3), .val (.int c3)]) rfl k) ?_
  show own_Go _ _ _ _ T4 (mkF m 38 #[.val (.ref a1), .val (.int 4), .val (.ref a2), .val (.int ((3 : Int32) + (1 : Int32))), .val (.int 4), .val (.int 3), .val (.int c3)] [])
  rw [show ((3 : Int32) + (1 : Int32)) = (4 : Int32) from by decide]
  refine own_st (fun _ k => XS.iinc X4.here hx rfl (hb hby own_d7_38) rfl (l' := #[.val (.ref a1), .val (.int 4), .val (.ref a2), .val (.int 4), .val (.int 4), .val (.int ((3 : Int32) + (1 : Int32))), .val (.int c3)]) rfl k) ?_
  show own_Go _ _ _ _ T4 (mkF m 41 #[.val (.ref a1), .val (.int 4), .val (.ref a2), .val (.int 4), .val (.int 4), .val (.int ((3 : Int32) + (1 : Int32))), .val (.int c3)] [])
  rw [show ((3 : Int32) + (1 : Int32)) = (4 : Int32) from by decide]
  refine own_st (fun _ k => XS.goto X4.here hx rfl (pc0 := 41) (pc' := 3) rfl (hb hby own_d7_41) (by decide) (by decide) k) ?_
  refine own_st (fun _ k => XS.iload X4.here hx rfl (hb hby own_d7_3) rfl k) ?_
  refine own_st (fun _ k => XS.iload X4.here hx rfl (hb hby own_d7_5) rfl k) ?_
  refine own_st (fun _ k => XS.icmpYes X4.here hx rfl (pc0 := 7) (pc' := 44) rfl (hb hby own_d7_7) rfl (flt (by decide : ¬ ((4 : Int32) < (4 : Int32)))).2.1 (by decide) (by decide) k) ?_
  refine own_st (fun _ k => XS.iload X4.here hx rfl (hb hby own_d7_44) rfl k) ?_
  exact own_retI X4 hx hret hlk (hb hby own_d7_46) ⟨rfl, N4, by rw [e4]; exact K4, by rw [e4]; exact Va4⟩ (by decide) (by decide)
def own_cq4_Q (Z : State) (a1 : Addr) (p1 p2 : Int32) (k1 : ClassId) (c0 c1 c2 c3 : Int32) (h0 : Heap) (n0 : Nat) (v : Option Value) (h : Heap) (L : List Loc) : Prop := ∃ b k, v = some (.ref b) ∧ Fr n0 L ∧ Ext h0 h ∧ n0 ≤ b ∧ h0.size ≤ b ∧ Arv Z h b k .byte (4 : Int32) [(.int (nar .byte (c0.toInt8.toInt32))), (.int (nar .byte (c1.toInt8.toInt32))), (.int (nar .byte (c2.toInt8.toInt32))), (.int (nar .byte (c3.toInt8.toInt32)))] (.int 0)
set_option maxRecDepth 65536 in
set_option maxHeartbeats 40000000 in
theorem own_cq4 (l : Launch) {Z : State} {a0 : Array Value} (hw : own_W Z a0) (ws : List Jvm.Cond) (a1 : Addr) (p1 p2 : Int32) (k1 : ClassId) (c0 c1 c2 c3 : Int32) (h0 : Heap) (n0 : Nat) (Z0 : n0 ≤ h0.size) (hp1 : p1 = 0) (hp2 : p2 = (4 : Int32)) (hc0 : own_ch c0) (hc1 : own_ch c1) (hc2 : own_ch c2) (hc3 : own_ch c3) (V1 : Arv Z h0 a1 k1 .char (4 : Int32) [(.int c0), (.int c1), (.int c2), (.int c3)] (.int 0)) :
    MetFree l (⟨"java/lang/StringUTF16", "compress", "([CII)[B"⟩ : MethodName) (head1 (Jvm.Cond.code (⟨"java/lang/StringUTF16", "compress", "([CII)[B"⟩ : MethodName) jdk_52_method_16_code 6 (some (.array .byte)) :: ws) ({ frames := 1, cells := 1, slots := 4, locals := 18 } : Room)) (fun a U => a = #[(.ref a1), (.int p1), (.int p2)] ∧ Z.Warmed39 U.vm ∧ U.heap = h0) (fun _ _ _ _ _ => True) (fun _ U o U' => ∃ v L, o = .returned v ∧ own_cq4_Q Z a1 p1 p2 k1 c0 c1 c2 c3 h0 n0 v U'.heap L ∧ FrameEnd U o U' L ({ frames := 1, cells := 1, slots := 4, locals := 18 } : Room).cells ({ frames := 1, cells := 1, slots := 4, locals := 18 } : Room).slots) := by
  refine own_enter (C := ({ frames := 1, cells := 1, slots := 4, locals := 18 } : Room).cells) (S := ({ frames := 1, cells := 1, slots := 4, locals := 18 } : Room).slots) (plainFor_of_name own_pn0) ?_
  intro p e s m below meth c T0 X0 I e0
  obtain ⟨hx, hby, hml, hown, hnm, hret, hlk, hZ⟩ := I
  have N0 := Fr.nil n0
  have O0 := own_extr h0
  refine own_cast (own_ef6 m a1 p1 p2) ?_
  show own_Go _ _ _ _ T0 (mkF m 0 #[.val (.ref a1), .val (.int p1), .val (.int p2), .unset, .unset, .unset] [])
  rw [hp1, hp2]
  show own_Go _ _ _ _ T0 (mkF m 0 #[.val (.ref a1), .val (.int 0), .val (.int 4), .unset, .unset, .unset] [])
  refine own_st (fun _ k => XS.iloadN X0.here hx rfl (hb hby own_d6_0) rfl k) ?_
  obtain ⟨T1, hp1, kk1, X1, e1, Et1, A1, st1⟩ := newP X0 hx hZ (aty := .byte) (own_w27 hw) e0 (g := (mkF m 1 #[.val (.ref a1), .val (.int 0), .val (.int 4), .unset, .unset, .unset] [(.int 4)])) rfl (hb hby own_d6_1) rfl (by decide) (cap := 4) (by decide) (by decide) (by decide) (by decide)
  obtain ⟨b1, g1⟩ : ∃ z, z = h0.size := ⟨_, rfl⟩
  rw [← g1] at A1 st1
  have s_b1 : h0.size ≤ b1 := Nat.le_trans O0.1 (Nat.le_of_eq g1.symm)
  have g_b1 : n0 ≤ b1 := Nat.le_trans Z0 s_b1
  have O1 := own_extt O0 Et1
  have Va1 : Arv Z hp1 b1 kk1 .byte (4 : Int32) [(.int 0), (.int 0), (.int 0), (.int 0)] (.int 0) := (Arv.new A1 (by decide)).pad (pad_rep [] (.int 0) 4)
  refine own_st st1 ?_
  refine own_st (fun _ k => XS.astoreN X1.here hx rfl (hb hby own_d6_3) rfl rfl (l' := #[.val (.ref a1), .val (.int 0), .val (.int 4), .val (.ref b1), .unset, .unset]) rfl k) ?_
  refine own_st (fun _ k => XS.aloadN X1.here hx rfl (hb hby own_d6_4) rfl rfl k) ?_
  refine own_st (fun _ k => XS.iloadN X1.here hx rfl (hb hby own_d6_5) rfl k) ?_
  refine own_st (fun _ k => XS.aloadN X1.here hx rfl (hb hby own_d6_6) rfl rfl k) ?_
  refine own_st (fun _ k => XS.iconst X1.here hx rfl (hb hby own_d6_7) k) ?_
  refine own_st (fun _ k => XS.iloadN X1.here hx rfl (hb hby own_d6_8) rfl k) ?_
  show own_Go _ _ _ _ T1 (mkF m 9 #[.val (.ref a1), .val (.int 0), .val (.int 4), .val (.ref b1), .unset, .unset] [(.int 4), (.int 0), (.ref b1), (.int 0), (.ref a1)])
  obtain ⟨v2, T2, L2, hQ2, X2, st2⟩ := own_callS X1 hx hZ (y := (⟨"java/lang/StringUTF16", "compress", "([CI[BII)I"⟩ : MethodName)) hown (own_w28 hw) (own_w29 hw) (own_w25 hw) (own_w30 hw) (by decide) (own_cp4 l hw [] a1 b1 (0 : Int32) (0 : Int32) (4 : Int32) k1 kk1 c0 c1 c2 c3 hp1 n0 (Nat.le_trans Z0 O1.1) rfl rfl rfl hc0 hc1 hc2 hc3 (Nat.ne_of_lt (Nat.lt_of_lt_of_le V1.lt s_b1)) g_b1 (V1.ext O1) Va1) e1 (g := (mkF m 9 #[.val (.ref a1), .val (.int 0), .val (.int 4), .val (.ref b1), .unset, .unset] [(.int 4), (.int 0), (.ref b1), (.int 0), (.ref a1)])) rfl (by rw [hml]; rfl) (argsL := [(.ref a1), (.int 0), (.ref b1), (.int 0), (.int 4)]) (rest := []) (lenOf own_pd0 rfl) rfl rfl (W := 0) (Nat.le_of_eq rfl) (hb hby own_d6_9) (by decide) (by decide) (by decide) (by decide)
  obtain ⟨rfl, N2, K2, Vb2⟩ := hQ2
  have O2 : Ext h0 T2.heap := ⟨Nat.le_trans O1.1 K2.1, fun x c r => K2.2.1 x c (O1.2 x c r) (fun z => by
    have q := (Array.getElem?_eq_some_iff.mp r).1
    simp only [List.mem_cons, List.not_mem_nil, or_false] at z
    rcases z with rfl
    exact absurd q (Nat.not_lt.mpr s_b1))⟩
  have N2' := Fr.app N0 N2
  refine own_st st2 ?_
  refine own_st (fun _ k => XS.istore X2.here hx rfl (hb hby own_d6_12) rfl (l' := #[.val (.ref a1), .val (.int 0), .val (.int 4), .val (.ref b1), .val (.int 4), .unset]) rfl k) ?_
  refine own_st (fun _ k => XS.iload X2.here hx rfl (hb hby own_d6_14) rfl k) ?_
  refine own_st (fun _ k => XS.iloadN X2.here hx rfl (hb hby own_d6_16) rfl k) ?_
  refine own_st (fun _ k => XS.icmpYes X2.here hx rfl (pc0 := 17) (pc' := 57) rfl (hb hby own_d6_17) rfl (teq (by decide : (4 : Int32) = (4 : Int32))).1 (by decide) (by decide) k) ?_
  refine own_st (fun _ k => XS.aloadN X2.here hx rfl (hb hby own_d6_57) rfl rfl k) ?_
  exact own_retA X2 hx hret rfl hlk rfl (hb hby own_d6_58) ⟨b1, _, rfl, N2', O2, g_b1, s_b1, Vb2⟩ (by decide) (by decide)
def own_cd4_Q (Z : State) (a1 : Addr) (p1 : Int32) (k1 : ClassId) (c0 c1 c2 c3 : Int32) (h0 : Heap) (n0 : Nat) (v : Option Value) (h : Heap) (L : List Loc) : Prop := v = some (.int 0) ∧ Fr n0 L ∧ h = h0
set_option maxRecDepth 65536 in
set_option maxHeartbeats 40000000 in
theorem own_cd4 (l : Launch) {Z : State} {a0 : Array Value} (hw : own_W Z a0) (ws : List Jvm.Cond) (a1 : Addr) (p1 : Int32) (k1 : ClassId) (c0 c1 c2 c3 : Int32) (h0 : Heap) (n0 : Nat) (Z0 : n0 ≤ h0.size) (hp1 : p1 = (4 : Int32)) (V1 : Arv Z h0 a1 k1 .byte (4 : Int32) [(.int (nar .byte (c0.toInt8.toInt32))), (.int (nar .byte (c1.toInt8.toInt32))), (.int (nar .byte (c2.toInt8.toInt32))), (.int (nar .byte (c3.toInt8.toInt32)))] (.int 0)) :
    MetFree l (⟨"java/lang/StringUTF16", "coderFromArrayLen", "([BI)B"⟩ : MethodName) (head1 (Jvm.Cond.code (⟨"java/lang/StringUTF16", "coderFromArrayLen", "([BI)B"⟩ : MethodName) jdk_52_method_15_code 2 (some .byte) :: ws) ({ frames := 0, cells := 0, slots := 0, locals := 0 } : Room)) (fun a U => a = #[(.ref a1), (.int p1)] ∧ Z.Warmed39 U.vm ∧ U.heap = h0) (fun _ _ _ _ _ => True) (fun _ U o U' => ∃ v L, o = .returned v ∧ own_cd4_Q Z a1 p1 k1 c0 c1 c2 c3 h0 n0 v U'.heap L ∧ FrameEnd U o U' L ({ frames := 0, cells := 0, slots := 0, locals := 0 } : Room).cells ({ frames := 0, cells := 0, slots := 0, locals := 0 } : Room).slots) := by
  refine own_enter (C := ({ frames := 0, cells := 0, slots := 0, locals := 0 } : Room).cells) (S := ({ frames := 0, cells := 0, slots := 0, locals := 0 } : Room).slots) (plainFor_of_name own_pn0) ?_
  intro p e s m below meth c T0 X0 I e0
  obtain ⟨hx, hby, hml, hown, hnm, hret, hlk, hZ⟩ := I
  have N0 := Fr.nil n0
  have O0 := own_extr h0
  refine own_cast (own_ef8 m a1 p1) ?_
  show own_Go _ _ _ _ T0 (mkF m 0 #[.val (.ref a1), .val (.int p1)] [])
  rw [hp1]
  show own_Go _ _ _ _ T0 (mkF m 0 #[.val (.ref a1), .val (.int 4)] [])
  refine own_st (fun _ k => XS.iloadN X0.here hx rfl (hb hby own_d8_0) rfl k) ?_
  refine own_st (fun _ k => XS.aloadN X0.here hx rfl (hb hby own_d8_1) rfl rfl k) ?_
  refine own_st (own_len X0 hx hZ e0 (V1.ext O0) (g := (mkF m 2 #[.val (.ref a1), .val (.int 4)] [(.ref a1), (.int 4)])) rfl rfl (hb hby own_d8_2)) ?_
  refine own_st (fun _ k => XS.isub X0.here hx rfl (hb hby own_d8_3) rfl k) ?_
  show own_Go _ _ _ _ T0 (mkF m 4 #[.val (.ref a1), .val (.int 4)] [(.int ((4 : Int32) - (4 : Int32)))])
  rw [show ((4 : Int32) - (4 : Int32)) = (0 : Int32) from by decide]
  refine own_st (fun _ k => XS.bipush X0.here hx rfl (hb hby own_d8_4) k) ?_
  refine own_st (fun _ k => XS.iushr X0.here hx rfl (hb hby own_d8_6) rfl k) ?_
  show own_Go _ _ _ _ T0 (mkF m 7 #[.val (.ref a1), .val (.int 4)] [(.int (((0 : Int32).toUInt32 >>> ((31 : Int32) &&& 31).toUInt32).toInt32))])
  rw [show (((0 : Int32).toUInt32 >>> ((31 : Int32) &&& 31).toUInt32).toInt32) = (0 : Int32) from by decide]
  refine own_st (fun _ k => XS.i2b X0.here hx rfl (hb hby own_d8_7) rfl k) ?_
  show own_Go _ _ _ _ T0 (mkF m 8 #[.val (.ref a1), .val (.int 4)] [(.int ((0 : Int32).toInt8.toInt32))])
  rw [show ((0 : Int32).toInt8.toInt32) = (0 : Int32) from by decide]
  exact own_retN X0 hx hret (by simp) hlk (hb hby own_d8_8) ⟨rfl, N0, e0⟩ (by decide) (by decide)
def own_vd4_Q (Z : State) (a1 a2 : Addr) (p1 p2 cs : Int32) (k1 : ClassId) (c0 c1 c2 c3 : Int32) (h0 : Heap) (n0 : Nat) (v : Option Value) (h : Heap) (L : List Loc) : Prop := v = none ∧ Fr n0 L ∧ Keep h0 h [a1] ∧ ∃ b k, Fld Z h a1 "java/lang/String" "value" "[B" (.ref b) ∧ Fld Z h a1 "java/lang/String" "coder" "B" (.int 0) ∧ Arv Z h b k .byte (4 : Int32) [(.int (nar .byte (c0.toInt8.toInt32))), (.int (nar .byte (c1.toInt8.toInt32))), (.int (nar .byte (c2.toInt8.toInt32))), (.int (nar .byte (c3.toInt8.toInt32)))] (.int 0)
set_option maxRecDepth 65536 in
set_option maxHeartbeats 40000000 in
theorem own_vd4 (l : Launch) {Z : State} {a0 : Array Value} (hw : own_W Z a0) (ws : List Jvm.Cond) (a1 a2 : Addr) (p1 p2 cs : Int32) (k1 : ClassId) (c0 c1 c2 c3 : Int32) (h0 : Heap) (n0 : Nat) (Z0 : n0 ≤ h0.size) (hp1 : p1 = 0) (hp2 : p2 = (4 : Int32)) (hc0 : own_ch c0) (hc1 : own_ch c1) (hc2 : own_ch c2) (hc3 : own_ch c3) (Scs : Sta Z h0 "java/lang/String" "COMPACT_STRINGS" "Z" (.int cs)) (hcs : ¬ cs = 0) (g_a1 : n0 ≤ a1) (Ea : Exa Z h0 a1 "java/lang/String") (Fv : Fld Z h0 a1 "java/lang/String" "value" "[B" .null) (Fc : Fld Z h0 a1 "java/lang/String" "coder" "B" (.int 0)) (V1 : Arv Z h0 a2 k1 .char (4 : Int32) [(.int c0), (.int c1), (.int c2), (.int c3)] (.int 0)) :
    MetFree l (⟨"java/lang/String", "<init>", "([CIILjava/lang/Void;)V"⟩ : MethodName) (head1 (Jvm.Cond.code (⟨"java/lang/String", "<init>", "([CIILjava/lang/Void;)V"⟩ : MethodName) jdk_42_method_149_code 6 none :: ws) ({ frames := 2, cells := 1, slots := 4, locals := 40 } : Room)) (fun a U => a = #[(.ref a1), (.ref a2), (.int p1), (.int p2), .null] ∧ Z.Warmed39 U.vm ∧ U.heap = h0) (fun _ _ _ _ _ => True) (fun _ U o U' => ∃ v L, o = .returned v ∧ own_vd4_Q Z a1 a2 p1 p2 cs k1 c0 c1 c2 c3 h0 n0 v U'.heap L ∧ FrameEnd U o U' L ({ frames := 2, cells := 1, slots := 4, locals := 40 } : Room).cells ({ frames := 2, cells := 1, slots := 4, locals := 40 } : Room).slots) := by
  refine own_enter (C := ({ frames := 2, cells := 1, slots := 4, locals := 40 } : Room).cells) (S := ({ frames := 2, cells := 1, slots := 4, locals := 40 } : Room).slots) (plainFor_of_name own_pn1) ?_
  intro p e s m below meth c T0 X0 I e0
  obtain ⟨hx, hby, hml, hown, hnm, hret, hlk, hZ⟩ := I
  have N0 := Fr.nil n0
  have O0 := own_extr h0
  refine own_cast (own_ef4n m a1 a2 p1 p2) ?_
  show own_Go _ _ _ _ T0 (mkF m 0 #[.val (.ref a1), .val (.ref a2), .val (.int p1), .val (.int p2), .val .null, .unset] [])
  rw [hp1, hp2]
  show own_Go _ _ _ _ T0 (mkF m 0 #[.val (.ref a1), .val (.ref a2), .val (.int 0), .val (.int 4), .val .null, .unset] [])
  have K0 := Keep.refl h0 [a1]
  refine own_st (fun _ k => XS.aloadN X0.here hx rfl (hb hby own_d4_0) rfl rfl k) ?_
  obtain ⟨T1, X1, e1, st1⟩ := initO X0 hx hZ hown (own_w19 hw) (own_w20 hw) (own_w21 hw) e0 (g := (mkF m 1 #[.val (.ref a1), .val (.ref a2), .val (.int 0), .val (.int 4), .val .null, .unset] [(.ref a1)])) rfl (by rw [hml]; rfl) rfl (hb hby own_d4_1) (by decide) (W := 0) (Nat.le_of_eq rfl) (by decide)
  refine own_st st1 ?_
  refine own_st (fun _ k => XS.iloadN X1.here hx rfl (hb hby own_d4_4) rfl k) ?_
  refine own_st (fun _ k => XS.ifYes X1.here hx rfl (pc0 := 5) (pc' := 27) rfl (hb hby own_d4_5) rfl ((if0 _ _).trans (feq (by decide : ¬ ((4 : Int32) = (0 : Int32)))).2) (by decide) (by decide) k) ?_
  obtain ⟨T2, X2, e2, st2⟩ := getS2 X1 hx hZ hown (host := "") (Or.inl (own_w22 hw)) Via.refl e1 Scs (g := (mkF m 27 #[.val (.ref a1), .val (.ref a2), .val (.int 0), .val (.int 4), .val .null, .unset] [])) rfl (hb hby own_d4_27)
  refine own_st st2 ?_
  refine own_st (fun _ k => XS.ifNo X2.here hx rfl (hb hby own_d4_30) rfl ((if0 _ _).trans (feq (hcs : ¬ (cs = (0 : Int32)))).1) k) ?_
  refine own_st (fun _ k => XS.aloadN X2.here hx rfl (hb hby own_d4_33) rfl rfl k) ?_
  refine own_st (fun _ k => XS.iloadN X2.here hx rfl (hb hby own_d4_34) rfl k) ?_
  show own_Go _ _ _ _ T2 (mkF m 35 #[.val (.ref a1), .val (.ref a2), .val (.int 0), .val (.int 4), .val .null, .unset] [(.int 0), (.ref a2)])
  refine own_st (fun _ k => XS.iloadN X2.here hx rfl (hb hby own_d4_35) rfl k) ?_
  obtain ⟨v3, T3, L3, hQ3, X3, st3⟩ := own_callS X2 hx hZ (y := (⟨"java/lang/StringUTF16", "compress", "([CII)[B"⟩ : MethodName)) hown (own_w23 hw) (own_w24 hw) (own_w25 hw) (own_w26 hw) (by decide) (own_cq4 l hw [] a2 (0 : Int32) (4 : Int32) k1 c0 c1 c2 c3 h0 n0 Z0 rfl rfl hc0 hc1 hc2 hc3 V1) e2 (g := (mkF m 36 #[.val (.ref a1), .val (.ref a2), .val (.int 0), .val (.int 4), .val .null, .unset] [(.int 4), (.int 0), (.ref a2)])) rfl (by rw [hml]; rfl) (argsL := [(.ref a2), (.int 0), (.int 4)]) (rest := []) (lenOf own_pd1 rfl) rfl rfl (W := 0) (Nat.le_of_eq rfl) (hb hby own_d4_36) (by decide) (by decide) (by decide) (by decide)
  obtain ⟨b, kb, rfl, N3, Et3, gb, sb, Vb⟩ := hQ3
  have nab : a1 ≠ b := Nat.ne_of_lt (Nat.lt_of_lt_of_le Ea.lt sb)
  have K3x := Keep.ext K0 Et3
  have Scs_3 := Scs.ext Et3
  have Ex_a1_3 := Ea.ext Et3
  have F_value_a1_3 := Fv.ext Et3
  have F_coder_a1_3 := Fc.ext Et3
  have N3' := Fr.app N0 N3
  refine own_st st3 ?_
  refine own_st (fun _ k => XS.astore X3.here hx rfl (hb hby own_d4_39) rfl rfl (l' := #[.val (.ref a1), .val (.ref a2), .val (.int 0), .val (.int 4), .val .null, .val (.ref b)]) rfl k) ?_
  refine own_st (fun _ k => XS.aloadN X3.here hx rfl (hb hby own_d4_41) rfl rfl k) ?_
  refine own_st (fun _ k => XS.aload X3.here hx rfl (hb hby own_d4_42) rfl rfl k) ?_
  refine own_st (fun _ k => XS.iloadN X3.here hx rfl (hb hby own_d4_44) rfl k) ?_
  obtain ⟨v4, T4, L4, hQ4, X4, st4⟩ := own_callS X3 hx hZ (y := (⟨"java/lang/StringUTF16", "coderFromArrayLen", "([BI)B"⟩ : MethodName)) hown (own_w31 hw) (own_w32 hw) (own_w25 hw) (own_w33 hw) (by decide) (own_cd4 l hw [] b (4 : Int32) kb c0 c1 c2 c3 T3.heap n0 (Nat.le_trans Z0 Et3.1) rfl Vb) rfl (g := (mkF m 45 #[.val (.ref a1), .val (.ref a2), .val (.int 0), .val (.int 4), .val .null, .val (.ref b)] [(.int 4), (.ref b), (.ref a1)])) rfl (by rw [hml]; rfl) (argsL := [(.ref b), (.int 4)]) (rest := [(.ref a1)]) (lenOf own_pd2 rfl) rfl rfl (W := 1) (Nat.le_of_eq rfl) (hb hby own_d4_45) (by decide) (by decide) (by decide) (by decide)
  obtain ⟨rfl, N4, e4⟩ := hQ4
  have N4' := Fr.app N3' N4
  refine own_st st4 ?_
  obtain ⟨T5, hp5, X5, e5, W5, st5⟩ := putFN X4 hx hZ hown (own_w34 hw) Via.refl e4 F_coder_a1_3 Ex_a1_3 (Or.inr ⟨(own_w35 hw), rfl, hnm⟩) (own_w10 hw) (ty := .byte) (v' := (.int 0)) (by decide) rfl (by decide) (g := (mkF m 48 #[.val (.ref a1), .val (.ref a2), .val (.int 0), .val (.int 4), .val .null, .val (.ref b)] [(.int 0), (.ref a1)])) rfl rfl (hb hby own_d4_48)
  have K5 := Keep.wr K3x W5 (Or.inl (List.mem_of_getElem? (i := 0) rfl))
  have Scs_5 := Scs_3.wr W5
  have V_b_5 := Vb.other W5 (Ne.symm nab)
  have Ex_a1_5 := Ex_a1_3.wr W5
  have F_value_a1_5 := F_value_a1_3.other W5 (Or.inr (slot_ne (Or.inr (own_w37 hw)) (Or.inr (own_w35 hw)) (by decide) (t := (.array .byte)) (t' := .byte) (by decide) (by decide)))
  have F_coder_a1_5 := F_coder_a1_3.same W5
  have N5 := Fr.snoc X5 N4' g_a1
  refine own_st st5 ?_
  show own_Go _ _ _ _ T5 (mkF m 51 #[.val (.ref a1), .val (.ref a2), .val (.int 0), .val (.int 4), .val .null, .val (.ref b)] [])
  refine own_st (fun _ k => XS.aloadN X5.here hx rfl (hb hby own_d4_51) rfl rfl k) ?_
  refine own_st (fun _ k => XS.aload X5.here hx rfl (hb hby own_d4_52) rfl rfl k) ?_
  obtain ⟨T6, hp6, X6, e6, W6, st6⟩ := putF X5 hx hZ hown (host := "") (Or.inl (own_w36 hw)) Via.refl e5 F_value_a1_5 Ex_a1_5 (Or.inr ⟨(own_w37 hw), rfl, hnm⟩) (own_w10 hw) (ty := (.array .byte)) (by decide) rfl rfl (g := (mkF m 54 #[.val (.ref a1), .val (.ref a2), .val (.int 0), .val (.int 4), .val .null, .val (.ref b)] [(.ref b), (.ref a1)])) rfl rfl (hb hby own_d4_54)
  have K6 := Keep.wr K5 W6 (Or.inl (List.mem_of_getElem? (i := 0) rfl))
  have Scs_6 := Scs_5.wr W6
  have V_b_6 := V_b_5.other W6 (Ne.symm nab)
  have Ex_a1_6 := Ex_a1_5.wr W6
  have F_coder_a1_6 := F_coder_a1_5.other W6 (Or.inr (slot_ne (Or.inr (own_w35 hw)) (Or.inr (own_w37 hw)) (by decide) (t := .byte) (t' := (.array .byte)) (by decide) (by decide)))
  have F_value_a1_6 := F_value_a1_5.same W6
  have N6 := Fr.snoc X6 N5 g_a1
  refine own_st st6 ?_
  exact own_retV X6 hx hret hlk (hb hby own_d4_57) ⟨rfl, N6, by rw [e6]; exact K6, b, kb, by rw [e6]; exact F_value_a1_6, by rw [e6]; exact F_coder_a1_6, by rw [e6]; exact V_b_6⟩ (by decide) (by decide)
def own_cc4_Q (Z : State) (a1 a2 : Addr) (cs : Int32) (k1 : ClassId) (c0 c1 c2 c3 : Int32) (h0 : Heap) (n0 : Nat) (v : Option Value) (h : Heap) (L : List Loc) : Prop := v = none ∧ Fr n0 L ∧ Keep h0 h [a1] ∧ ∃ b k, Fld Z h a1 "java/lang/String" "value" "[B" (.ref b) ∧ Fld Z h a1 "java/lang/String" "coder" "B" (.int 0) ∧ Arv Z h b k .byte (4 : Int32) [(.int (nar .byte (c0.toInt8.toInt32))), (.int (nar .byte (c1.toInt8.toInt32))), (.int (nar .byte (c2.toInt8.toInt32))), (.int (nar .byte (c3.toInt8.toInt32)))] (.int 0)
set_option maxRecDepth 65536 in
set_option maxHeartbeats 40000000 in
theorem own_cc4 (l : Launch) {Z : State} {a0 : Array Value} (hw : own_W Z a0) (ws : List Jvm.Cond) (a1 a2 : Addr) (cs : Int32) (k1 : ClassId) (c0 c1 c2 c3 : Int32) (h0 : Heap) (n0 : Nat) (Z0 : n0 ≤ h0.size) (hc0 : own_ch c0) (hc1 : own_ch c1) (hc2 : own_ch c2) (hc3 : own_ch c3) (Scs : Sta Z h0 "java/lang/String" "COMPACT_STRINGS" "Z" (.int cs)) (hcs : ¬ cs = 0) (g_a1 : n0 ≤ a1) (Ea : Exa Z h0 a1 "java/lang/String") (Fv : Fld Z h0 a1 "java/lang/String" "value" "[B" .null) (Fc : Fld Z h0 a1 "java/lang/String" "coder" "B" (.int 0)) (V1 : Arv Z h0 a2 k1 .char (4 : Int32) [(.int c0), (.int c1), (.int c2), (.int c3)] (.int 0)) :
    MetFree l (⟨"java/lang/String", "<init>", "([C)V"⟩ : MethodName) (head1 (Jvm.Cond.code (⟨"java/lang/String", "<init>", "([C)V"⟩ : MethodName) jdk_42_method_3_code 2 none :: ws) ({ frames := 3, cells := 1, slots := 4, locals := 57 } : Room)) (fun a U => a = #[(.ref a1), (.ref a2)] ∧ Z.Warmed39 U.vm ∧ U.heap = h0) (fun _ _ _ _ _ => True) (fun _ U o U' => ∃ v L, o = .returned v ∧ own_cc4_Q Z a1 a2 cs k1 c0 c1 c2 c3 h0 n0 v U'.heap L ∧ FrameEnd U o U' L ({ frames := 3, cells := 1, slots := 4, locals := 57 } : Room).cells ({ frames := 3, cells := 1, slots := 4, locals := 57 } : Room).slots) := by
  refine own_enter (C := ({ frames := 3, cells := 1, slots := 4, locals := 57 } : Room).cells) (S := ({ frames := 3, cells := 1, slots := 4, locals := 57 } : Room).slots) (plainFor_of_name own_pn1) ?_
  intro p e s m below meth c T0 X0 I e0
  obtain ⟨hx, hby, hml, hown, hnm, hret, hlk, hZ⟩ := I
  have N0 := Fr.nil n0
  have O0 := own_extr h0
  refine own_cast (own_ef3 m a1 a2) ?_
  show own_Go _ _ _ _ T0 (mkF m 0 #[.val (.ref a1), .val (.ref a2)] [])
  have K0 := Keep.refl h0 [a1]
  refine own_st (fun _ k => XS.aloadN X0.here hx rfl (hb hby own_d3_0) rfl rfl k) ?_
  refine own_st (fun _ k => XS.aloadN X0.here hx rfl (hb hby own_d3_1) rfl rfl k) ?_
  refine own_st (fun _ k => XS.iconst X0.here hx rfl (hb hby own_d3_2) k) ?_
  refine own_st (fun _ k => XS.aloadN X0.here hx rfl (hb hby own_d3_3) rfl rfl k) ?_
  refine own_st (own_len X0 hx hZ e0 V1 (g := (mkF m 4 #[.val (.ref a1), .val (.ref a2)] [(.ref a2), (.int 0), (.ref a2), (.ref a1)])) rfl rfl (hb hby own_d3_4)) ?_
  refine own_st (fun _ k => XS.aconstNull X0.here hx rfl (hb hby own_d3_5) k) ?_
  obtain ⟨v1, T1, L1, hQ1, X1, st1⟩ := own_callI X0 hx hZ (y := (⟨"java/lang/String", "<init>", "([CIILjava/lang/Void;)V"⟩ : MethodName)) rfl hown (own_w15 hw) (own_w16 hw) (own_w11 hw) (own_w18 hw) (by decide) (own_vd4 l hw [] a1 a2 (0 : Int32) (4 : Int32) cs k1 c0 c1 c2 c3 h0 n0 Z0 rfl rfl hc0 hc1 hc2 hc3 Scs hcs g_a1 Ea Fv Fc V1) e0 (g := (mkF m 6 #[.val (.ref a1), .val (.ref a2)] [.null, (.int 4), (.int 0), (.ref a2), (.ref a1)])) rfl (by rw [hml]; rfl) (argsL := [(.ref a2), (.int 0), (.int 4), .null]) (rest := []) (lenOf own_pd3 rfl) rfl rfl (W := 0) (Nat.le_of_eq rfl) (hb hby own_d3_6) (by decide) (by decide) (by decide) (by decide)
  obtain ⟨rfl, N1, K1, b, kb, Gv, Gc, Vb⟩ := hQ1
  have N1' := Fr.app N0 N1
  refine own_st st1 ?_
  exact own_retV X1 hx hret hlk (hb hby own_d3_9) ⟨rfl, N1', K1, b, kb, Gv, Gc, Vb⟩ (by decide) (by decide)
def own_cp5_Q (Z : State) (a1 a2 : Addr) (p1 p2 p3 : Int32) (k1 k2 : ClassId) (c0 c1 c2 c3 c4 : Int32) (h0 : Heap) (n0 : Nat) (v : Option Value) (h : Heap) (L : List Loc) : Prop := v = some (.int 5) ∧ Fr n0 L ∧ Keep h0 h [a2] ∧ Arv Z h a2 k2 .byte (5 : Int32) [(.int (nar .byte (c0.toInt8.toInt32))), (.int (nar .byte (c1.toInt8.toInt32))), (.int (nar .byte (c2.toInt8.toInt32))), (.int (nar .byte (c3.toInt8.toInt32))), (.int (nar .byte (c4.toInt8.toInt32)))] (.int 0)
set_option maxRecDepth 65536 in
set_option maxHeartbeats 40000000 in
theorem own_cp5 (l : Launch) {Z : State} {a0 : Array Value} (hw : own_W Z a0) (ws : List Jvm.Cond) (a1 a2 : Addr) (p1 p2 p3 : Int32) (k1 k2 : ClassId) (c0 c1 c2 c3 c4 : Int32) (h0 : Heap) (n0 : Nat) (Z0 : n0 ≤ h0.size) (hp1 : p1 = 0) (hp2 : p2 = 0) (hp3 : p3 = (5 : Int32)) (hc0 : own_ch c0) (hc1 : own_ch c1) (hc2 : own_ch c2) (hc3 : own_ch c3) (hc4 : own_ch c4) (n12 : a1 ≠ a2) (g_a2 : n0 ≤ a2) (V1 : Arv Z h0 a1 k1 .char (5 : Int32) [(.int c0), (.int c1), (.int c2), (.int c3), (.int c4)] (.int 0)) (V2 : Arv Z h0 a2 k2 .byte (5 : Int32) [(.int 0), (.int 0), (.int 0), (.int 0), (.int 0)] (.int 0)) :
    MetFree l (⟨"java/lang/StringUTF16", "compress", "([CI[BII)I"⟩ : MethodName) (head1 (Jvm.Cond.code (⟨"java/lang/StringUTF16", "compress", "([CI[BII)I"⟩ : MethodName) jdk_52_method_21_code 7 (some .int) :: ws) ({ frames := 0, cells := 0, slots := 0, locals := 0 } : Room)) (fun a U => a = #[(.ref a1), (.int p1), (.ref a2), (.int p2), (.int p3)] ∧ Z.Warmed39 U.vm ∧ U.heap = h0) (fun _ _ _ _ _ => True) (fun _ U o U' => ∃ v L, o = .returned v ∧ own_cp5_Q Z a1 a2 p1 p2 p3 k1 k2 c0 c1 c2 c3 c4 h0 n0 v U'.heap L ∧ FrameEnd U o U' L ({ frames := 0, cells := 0, slots := 0, locals := 0 } : Room).cells ({ frames := 0, cells := 0, slots := 0, locals := 0 } : Room).slots) := by
  refine own_enter (C := ({ frames := 0, cells := 0, slots := 0, locals := 0 } : Room).cells) (S := ({ frames := 0, cells := 0, slots := 0, locals := 0 } : Room).slots) (plainFor_of_name own_pn0) ?_
  intro p e s m below meth c T0 X0 I e0
  obtain ⟨hx, hby, hml, hown, hnm, hret, hlk, hZ⟩ := I
  have N0 := Fr.nil n0
  have O0 := own_extr h0
  refine own_cast (own_ef7 m a1 p1 a2 p2 p3) ?_
  show own_Go _ _ _ _ T0 (mkF m 0 #[.val (.ref a1), .val (.int p1), .val (.ref a2), .val (.int p2), .val (.int p3), .unset, .unset] [])
  rw [hp1, hp2, hp3]
  show own_Go _ _ _ _ T0 (mkF m 0 #[.val (.ref a1), .val (.int 0), .val (.ref a2), .val (.int 0), .val (.int 5), .unset, .unset] [])
  have K0 := Keep.refl h0 [a2]
  refine own_st (fun _ k => XS.iconst X0.here hx rfl (hb hby own_d7_0) k) ?_
  refine own_st (fun _ k => XS.istore X0.here hx rfl (hb hby own_d7_1) rfl (l' := #[.val (.ref a1), .val (.int 0), .val (.ref a2), .val (.int 0), .val (.int 5), .val (.int 0), .unset]) rfl k) ?_
  refine own_st (fun _ k => XS.iload X0.here hx rfl (hb hby own_d7_3) rfl k) ?_
  refine own_st (fun _ k => XS.iload X0.here hx rfl (hb hby own_d7_5) rfl k) ?_
  refine own_st (fun _ k => XS.icmpNo X0.here hx rfl (hb hby own_d7_7) rfl (tlt (by decide : (0 : Int32) < (5 : Int32))).2.1 k) ?_
  refine own_st (fun _ k => XS.aloadN X0.here hx rfl (hb hby own_d7_10) rfl rfl k) ?_
  refine own_st (fun _ k => XS.iloadN X0.here hx rfl (hb hby own_d7_11) rfl k) ?_
  refine own_st (own_ldC X0 hx hZ e0 V1 (j := (0 : Int32)) (by decide) (v := (.int c0)) rfl (g := (mkF m 12 #[.val (.ref a1), .val (.int 0), .val (.ref a2), .val (.int 0), .val (.int 5), .val (.int 0), .unset] [(.int 0), (.ref a1)])) rfl rfl (hb hby own_d7_12)) ?_
  show own_Go _ _ _ _ T0 (mkF m 13 #[.val (.ref a1), .val (.int 0), .val (.ref a2), .val (.int 0), .val (.int 5), .val (.int 0), .unset] [(.int c0)])
  refine own_st (fun _ k => XS.istore X0.here hx rfl (hb hby own_d7_13) rfl (l' := #[.val (.ref a1), .val (.int 0), .val (.ref a2), .val (.int 0), .val (.int 5), .val (.int 0), .val (.int c0)]) rfl k) ?_
  refine own_st (fun _ k => XS.iload X0.here hx rfl (hb hby own_d7_15) rfl k) ?_
  refine own_st (fun _ k => XS.sipush X0.here hx rfl (hb hby own_d7_17) k) ?_
  refine own_st (fun _ k => XS.icmpYes X0.here hx rfl (pc0 := 20) (pc' := 26) rfl (hb hby own_d7_20) rfl (flt (own_le255 hc0 : ¬ ((255 : Int32) < c0))).2.2.2 (by decide) (by decide) k) ?_
  refine own_st (fun _ k => XS.aloadN X0.here hx rfl (hb hby own_d7_26) rfl rfl k) ?_
  refine own_st (fun _ k => XS.iloadN X0.here hx rfl (hb hby own_d7_27) rfl k) ?_
  refine own_st (fun _ k => XS.iload X0.here hx rfl (hb hby own_d7_28) rfl k) ?_
  refine own_st (fun _ k => XS.i2b X0.here hx rfl (hb hby own_d7_30) rfl k) ?_
  show own_Go _ _ _ _ T0 (mkF m 31 #[.val (.ref a1), .val (.int 0), .val (.ref a2), .val (.int 0), .val (.int 5), .val (.int 0), .val (.int c0)] [(.int (c0.toInt8.toInt32)), (.int 0), (.ref a2)])
  obtain ⟨T1, hp1, X1, e1, W1, Va1, st1⟩ := own_stB X0 hx hZ e0 V2 (by decide) 0 (by decide) (Nat.le_of_ble_eq_true rfl) (g := (mkF m 31 #[.val (.ref a1), .val (.int 0), .val (.ref a2), .val (.int 0), .val (.int 5), .val (.int 0), .val (.int c0)] [(.int (c0.toInt8.toInt32)), (.int 0), (.ref a2)])) rfl rfl (hb hby own_d7_31)
  have K1 := Keep.wr K0 W1 (Or.inl (List.mem_of_getElem? (i := 0) rfl))
  have V_a1_1 := V1.other W1 n12
  have Va1 : Arv Z hp1 a2 k2 .byte (5 : Int32) [(.int (nar .byte (c0.toInt8.toInt32))), (.int 0), (.int 0), (.int 0), (.int 0)] (.int 0) := Va1
  have N1 := Fr.snoc X1 N0 g_a2
  refine own_st st1 ?_
  refine own_st (fun _ k => XS.iinc X1.here hx rfl (hb hby own_d7_32) rfl (l' := #[.val (.ref a1), .val (.int ((0 : Int32) + (1 : Int32))), .val (.ref a2), .val (.int 0), .val (.int 5), .val (.int 0), .val (.int c0)]) rfl k) ?_
  show own_Go _ _ _ _ T1 (mkF m 35 #[.val (.ref a1), .val (.int ((0 : Int32) + (1 : Int32))), .val (.ref a2), .val (.int 0), .val (.int 5), .val (.int 0), .val (.int c0)] [])
  rw [show ((0 : Int32) + (1 : Int32)) = (1 : Int32) from by decide]
  refine own_st (fun _ k => XS.iinc X1.here hx rfl (hb hby own_d7_35) rfl (l' := #[.val (.ref a1), .val (.int 1), .val (.ref a2), .val (.int ((0 : Int32) + (1 : Int32))), .val (.int 5), .val (.int 0), .val (.int c0)]) rfl k) ?_
  show own_Go _ _ _ _ T1 (mkF m 38 #[.val (.ref a1), .val (.int 1), .val (.ref a2), .val (.int ((0 : Int32) + (1 : Int32))), .val (.int 5), .val (.int 0), .val (.int c0)] [])
  rw [show ((0 : Int32) + (1 : Int32)) = (1 : Int32) from by decide]
  refine own_st (fun _ k => XS.iinc X1.here hx rfl (hb hby own_d7_38) rfl (l' := #[.val (.ref a1), .val (.int 1), .val (.ref a2), .val (.int 1), .val (.int 5), .val (.int ((0 : Int32) + (1 : Int32))), .val (.int c0)]) rfl k) ?_
  show own_Go _ _ _ _ T1 (mkF m 41 #[.val (.ref a1), .val (.int 1), .val (.ref a2), .val (.int 1), .val (.int 5), .val (.int ((0 : Int32) + (1 : Int32))), .val (.int c0)] [])
  rw [show ((0 : Int32) + (1 : Int32)) = (1 : Int32) from by decide]
  refine own_st (fun _ k => XS.goto X1.here hx rfl (pc0 := 41) (pc' := 3) rfl (hb hby own_d7_41) (by decide) (by decide) k) ?_
  refine own_st (fun _ k => XS.iload X1.here hx rfl (hb hby own_d7_3) rfl k) ?_
  refine own_st (fun _ k => XS.iload X1.here hx rfl (hb hby own_d7_5) rfl k) ?_
  refine own_st (fun _ k => XS.icmpNo X1.here hx rfl (hb hby own_d7_7) rfl (tlt (by decide : (1 : Int32) < (5 : Int32))).2.1 k) ?_
  refine own_st (fun _ k => XS.aloadN X1.here hx rfl (hb hby own_d7_10) rfl rfl k) ?_
  refine own_st (fun _ k => XS.iloadN X1.here hx rfl (hb hby own_d7_11) rfl k) ?_
  refine own_st (own_ldC X1 hx hZ e1 V_a1_1 (j := (1 : Int32)) (by decide) (v := (.int c1)) rfl (g := (mkF m 12 #[.val (.ref a1), .val (.int 1), .val (.ref a2), .val (.int 1), .val (.int 5), .val (.int 1), .val (.int c0)] [(.int 1), (.ref a1)])) rfl rfl (hb hby own_d7_12)) ?_
  show own_Go _ _ _ _ T1 (mkF m 13 #[.val (.ref a1), .val (.int 1), .val (.ref a2), .val (.int 1), .val (.int 5), .val (.int 1), .val (.int c0)] [(.int c1)])
  refine own_st (fun _ k => XS.istore X1.here hx rfl (hb hby own_d7_13) rfl (l' := #[.val (.ref a1), .val (.int 1), .val (.ref a2), .val (.int 1), .val (.int 5), .val (.int 1), .val (.int c1)]) rfl k) ?_
  refine own_st (fun _ k => XS.iload X1.here hx rfl (hb hby own_d7_15) rfl k) ?_
  refine own_st (fun _ k => XS.sipush X1.here hx rfl (hb hby own_d7_17) k) ?_
  refine own_st (fun _ k => XS.icmpYes X1.here hx rfl (pc0 := 20) (pc' := 26) rfl (hb hby own_d7_20) rfl (flt (own_le255 hc1 : ¬ ((255 : Int32) < c1))).2.2.2 (by decide) (by decide) k) ?_
  refine own_st (fun _ k => XS.aloadN X1.here hx rfl (hb hby own_d7_26) rfl rfl k) ?_
  refine own_st (fun _ k => XS.iloadN X1.here hx rfl (hb hby own_d7_27) rfl k) ?_
  refine own_st (fun _ k => XS.iload X1.here hx rfl (hb hby own_d7_28) rfl k) ?_
  refine own_st (fun _ k => XS.i2b X1.here hx rfl (hb hby own_d7_30) rfl k) ?_
  show own_Go _ _ _ _ T1 (mkF m 31 #[.val (.ref a1), .val (.int 1), .val (.ref a2), .val (.int 1), .val (.int 5), .val (.int 1), .val (.int c1)] [(.int (c1.toInt8.toInt32)), (.int 1), (.ref a2)])
  obtain ⟨T2, hp2, X2, e2, W2, Va2, st2⟩ := own_stB X1 hx hZ e1 Va1 (by decide) 1 (by decide) (Nat.le_of_ble_eq_true rfl) (g := (mkF m 31 #[.val (.ref a1), .val (.int 1), .val (.ref a2), .val (.int 1), .val (.int 5), .val (.int 1), .val (.int c1)] [(.int (c1.toInt8.toInt32)), (.int 1), (.ref a2)])) rfl rfl (hb hby own_d7_31)
  have K2 := Keep.wr K1 W2 (Or.inl (List.mem_of_getElem? (i := 0) rfl))
  have V_a1_2 := V_a1_1.other W2 n12
  have Va2 : Arv Z hp2 a2 k2 .byte (5 : Int32) [(.int (nar .byte (c0.toInt8.toInt32))), (.int (nar .byte (c1.toInt8.toInt32))), (.int 0), (.int 0), (.int 0)] (.int 0) := Va2
  have N2 := Fr.snoc X2 N1 g_a2
  refine own_st st2 ?_
  refine own_st (fun _ k => XS.iinc X2.here hx rfl (hb hby own_d7_32) rfl (l' := #[.val (.ref a1), .val (.int ((1 : Int32) + (1 : Int32))), .val (.ref a2), .val (.int 1), .val (.int 5), .val (.int 1), .val (.int c1)]) rfl k) ?_
  show own_Go _ _ _ _ T2 (mkF m 35 #[.val (.ref a1), .val (.int ((1 : Int32) + (1 : Int32))), .val (.ref a2), .val (.int 1), .val (.int 5), .val (.int 1), .val (.int c1)] [])
  rw [show ((1 : Int32) + (1 : Int32)) = (2 : Int32) from by decide]
  refine own_st (fun _ k => XS.iinc X2.here hx rfl (hb hby own_d7_35) rfl (l' := #[.val (.ref a1), .val (.int 2), .val (.ref a2), .val (.int ((1 : Int32) + (1 : Int32))), .val (.int 5), .val (.int 1), .val (.int c1)]) rfl k) ?_
  show own_Go _ _ _ _ T2 (mkF m 38 #[.val (.ref a1), .val (.int 2), .val (.ref a2), .val (.int ((1 : Int32) + (1 : Int32))), .val (.int 5), .val (.int 1), .val (.int c1)] [])
  rw [show ((1 : Int32) + (1 : Int32)) = (2 : Int32) from by decide]
  refine own_st (fun _ k => XS.iinc X2.here hx rfl (hb hby own_d7_38) rfl (l' := #[.val (.ref a1), .val (.int 2), .val (.ref a2), .val (.int 2), .val (.int 5), .val (.int ((1 : Int32) + (1 : Int32))), .val (.int c1)]) rfl k) ?_
  show own_Go _ _ _ _ T2 (mkF m 41 #[.val (.ref a1), .val (.int 2), .val (.ref a2), .val (.int 2), .val (.int 5), .val (.int ((1 : Int32) + (1 : Int32))), .val (.int c1)] [])
  rw [show ((1 : Int32) + (1 : Int32)) = (2 : Int32) from by decide]
  refine own_st (fun _ k => XS.goto X2.here hx rfl (pc0 := 41) (pc' := 3) rfl (hb hby own_d7_41) (by decide) (by decide) k) ?_
  refine own_st (fun _ k => XS.iload X2.here hx rfl (hb hby own_d7_3) rfl k) ?_
  refine own_st (fun _ k => XS.iload X2.here hx rfl (hb hby own_d7_5) rfl k) ?_
  refine own_st (fun _ k => XS.icmpNo X2.here hx rfl (hb hby own_d7_7) rfl (tlt (by decide : (2 : Int32) < (5 : Int32))).2.1 k) ?_
  refine own_st (fun _ k => XS.aloadN X2.here hx rfl (hb hby own_d7_10) rfl rfl k) ?_
  refine own_st (fun _ k => XS.iloadN X2.here hx rfl (hb hby own_d7_11) rfl k) ?_
  refine own_st (own_ldC X2 hx hZ e2 V_a1_2 (j := (2 : Int32)) (by decide) (v := (.int c2)) rfl (g := (mkF m 12 #[.val (.ref a1), .val (.int 2), .val (.ref a2), .val (.int 2), .val (.int 5), .val (.int 2), .val (.int c1)] [(.int 2), (.ref a1)])) rfl rfl (hb hby own_d7_12)) ?_
  show own_Go _ _ _ _ T2 (mkF m 13 #[.val (.ref a1), .val (.int 2), .val (.ref a2), .val (.int 2), .val (.int 5), .val (.int 2), .val (.int c1)] [(.int c2)])
  refine own_st (fun _ k => XS.istore X2.here hx rfl (hb hby own_d7_13) rfl (l' := #[.val (.ref a1), .val (.int 2), .val (.ref a2), .val (.int 2), .val (.int 5), .val (.int 2), .val (.int c2)]) rfl k) ?_
  refine own_st (fun _ k => XS.iload X2.here hx rfl (hb hby own_d7_15) rfl k) ?_
  refine own_st (fun _ k => XS.sipush X2.here hx rfl (hb hby own_d7_17) k) ?_
  refine own_st (fun _ k => XS.icmpYes X2.here hx rfl (pc0 := 20) (pc' := 26) rfl (hb hby own_d7_20) rfl (flt (own_le255 hc2 : ¬ ((255 : Int32) < c2))).2.2.2 (by decide) (by decide) k) ?_
  refine own_st (fun _ k => XS.aloadN X2.here hx rfl (hb hby own_d7_26) rfl rfl k) ?_
  refine own_st (fun _ k => XS.iloadN X2.here hx rfl (hb hby own_d7_27) rfl k) ?_
  refine own_st (fun _ k => XS.iload X2.here hx rfl (hb hby own_d7_28) rfl k) ?_
  refine own_st (fun _ k => XS.i2b X2.here hx rfl (hb hby own_d7_30) rfl k) ?_
  show own_Go _ _ _ _ T2 (mkF m 31 #[.val (.ref a1), .val (.int 2), .val (.ref a2), .val (.int 2), .val (.int 5), .val (.int 2), .val (.int c2)] [(.int (c2.toInt8.toInt32)), (.int 2), (.ref a2)])
  obtain ⟨T3, hp3, X3, e3, W3, Va3, st3⟩ := own_stB X2 hx hZ e2 Va2 (by decide) 2 (by decide) (Nat.le_of_ble_eq_true rfl) (g := (mkF m 31 #[.val (.ref a1), .val (.int 2), .val (.ref a2), .val (.int 2), .val (.int 5), .val (.int 2), .val (.int c2)] [(.int (c2.toInt8.toInt32)), (.int 2), (.ref a2)])) rfl rfl (hb hby own_d7_31)
  have K3 := Keep.wr K2 W3 (Or.inl (List.mem_of_getElem? (i := 0) rfl))
  have V_a1_3 := V_a1_2.other W3 n12
  have Va3 : Arv Z hp3 a2 k2 .byte (5 : Int32) [(.int (nar .byte (c0.toInt8.toInt32))), (.int (nar .byte (c1.toInt8.toInt32))), (.int (nar .byte (c2.toInt8.toInt32))), (.int 0), (.int 0)] (.int 0) := Va3
  have N3 := Fr.snoc X3 N2 g_a2
  refine own_st st3 ?_
  refine own_st (fun _ k => XS.iinc X3.here hx rfl (hb hby own_d7_32) rfl (l' := #[.val (.ref a1), .val (.int ((2 : Int32) + (1 : Int32))), .val (.ref a2), .val (.int 2), .val (.int 5), .val (.int 2), .val (.int c2)]) rfl k) ?_
  show own_Go _ _ _ _ T3 (mkF m 35 #[.val (.ref a1), .val (.int ((2 : Int32) + (1 : Int32))), .val (.ref a2), .val (.int 2), .val (.int 5), .val (.int 2), .val (.int c2)] [])
  rw [show ((2 : Int32) + (1 : Int32)) = (3 : Int32) from by decide]
  refine own_st (fun _ k => XS.iinc X3.here hx rfl (hb hby own_d7_35) rfl (l' := #[.val (.ref a1), .val (.int 3), .val (.ref a2), .val (.int ((2 : Int32) + (1 : Int32))), .val (.int 5), .val (.int 2), .val (.int c2)]) rfl k) ?_
  show own_Go _ _ _ _ T3 (mkF m 38 #[.val (.ref a1), .val (.int 3), .val (.ref a2), .val (.int ((2 : Int32) + (1 : Int32))), .val (.int 5), .val (.int 2), .val (.int c2)] [])
  rw [show ((2 : Int32) + (1 : Int32)) = (3 : Int32) from by decide]
  refine own_st (fun _ k => XS.iinc X3.here hx rfl (hb hby own_d7_38) rfl (l' := #[.val (.ref a1), .val (.int 3), .val (.ref a2), .val (.int 3), .val (.int 5), .val (.int ((2 : Int32) + (1 : Int32))), .val (.int c2)]) rfl k) ?_
  show own_Go _ _ _ _ T3 (mkF m 41 #[.val (.ref a1), .val (.int 3), .val (.ref a2), .val (.int 3), .val (.int 5), .val (.int ((2 : Int32) + (1 : Int32))), .val (.int c2)] [])
  rw [show ((2 : Int32) + (1 : Int32)) = (3 : Int32) from by decide]
  refine own_st (fun _ k => XS.goto X3.here hx rfl (pc0 := 41) (pc' := 3) rfl (hb hby own_d7_41) (by decide) (by decide) k) ?_
  refine own_st (fun _ k => XS.iload X3.here hx rfl (hb hby own_d7_3) rfl k) ?_
  refine own_st (fun _ k => XS.iload X3.here hx rfl (hb hby own_d7_5) rfl k) ?_
  refine own_st (fun _ k => XS.icmpNo X3.here hx rfl (hb hby own_d7_7) rfl (tlt (by decide : (3 : Int32) < (5 : Int32))).2.1 k) ?_
  refine own_st (fun _ k => XS.aloadN X3.here hx rfl (hb hby own_d7_10) rfl rfl k) ?_
  refine own_st (fun _ k => XS.iloadN X3.here hx rfl (hb hby own_d7_11) rfl k) ?_
  refine own_st (own_ldC X3 hx hZ e3 V_a1_3 (j := (3 : Int32)) (by decide) (v := (.int c3)) rfl (g := (mkF m 12 #[.val (.ref a1), .val (.int 3), .val (.ref a2), .val (.int 3), .val (.int 5), .val (.int 3), .val (.int c2)] [(.int 3), (.ref a1)])) rfl rfl (hb hby own_d7_12)) ?_
  show own_Go _ _ _ _ T3 (mkF m 13 #[.val (.ref a1), .val (.int 3), .val (.ref a2), .val (.int 3), .val (.int 5), .val (.int 3), .val (.int c2)] [(.int c3)])
  refine own_st (fun _ k => XS.istore X3.here hx rfl (hb hby own_d7_13) rfl (l' := #[.val (.ref a1), .val (.int 3), .val (.ref a2), .val (.int 3), .val (.int 5), .val (.int 3), .val (.int c3)]) rfl k) ?_
  refine own_st (fun _ k => XS.iload X3.here hx rfl (hb hby own_d7_15) rfl k) ?_
  refine own_st (fun _ k => XS.sipush X3.here hx rfl (hb hby own_d7_17) k) ?_
  refine own_st (fun _ k => XS.icmpYes X3.here hx rfl (pc0 := 20) (pc' := 26) rfl (hb hby own_d7_20) rfl (flt (own_le255 hc3 : ¬ ((255 : Int32) < c3))).2.2.2 (by decide) (by decide) k) ?_
  refine own_st (fun _ k => XS.aloadN X3.here hx rfl (hb hby own_d7_26) rfl rfl k) ?_
  refine own_st (fun _ k => XS.iloadN X3.here hx rfl (hb hby own_d7_27) rfl k) ?_
  refine own_st (fun _ k => XS.iload X3.here hx rfl (hb hby own_d7_28) rfl k) ?_
  refine own_st (fun _ k => XS.i2b X3.here hx rfl (hb hby own_d7_30) rfl k) ?_
  show own_Go _ _ _ _ T3 (mkF m 31 #[.val (.ref a1), .val (.int 3), .val (.ref a2), .val (.int 3), .val (.int 5), .val (.int 3), .val (.int c3)] [(.int (c3.toInt8.toInt32)), (.int 3), (.ref a2)])
  obtain ⟨T4, hp4, X4, e4, W4, Va4, st4⟩ := own_stB X3 hx hZ e3 Va3 (by decide) 3 (by decide) (Nat.le_of_ble_eq_true rfl) (g := (mkF m 31 #[.val (.ref a1), .val (.int 3), .val (.ref a2), .val (.int 3), .val (.int 5), .val (.int 3), .val (.int c3)] [(.int (c3.toInt8.toInt32)), (.int 3), (.ref a2)])) rfl rfl (hb hby own_d7_31)
  have K4 := Keep.wr K3 W4 (Or.inl (List.mem_of_getElem? (i := 0) rfl))
  have V_a1_4 := V_a1_3.other W4 n12
  have Va4 : Arv Z hp4 a2 k2 .byte (5 : Int32) [(.int (nar .byte (c0.toInt8.toInt32))), (.int (nar .byte (c1.toInt8.toInt32))), (.int (nar .byte (c2.toInt8.toInt32))), (.int (nar .byte (c3.toInt8.toInt32))), (.int 0)] (.int 0) := Va4
  have N4 := Fr.snoc X4 N3 g_a2
  refine own_st st4 ?_
  refine own_st (fun _ k => XS.iinc X4.here hx rfl (hb hby own_d7_32) rfl (l' := #[.val (.ref a1), .val (.int ((3 : Int32) + (1 : Int32))), .val (.ref a2), .val (.int 3), .val (.int 5), .val (.int 3), .val (.int c3)]) rfl k) ?_
  show own_Go _ _ _ _ T4 (mkF m 35 #[.val (.ref a1), .val (.int ((3 : Int32) + (1 : Int32))), .val (.ref a2), .val (.int 3), .val (.int 5), .val (.int 3), .val (.int c3)] [])
  rw [show ((3 : Int32) + (1 : Int32)) = (4 : Int32) from by decide]
  refine own_st (fun _ k => XS.iinc X4.here hx rfl (hb hby own_d7_35) rfl (l' := #[.val (.ref a1), .val (.int 4), .val (.ref a2), .val (.int ((3 : Int32) + (1 : Int32))), .val (.int 5), .val (.int 3), .val (.int c3)]) rfl k) ?_
  show own_Go _ _ _ _ T4 (mkF m 38 #[.val (.ref a1), .val (.int 4), .val (.ref a2), .val (.int ((3 : Int32) + (1 : Int32))), .val (.int 5), .val (.int 3), .val (.int c3)] [])
  rw [show ((3 : Int32) + (1 : Int32)) = (4 : Int32) from by decide]
  refine own_st (fun _ k => XS.iinc X4.here hx rfl (hb hby own_d7_38) rfl (l' := #[.val (.ref a1), .val (.int 4), .val (.ref a2), .val (.int 4), .val (.int 5), .val (.int ((3 : Int32) + (1 : Int32))), .val (.int c3)]) rfl k) ?_
  show own_Go _ _ _ _ T4 (mkF m 41 #[.val (.ref a1), .val (.int 4), .val (.ref a2), .val (.int 4), .val (.int 5), .val (.int ((3 : Int32) + (1 : Int32))), .val (.int c3)] [])
  rw [show ((3 : Int32) + (1 : Int32)) = (4 : Int32) from by decide]
  refine own_st (fun _ k => XS.goto X4.here hx rfl (pc0 := 41) (pc' := 3) rfl (hb hby own_d7_41) (by decide) (by decide) k) ?_
  refine own_st (fun _ k => XS.iload X4.here hx rfl (hb hby own_d7_3) rfl k) ?_
  refine own_st (fun _ k => XS.iload X4.here hx rfl (hb hby own_d7_5) rfl k) ?_
  refine own_st (fun _ k => XS.icmpNo X4.here hx rfl (hb hby own_d7_7) rfl (tlt (by decide : (4 : Int32) < (5 : Int32))).2.1 k) ?_
  refine own_st (fun _ k => XS.aloadN X4.here hx rfl (hb hby own_d7_10) rfl rfl k) ?_
  refine own_st (fun _ k => XS.iloadN X4.here hx rfl (hb hby own_d7_11) rfl k) ?_
  refine own_st (own_ldC X4 hx hZ e4 V_a1_4 (j := (4 : Int32)) (by decide) (v := (.int c4)) rfl (g := (mkF m 12 #[.val (.ref a1), .val (.int 4), .val (.ref a2), .val (.int 4), .val (.int 5), .val (.int 4), .val (.int c3)] [(.int 4), (.ref a1)])) rfl rfl (hb hby own_d7_12)) ?_
  show own_Go _ _ _ _ T4 (mkF m 13 #[.val (.ref a1), .val (.int 4), .val (.ref a2), .val (.int 4), .val (.int 5), .val (.int 4), .val (.int c3)] [(.int c4)])
  refine own_st (fun _ k => XS.istore X4.here hx rfl (hb hby own_d7_13) rfl (l' := #[.val (.ref a1), .val (.int 4), .val (.ref a2), .val (.int 4), .val (.int 5), .val (.int 4), .val (.int c4)]) rfl k) ?_
  refine own_st (fun _ k => XS.iload X4.here hx rfl (hb hby own_d7_15) rfl k) ?_
  refine own_st (fun _ k => XS.sipush X4.here hx rfl (hb hby own_d7_17) k) ?_
  refine own_st (fun _ k => XS.icmpYes X4.here hx rfl (pc0 := 20) (pc' := 26) rfl (hb hby own_d7_20) rfl (flt (own_le255 hc4 : ¬ ((255 : Int32) < c4))).2.2.2 (by decide) (by decide) k) ?_
  refine own_st (fun _ k => XS.aloadN X4.here hx rfl (hb hby own_d7_26) rfl rfl k) ?_
  refine own_st (fun _ k => XS.iloadN X4.here hx rfl (hb hby own_d7_27) rfl k) ?_
  refine own_st (fun _ k => XS.iload X4.here hx rfl (hb hby own_d7_28) rfl k) ?_
  refine own_st (fun _ k => XS.i2b X4.here hx rfl (hb hby own_d7_30) rfl k) ?_
  show own_Go _ _ _ _ T4 (mkF m 31 #[.val (.ref a1), .val (.int 4), .val (.ref a2), .val (.int 4), .val (.int 5), .val (.int 4), .val (.int c4)] [(.int (c4.toInt8.toInt32)), (.int 4), (.ref a2)])
  obtain ⟨T5, hp5, X5, e5, W5, Va5, st5⟩ := own_stB X4 hx hZ e4 Va4 (by decide) 4 (by decide) (Nat.le_of_ble_eq_true rfl) (g := (mkF m 31 #[.val (.ref a1), .val (.int 4), .val (.ref a2), .val (.int 4), .val (.int 5), .val (.int 4), .val (.int c4)] [(.int (c4.toInt8.toInt32)), (.int 4), (.ref a2)])) rfl rfl (hb hby own_d7_31)
  have K5 := Keep.wr K4 W5 (Or.inl (List.mem_of_getElem? (i := 0) rfl))
  have V_a1_5 := V_a1_4.other W5 n12
  have Va5 : Arv Z hp5 a2 k2 .byte (5 : Int32) [(.int (nar .byte (c0.toInt8.toInt32))), (.int (nar .byte (c1.toInt8.toInt32))), (.int (nar .byte (c2.toInt8.toInt32))), (.int (nar .byte (c3.toInt8.toInt32))), (.int (nar .byte (c4.toInt8.toInt32)))] (.int 0) := Va5
  have N5 := Fr.snoc X5 N4 g_a2
  refine own_st st5 ?_
  refine own_st (fun _ k => XS.iinc X5.here hx rfl (hb hby own_d7_32) rfl (l' := #[.val (.ref a1), .val (.int ((4 : Int32) + (1 : Int32))), .val (.ref a2), .val (.int 4), .val (.int 5), .val (.int 4), .val (.int c4)]) rfl k) ?_
  show own_Go _ _ _ _ T5 (mkF m 35 #[.val (.ref a1), .val (.int ((4 : Int32) + (1 : Int32))), .val (.ref a2), .val (.int 4), .val (.int 5), .val (.int 4), .val (.int c4)] [])
  rw [show ((4 : Int32) + (1 : Int32)) = (5 : Int32) from by decide]
  refine own_st (fun _ k => XS.iinc X5.here hx rfl (hb hby own_d7_35) rfl (l' := #[.val (.ref a1), .val (.int 5), .val (.ref a2), .val (.int ((4 : Int32) + (1 : Int32))), .val (.int 5), .val (.int 4), .val (.int c4)]) rfl k) ?_
  show own_Go _ _ _ _ T5 (mkF m 38 #[.val (.ref a1), .val (.int 5), .val (.ref a2), .val (.int ((4 : Int32) + (1 : Int32))), .val (.int 5), .val (.int 4), .val (.int c4)] [])
  rw [show ((4 : Int32) + (1 : Int32)) = (5 : Int32) from by decide]
  refine own_st (fun _ k => XS.iinc X5.here hx rfl (hb hby own_d7_38) rfl (l' := #[.val (.ref a1), .val (.int 5), .val (.ref a2), .val (.int 5), .val (.int 5), .val (.int ((4 : Int32) + (1 : Int32))), .val (.int c4)]) rfl k) ?_
  show own_Go _ _ _ _ T5 (mkF m 41 #[.val (.ref a1), .val (.int 5), .val (.ref a2), .val (.int 5), .val (.int 5), .val (.int ((4 : Int32) + (1 : Int32))), .val (.int c4)] [])
  rw [show ((4 : Int32) + (1 : Int32)) = (5 : Int32) from by decide]
  refine own_st (fun _ k => XS.goto X5.here hx rfl (pc0 := 41) (pc' := 3) rfl (hb hby own_d7_41) (by decide) (by decide) k) ?_
  refine own_st (fun _ k => XS.iload X5.here hx rfl (hb hby own_d7_3) rfl k) ?_
  refine own_st (fun _ k => XS.iload X5.here hx rfl (hb hby own_d7_5) rfl k) ?_
  refine own_st (fun _ k => XS.icmpYes X5.here hx rfl (pc0 := 7) (pc' := 44) rfl (hb hby own_d7_7) rfl (flt (by decide : ¬ ((5 : Int32) < (5 : Int32)))).2.1 (by decide) (by decide) k) ?_
  refine own_st (fun _ k => XS.iload X5.here hx rfl (hb hby own_d7_44) rfl k) ?_
  exact own_retI X5 hx hret hlk (hb hby own_d7_46) ⟨rfl, N5, by rw [e5]; exact K5, by rw [e5]; exact Va5⟩ (by decide) (by decide)
def own_cq5_Q (Z : State) (a1 : Addr) (p1 p2 : Int32) (k1 : ClassId) (c0 c1 c2 c3 c4 : Int32) (h0 : Heap) (n0 : Nat) (v : Option Value) (h : Heap) (L : List Loc) : Prop := ∃ b k, v = some (.ref b) ∧ Fr n0 L ∧ Ext h0 h ∧ n0 ≤ b ∧ h0.size ≤ b ∧ Arv Z h b k .byte (5 : Int32) [(.int (nar .byte (c0.toInt8.toInt32))), (.int (nar .byte (c1.toInt8.toInt32))), (.int (nar .byte (c2.toInt8.toInt32))), (.int (nar .byte (c3.toInt8.toInt32))), (.int (nar .byte (c4.toInt8.toInt32)))] (.int 0)
set_option maxRecDepth 65536 in
set_option maxHeartbeats 40000000 in
theorem own_cq5 (l : Launch) {Z : State} {a0 : Array Value} (hw : own_W Z a0) (ws : List Jvm.Cond) (a1 : Addr) (p1 p2 : Int32) (k1 : ClassId) (c0 c1 c2 c3 c4 : Int32) (h0 : Heap) (n0 : Nat) (Z0 : n0 ≤ h0.size) (hp1 : p1 = 0) (hp2 : p2 = (5 : Int32)) (hc0 : own_ch c0) (hc1 : own_ch c1) (hc2 : own_ch c2) (hc3 : own_ch c3) (hc4 : own_ch c4) (V1 : Arv Z h0 a1 k1 .char (5 : Int32) [(.int c0), (.int c1), (.int c2), (.int c3), (.int c4)] (.int 0)) :
    MetFree l (⟨"java/lang/StringUTF16", "compress", "([CII)[B"⟩ : MethodName) (head1 (Jvm.Cond.code (⟨"java/lang/StringUTF16", "compress", "([CII)[B"⟩ : MethodName) jdk_52_method_16_code 6 (some (.array .byte)) :: ws) ({ frames := 1, cells := 1, slots := 5, locals := 18 } : Room)) (fun a U => a = #[(.ref a1), (.int p1), (.int p2)] ∧ Z.Warmed39 U.vm ∧ U.heap = h0) (fun _ _ _ _ _ => True) (fun _ U o U' => ∃ v L, o = .returned v ∧ own_cq5_Q Z a1 p1 p2 k1 c0 c1 c2 c3 c4 h0 n0 v U'.heap L ∧ FrameEnd U o U' L ({ frames := 1, cells := 1, slots := 5, locals := 18 } : Room).cells ({ frames := 1, cells := 1, slots := 5, locals := 18 } : Room).slots) := by
  refine own_enter (C := ({ frames := 1, cells := 1, slots := 5, locals := 18 } : Room).cells) (S := ({ frames := 1, cells := 1, slots := 5, locals := 18 } : Room).slots) (plainFor_of_name own_pn0) ?_
  intro p e s m below meth c T0 X0 I e0
  obtain ⟨hx, hby, hml, hown, hnm, hret, hlk, hZ⟩ := I
  have N0 := Fr.nil n0
  have O0 := own_extr h0
  refine own_cast (own_ef6 m a1 p1 p2) ?_
  show own_Go _ _ _ _ T0 (mkF m 0 #[.val (.ref a1), .val (.int p1), .val (.int p2), .unset, .unset, .unset] [])
  rw [hp1, hp2]
  show own_Go _ _ _ _ T0 (mkF m 0 #[.val (.ref a1), .val (.int 0), .val (.int 5), .unset, .unset, .unset] [])
  refine own_st (fun _ k => XS.iloadN X0.here hx rfl (hb hby own_d6_0) rfl k) ?_
  obtain ⟨T1, hp1, kk1, X1, e1, Et1, A1, st1⟩ := newP X0 hx hZ (aty := .byte) (own_w27 hw) e0 (g := (mkF m 1 #[.val (.ref a1), .val (.int 0), .val (.int 5), .unset, .unset, .unset] [(.int 5)])) rfl (hb hby own_d6_1) rfl (by decide) (cap := 5) (by decide) (by decide) (by decide) (by decide)
  obtain ⟨b1, g1⟩ : ∃ z, z = h0.size := ⟨_, rfl⟩
  rw [← g1] at A1 st1
  have s_b1 : h0.size ≤ b1 := Nat.le_trans O0.1 (Nat.le_of_eq g1.symm)
  have g_b1 : n0 ≤ b1 := Nat.le_trans Z0 s_b1
  have O1 := own_extt O0 Et1
  have Va1 : Arv Z hp1 b1 kk1 .byte (5 : Int32) [(.int 0), (.int 0), (.int 0), (.int 0), (.int 0)] (.int 0) := (Arv.new A1 (by decide)).pad (pad_rep [] (.int 0) 5)
  refine own_st st1 ?_
  refine own_st (fun _ k => XS.astoreN X1.here hx rfl (hb hby own_d6_3) rfl rfl (l' := #[.val (.ref a1), .val (.int 0), .val (.int 5), .val (.ref b1), .unset, .unset]) rfl k) ?_
  refine own_st (fun _ k => XS.aloadN X1.here hx rfl (hb hby own_d6_4) rfl rfl k) ?_
  refine own_st (fun _ k => XS.iloadN X1.here hx rfl (hb hby own_d6_5) rfl k) ?_
  refine own_st (fun _ k => XS.aloadN X1.here hx rfl (hb hby own_d6_6) rfl rfl k) ?_
  refine own_st (fun _ k => XS.iconst X1.here hx rfl (hb hby own_d6_7) k) ?_
  refine own_st (fun _ k => XS.iloadN X1.here hx rfl (hb hby own_d6_8) rfl k) ?_
  show own_Go _ _ _ _ T1 (mkF m 9 #[.val (.ref a1), .val (.int 0), .val (.int 5), .val (.ref b1), .unset, .unset] [(.int 5), (.int 0), (.ref b1), (.int 0), (.ref a1)])
  obtain ⟨v2, T2, L2, hQ2, X2, st2⟩ := own_callS X1 hx hZ (y := (⟨"java/lang/StringUTF16", "compress", "([CI[BII)I"⟩ : MethodName)) hown (own_w28 hw) (own_w29 hw) (own_w25 hw) (own_w30 hw) (by decide) (own_cp5 l hw [] a1 b1 (0 : Int32) (0 : Int32) (5 : Int32) k1 kk1 c0 c1 c2 c3 c4 hp1 n0 (Nat.le_trans Z0 O1.1) rfl rfl rfl hc0 hc1 hc2 hc3 hc4 (Nat.ne_of_lt (Nat.lt_of_lt_of_le V1.lt s_b1)) g_b1 (V1.ext O1) Va1) e1 (g := (mkF m 9 #[.val (.ref a1), .val (.int 0), .val (.int 5), .val (.ref b1), .unset, .unset] [(.int 5), (.int 0), (.ref b1), (.int 0), (.ref a1)])) rfl (by rw [hml]; rfl) (argsL := [(.ref a1), (.int 0), (.ref b1), (.int 0), (.int 5)]) (rest := []) (lenOf own_pd0 rfl) rfl rfl (W := 0) (Nat.le_of_eq rfl) (hb hby own_d6_9) (by decide) (by decide) (by decide) (by decide)
  obtain ⟨rfl, N2, K2, Vb2⟩ := hQ2
  have O2 : Ext h0 T2.heap := ⟨Nat.le_trans O1.1 K2.1, fun x c r => K2.2.1 x c (O1.2 x c r) (fun z => by
    have q := (Array.getElem?_eq_some_iff.mp r).1
    simp only [List.mem_cons, List.not_mem_nil, or_false] at z
    rcases z with rfl
    exact absurd q (Nat.not_lt.mpr s_b1))⟩
  have N2' := Fr.app N0 N2
  refine own_st st2 ?_
  refine own_st (fun _ k => XS.istore X2.here hx rfl (hb hby own_d6_12) rfl (l' := #[.val (.ref a1), .val (.int 0), .val (.int 5), .val (.ref b1), .val (.int 5), .unset]) rfl k) ?_
  refine own_st (fun _ k => XS.iload X2.here hx rfl (hb hby own_d6_14) rfl k) ?_
  refine own_st (fun _ k => XS.iloadN X2.here hx rfl (hb hby own_d6_16) rfl k) ?_
  refine own_st (fun _ k => XS.icmpYes X2.here hx rfl (pc0 := 17) (pc' := 57) rfl (hb hby own_d6_17) rfl (teq (by decide : (5 : Int32) = (5 : Int32))).1 (by decide) (by decide) k) ?_
  refine own_st (fun _ k => XS.aloadN X2.here hx rfl (hb hby own_d6_57) rfl rfl k) ?_
  exact own_retA X2 hx hret rfl hlk rfl (hb hby own_d6_58) ⟨b1, _, rfl, N2', O2, g_b1, s_b1, Vb2⟩ (by decide) (by decide)
def own_cd5_Q (Z : State) (a1 : Addr) (p1 : Int32) (k1 : ClassId) (c0 c1 c2 c3 c4 : Int32) (h0 : Heap) (n0 : Nat) (v : Option Value) (h : Heap) (L : List Loc) : Prop := v = some (.int 0) ∧ Fr n0 L ∧ h = h0
set_option maxRecDepth 65536 in
set_option maxHeartbeats 40000000 in
theorem own_cd5 (l : Launch) {Z : State} {a0 : Array Value} (hw : own_W Z a0) (ws : List Jvm.Cond) (a1 : Addr) (p1 : Int32) (k1 : ClassId) (c0 c1 c2 c3 c4 : Int32) (h0 : Heap) (n0 : Nat) (Z0 : n0 ≤ h0.size) (hp1 : p1 = (5 : Int32)) (V1 : Arv Z h0 a1 k1 .byte (5 : Int32) [(.int (nar .byte (c0.toInt8.toInt32))), (.int (nar .byte (c1.toInt8.toInt32))), (.int (nar .byte (c2.toInt8.toInt32))), (.int (nar .byte (c3.toInt8.toInt32))), (.int (nar .byte (c4.toInt8.toInt32)))] (.int 0)) :
    MetFree l (⟨"java/lang/StringUTF16", "coderFromArrayLen", "([BI)B"⟩ : MethodName) (head1 (Jvm.Cond.code (⟨"java/lang/StringUTF16", "coderFromArrayLen", "([BI)B"⟩ : MethodName) jdk_52_method_15_code 2 (some .byte) :: ws) ({ frames := 0, cells := 0, slots := 0, locals := 0 } : Room)) (fun a U => a = #[(.ref a1), (.int p1)] ∧ Z.Warmed39 U.vm ∧ U.heap = h0) (fun _ _ _ _ _ => True) (fun _ U o U' => ∃ v L, o = .returned v ∧ own_cd5_Q Z a1 p1 k1 c0 c1 c2 c3 c4 h0 n0 v U'.heap L ∧ FrameEnd U o U' L ({ frames := 0, cells := 0, slots := 0, locals := 0 } : Room).cells ({ frames := 0, cells := 0, slots := 0, locals := 0 } : Room).slots) := by
  refine own_enter (C := ({ frames := 0, cells := 0, slots := 0, locals := 0 } : Room).cells) (S := ({ frames := 0, cells := 0, slots := 0, locals := 0 } : Room).slots) (plainFor_of_name own_pn0) ?_
  intro p e s m below meth c T0 X0 I e0
  obtain ⟨hx, hby, hml, hown, hnm, hret, hlk, hZ⟩ := I
  have N0 := Fr.nil n0
  have O0 := own_extr h0
  refine own_cast (own_ef8 m a1 p1) ?_
  show own_Go _ _ _ _ T0 (mkF m 0 #[.val (.ref a1), .val (.int p1)] [])
  rw [hp1]
  show own_Go _ _ _ _ T0 (mkF m 0 #[.val (.ref a1), .val (.int 5)] [])
  refine own_st (fun _ k => XS.iloadN X0.here hx rfl (hb hby own_d8_0) rfl k) ?_
  refine own_st (fun _ k => XS.aloadN X0.here hx rfl (hb hby own_d8_1) rfl rfl k) ?_
  refine own_st (own_len X0 hx hZ e0 (V1.ext O0) (g := (mkF m 2 #[.val (.ref a1), .val (.int 5)] [(.ref a1), (.int 5)])) rfl rfl (hb hby own_d8_2)) ?_
  refine own_st (fun _ k => XS.isub X0.here hx rfl (hb hby own_d8_3) rfl k) ?_
  show own_Go _ _ _ _ T0 (mkF m 4 #[.val (.ref a1), .val (.int 5)] [(.int ((5 : Int32) - (5 : Int32)))])
  rw [show ((5 : Int32) - (5 : Int32)) = (0 : Int32) from by decide]
  refine own_st (fun _ k => XS.bipush X0.here hx rfl (hb hby own_d8_4) k) ?_
  refine own_st (fun _ k => XS.iushr X0.here hx rfl (hb hby own_d8_6) rfl k) ?_
  show own_Go _ _ _ _ T0 (mkF m 7 #[.val (.ref a1), .val (.int 5)] [(.int (((0 : Int32).toUInt32 >>> ((31 : Int32) &&& 31).toUInt32).toInt32))])
  rw [show (((0 : Int32).toUInt32 >>> ((31 : Int32) &&& 31).toUInt32).toInt32) = (0 : Int32) from by decide]
  refine own_st (fun _ k => XS.i2b X0.here hx rfl (hb hby own_d8_7) rfl k) ?_
  show own_Go _ _ _ _ T0 (mkF m 8 #[.val (.ref a1), .val (.int 5)] [(.int ((0 : Int32).toInt8.toInt32))])
  rw [show ((0 : Int32).toInt8.toInt32) = (0 : Int32) from by decide]
  exact own_retN X0 hx hret (by simp) hlk (hb hby own_d8_8) ⟨rfl, N0, e0⟩ (by decide) (by decide)
def own_vd5_Q (Z : State) (a1 a2 : Addr) (p1 p2 cs : Int32) (k1 : ClassId) (c0 c1 c2 c3 c4 : Int32) (h0 : Heap) (n0 : Nat) (v : Option Value) (h : Heap) (L : List Loc) : Prop := v = none ∧ Fr n0 L ∧ Keep h0 h [a1] ∧ ∃ b k, Fld Z h a1 "java/lang/String" "value" "[B" (.ref b) ∧ Fld Z h a1 "java/lang/String" "coder" "B" (.int 0) ∧ Arv Z h b k .byte (5 : Int32) [(.int (nar .byte (c0.toInt8.toInt32))), (.int (nar .byte (c1.toInt8.toInt32))), (.int (nar .byte (c2.toInt8.toInt32))), (.int (nar .byte (c3.toInt8.toInt32))), (.int (nar .byte (c4.toInt8.toInt32)))] (.int 0)
set_option maxRecDepth 65536 in
set_option maxHeartbeats 40000000 in
theorem own_vd5 (l : Launch) {Z : State} {a0 : Array Value} (hw : own_W Z a0) (ws : List Jvm.Cond) (a1 a2 : Addr) (p1 p2 cs : Int32) (k1 : ClassId) (c0 c1 c2 c3 c4 : Int32) (h0 : Heap) (n0 : Nat) (Z0 : n0 ≤ h0.size) (hp1 : p1 = 0) (hp2 : p2 = (5 : Int32)) (hc0 : own_ch c0) (hc1 : own_ch c1) (hc2 : own_ch c2) (hc3 : own_ch c3) (hc4 : own_ch c4) (Scs : Sta Z h0 "java/lang/String" "COMPACT_STRINGS" "Z" (.int cs)) (hcs : ¬ cs = 0) (g_a1 : n0 ≤ a1) (Ea : Exa Z h0 a1 "java/lang/String") (Fv : Fld Z h0 a1 "java/lang/String" "value" "[B" .null) (Fc : Fld Z h0 a1 "java/lang/String" "coder" "B" (.int 0)) (V1 : Arv Z h0 a2 k1 .char (5 : Int32) [(.int c0), (.int c1), (.int c2), (.int c3), (.int c4)] (.int 0)) :
    MetFree l (⟨"java/lang/String", "<init>", "([CIILjava/lang/Void;)V"⟩ : MethodName) (head1 (Jvm.Cond.code (⟨"java/lang/String", "<init>", "([CIILjava/lang/Void;)V"⟩ : MethodName) jdk_42_method_149_code 6 none :: ws) ({ frames := 2, cells := 1, slots := 5, locals := 40 } : Room)) (fun a U => a = #[(.ref a1), (.ref a2), (.int p1), (.int p2), .null] ∧ Z.Warmed39 U.vm ∧ U.heap = h0) (fun _ _ _ _ _ => True) (fun _ U o U' => ∃ v L, o = .returned v ∧ own_vd5_Q Z a1 a2 p1 p2 cs k1 c0 c1 c2 c3 c4 h0 n0 v U'.heap L ∧ FrameEnd U o U' L ({ frames := 2, cells := 1, slots := 5, locals := 40 } : Room).cells ({ frames := 2, cells := 1, slots := 5, locals := 40 } : Room).slots) := by
  refine own_enter (C := ({ frames := 2, cells := 1, slots := 5, locals := 40 } : Room).cells) (S := ({ frames := 2, cells := 1, slots := 5, locals := 40 } : Room).slots) (plainFor_of_name own_pn1) ?_
  intro p e s m below meth c T0 X0 I e0
  obtain ⟨hx, hby, hml, hown, hnm, hret, hlk, hZ⟩ := I
  have N0 := Fr.nil n0
  have O0 := own_extr h0
  refine own_cast (own_ef4n m a1 a2 p1 p2) ?_
  show own_Go _ _ _ _ T0 (mkF m 0 #[.val (.ref a1), .val (.ref a2), .val (.int p1), .val (.int p2), .val .null, .unset] [])
  rw [hp1, hp2]
  show own_Go _ _ _ _ T0 (mkF m 0 #[.val (.ref a1), .val (.ref a2), .val (.int 0), .val (.int 5), .val .null, .unset] [])
  have K0 := Keep.refl h0 [a1]
  refine own_st (fun _ k => XS.aloadN X0.here hx rfl (hb hby own_d4_0) rfl rfl k) ?_
  obtain ⟨T1, X1, e1, st1⟩ := initO X0 hx hZ hown (own_w19 hw) (own_w20 hw) (own_w21 hw) e0 (g := (mkF m 1 #[.val (.ref a1), .val (.ref a2), .val (.int 0), .val (.int 5), .val .null, .unset] [(.ref a1)])) rfl (by rw [hml]; rfl) rfl (hb hby own_d4_1) (by decide) (W := 0) (Nat.le_of_eq rfl) (by decide)
  refine own_st st1 ?_
  refine own_st (fun _ k => XS.iloadN X1.here hx rfl (hb hby own_d4_4) rfl k) ?_
  refine own_st (fun _ k => XS.ifYes X1.here hx rfl (pc0 := 5) (pc' := 27) rfl (hb hby own_d4_5) rfl ((if0 _ _).trans (feq (by decide : ¬ ((5 : Int32) = (0 : Int32)))).2) (by decide) (by decide) k) ?_
  obtain ⟨T2, X2, e2, st2⟩ := getS2 X1 hx hZ hown (host := "") (Or.inl (own_w22 hw)) Via.refl e1 Scs (g := (mkF m 27 #[.val (.ref a1), .val (.ref a2), .val (.int 0), .val (.int 5), .val .null, .unset] [])) rfl (hb hby own_d4_27)
  refine own_st st2 ?_
  refine own_st (fun _ k => XS.ifNo X2.here hx rfl (hb hby own_d4_30) rfl ((if0 _ _).trans (feq (hcs : ¬ (cs = (0 : Int32)))).1) k) ?_
  refine own_st (fun _ k => XS.aloadN X2.here hx rfl (hb hby own_d4_33) rfl rfl k) ?_
  refine own_st (fun _ k => XS.iloadN X2.here hx rfl (hb hby own_d4_34) rfl k) ?_
  show own_Go _ _ _ _ T2 (mkF m 35 #[.val (.ref a1), .val (.ref a2), .val (.int 0), .val (.int 5), .val .null, .unset] [(.int 0), (.ref a2)])
  refine own_st (fun _ k => XS.iloadN X2.here hx rfl (hb hby own_d4_35) rfl k) ?_
  obtain ⟨v3, T3, L3, hQ3, X3, st3⟩ := own_callS X2 hx hZ (y := (⟨"java/lang/StringUTF16", "compress", "([CII)[B"⟩ : MethodName)) hown (own_w23 hw) (own_w24 hw) (own_w25 hw) (own_w26 hw) (by decide) (own_cq5 l hw [] a2 (0 : Int32) (5 : Int32) k1 c0 c1 c2 c3 c4 h0 n0 Z0 rfl rfl hc0 hc1 hc2 hc3 hc4 V1) e2 (g := (mkF m 36 #[.val (.ref a1), .val (.ref a2), .val (.int 0), .val (.int 5), .val .null, .unset] [(.int 5), (.int 0), (.ref a2)])) rfl (by rw [hml]; rfl) (argsL := [(.ref a2), (.int 0), (.int 5)]) (rest := []) (lenOf own_pd1 rfl) rfl rfl (W := 0) (Nat.le_of_eq rfl) (hb hby own_d4_36) (by decide) (by decide) (by decide) (by decide)
  obtain ⟨b, kb, rfl, N3, Et3, gb, sb, Vb⟩ := hQ3
  have nab : a1 ≠ b := Nat.ne_of_lt (Nat.lt_of_lt_of_le Ea.lt sb)
  have K3x := Keep.ext K0 Et3
  have Scs_3 := Scs.ext Et3
  have Ex_a1_3 := Ea.ext Et3
  have F_value_a1_3 := Fv.ext Et3
  have F_coder_a1_3 := Fc.ext Et3
  have N3' := Fr.app N0 N3
  refine own_st st3 ?_
  refine own_st (fun _ k => XS.astore X3.here hx rfl (hb hby own_d4_39) rfl rfl (l' := #[.val (.ref a1), .val (.ref a2), .val (.int 0), .val (.int 5), .val .null, .val (.ref b)]) rfl k) ?_
  refine own_st (fun _ k => XS.aloadN X3.here hx rfl (hb hby own_d4_41) rfl rfl k) ?_
  refine own_st (fun _ k => XS.aload X3.here hx rfl (hb hby own_d4_42) rfl rfl k) ?_
  refine own_st (fun _ k => XS.iloadN X3.here hx rfl (hb hby own_d4_44) rfl k) ?_
  obtain ⟨v4, T4, L4, hQ4, X4, st4⟩ := own_callS X3 hx hZ (y := (⟨"java/lang/StringUTF16", "coderFromArrayLen", "([BI)B"⟩ : MethodName)) hown (own_w31 hw) (own_w32 hw) (own_w25 hw) (own_w33 hw) (by decide) (own_cd5 l hw [] b (5 : Int32) kb c0 c1 c2 c3 c4 T3.heap n0 (Nat.le_trans Z0 Et3.1) rfl Vb) rfl (g := (mkF m 45 #[.val (.ref a1), .val (.ref a2), .val (.int 0), .val (.int 5), .val .null, .val (.ref b)] [(.int 5), (.ref b), (.ref a1)])) rfl (by rw [hml]; rfl) (argsL := [(.ref b), (.int 5)]) (rest := [(.ref a1)]) (lenOf own_pd2 rfl) rfl rfl (W := 1) (Nat.le_of_eq rfl) (hb hby own_d4_45) (by decide) (by decide) (by decide) (by decide)
  obtain ⟨rfl, N4, e4⟩ := hQ4
  have N4' := Fr.app N3' N4
  refine own_st st4 ?_
  obtain ⟨T5, hp5, X5, e5, W5, st5⟩ := putFN X4 hx hZ hown (own_w34 hw) Via.refl e4 F_coder_a1_3 Ex_a1_3 (Or.inr ⟨(own_w35 hw), rfl, hnm⟩) (own_w10 hw) (ty := .byte) (v' := (.int 0)) (by decide) rfl (by decide) (g := (mkF m 48 #[.val (.ref a1), .val (.ref a2), .val (.int 0), .val (.int 5), .val .null, .val (.ref b)] [(.int 0), (.ref a1)])) rfl rfl (hb hby own_d4_48)
  have K5 := Keep.wr K3x W5 (Or.inl (List.mem_of_getElem? (i := 0) rfl))
  have Scs_5 := Scs_3.wr W5
  have V_b_5 := Vb.other W5 (Ne.symm nab)
  have Ex_a1_5 := Ex_a1_3.wr W5
  have F_value_a1_5 := F_value_a1_3.other W5 (Or.inr (slot_ne (Or.inr (own_w37 hw)) (Or.inr (own_w35 hw)) (by decide) (t := (.array .byte)) (t' := .byte) (by decide) (by decide)))
  have F_coder_a1_5 := F_coder_a1_3.same W5
  have N5 := Fr.snoc X5 N4' g_a1
  refine own_st st5 ?_
  show own_Go _ _ _ _ T5 (mkF m 51 #[.val (.ref a1), .val (.ref a2), .val (.int 0), .val (.int 5), .val .null, .val (.ref b)] [])
  refine own_st (fun _ k => XS.aloadN X5.here hx rfl (hb hby own_d4_51) rfl rfl k) ?_
  refine own_st (fun _ k => XS.aload X5.here hx rfl (hb hby own_d4_52) rfl rfl k) ?_
  obtain ⟨T6, hp6, X6, e6, W6, st6⟩ := putF X5 hx hZ hown (host := "") (Or.inl (own_w36 hw)) Via.refl e5 F_value_a1_5 Ex_a1_5 (Or.inr ⟨(own_w37 hw), rfl, hnm⟩) (own_w10 hw) (ty := (.array .byte)) (by decide) rfl rfl (g := (mkF m 54 #[.val (.ref a1), .val (.ref a2), .val (.int 0), .val (.int 5), .val .null, .val (.ref b)] [(.ref b), (.ref a1)])) rfl rfl (hb hby own_d4_54)
  have K6 := Keep.wr K5 W6 (Or.inl (List.mem_of_getElem? (i := 0) rfl))
  have Scs_6 := Scs_5.wr W6
  have V_b_6 := V_b_5.other W6 (Ne.symm nab)
  have Ex_a1_6 := Ex_a1_5.wr W6
  have F_coder_a1_6 := F_coder_a1_5.other W6 (Or.inr (slot_ne (Or.inr (own_w35 hw)) (Or.inr (own_w37 hw)) (by decide) (t := .byte) (t' := (.array .byte)) (by decide) (by decide)))
  have F_value_a1_6 := F_value_a1_5.same W6
  have N6 := Fr.snoc X6 N5 g_a1
  refine own_st st6 ?_
  exact own_retV X6 hx hret hlk (hb hby own_d4_57) ⟨rfl, N6, by rw [e6]; exact K6, b, kb, by rw [e6]; exact F_value_a1_6, by rw [e6]; exact F_coder_a1_6, by rw [e6]; exact V_b_6⟩ (by decide) (by decide)
def own_cc5_Q (Z : State) (a1 a2 : Addr) (cs : Int32) (k1 : ClassId) (c0 c1 c2 c3 c4 : Int32) (h0 : Heap) (n0 : Nat) (v : Option Value) (h : Heap) (L : List Loc) : Prop := v = none ∧ Fr n0 L ∧ Keep h0 h [a1] ∧ ∃ b k, Fld Z h a1 "java/lang/String" "value" "[B" (.ref b) ∧ Fld Z h a1 "java/lang/String" "coder" "B" (.int 0) ∧ Arv Z h b k .byte (5 : Int32) [(.int (nar .byte (c0.toInt8.toInt32))), (.int (nar .byte (c1.toInt8.toInt32))), (.int (nar .byte (c2.toInt8.toInt32))), (.int (nar .byte (c3.toInt8.toInt32))), (.int (nar .byte (c4.toInt8.toInt32)))] (.int 0)
set_option maxRecDepth 65536 in
set_option maxHeartbeats 40000000 in
theorem own_cc5 (l : Launch) {Z : State} {a0 : Array Value} (hw : own_W Z a0) (ws : List Jvm.Cond) (a1 a2 : Addr) (cs : Int32) (k1 : ClassId) (c0 c1 c2 c3 c4 : Int32) (h0 : Heap) (n0 : Nat) (Z0 : n0 ≤ h0.size) (hc0 : own_ch c0) (hc1 : own_ch c1) (hc2 : own_ch c2) (hc3 : own_ch c3) (hc4 : own_ch c4) (Scs : Sta Z h0 "java/lang/String" "COMPACT_STRINGS" "Z" (.int cs)) (hcs : ¬ cs = 0) (g_a1 : n0 ≤ a1) (Ea : Exa Z h0 a1 "java/lang/String") (Fv : Fld Z h0 a1 "java/lang/String" "value" "[B" .null) (Fc : Fld Z h0 a1 "java/lang/String" "coder" "B" (.int 0)) (V1 : Arv Z h0 a2 k1 .char (5 : Int32) [(.int c0), (.int c1), (.int c2), (.int c3), (.int c4)] (.int 0)) :
    MetFree l (⟨"java/lang/String", "<init>", "([C)V"⟩ : MethodName) (head1 (Jvm.Cond.code (⟨"java/lang/String", "<init>", "([C)V"⟩ : MethodName) jdk_42_method_3_code 2 none :: ws) ({ frames := 3, cells := 1, slots := 5, locals := 57 } : Room)) (fun a U => a = #[(.ref a1), (.ref a2)] ∧ Z.Warmed39 U.vm ∧ U.heap = h0) (fun _ _ _ _ _ => True) (fun _ U o U' => ∃ v L, o = .returned v ∧ own_cc5_Q Z a1 a2 cs k1 c0 c1 c2 c3 c4 h0 n0 v U'.heap L ∧ FrameEnd U o U' L ({ frames := 3, cells := 1, slots := 5, locals := 57 } : Room).cells ({ frames := 3, cells := 1, slots := 5, locals := 57 } : Room).slots) := by
  refine own_enter (C := ({ frames := 3, cells := 1, slots := 5, locals := 57 } : Room).cells) (S := ({ frames := 3, cells := 1, slots := 5, locals := 57 } : Room).slots) (plainFor_of_name own_pn1) ?_
  intro p e s m below meth c T0 X0 I e0
  obtain ⟨hx, hby, hml, hown, hnm, hret, hlk, hZ⟩ := I
  have N0 := Fr.nil n0
  have O0 := own_extr h0
  refine own_cast (own_ef3 m a1 a2) ?_
  show own_Go _ _ _ _ T0 (mkF m 0 #[.val (.ref a1), .val (.ref a2)] [])
  have K0 := Keep.refl h0 [a1]
  refine own_st (fun _ k => XS.aloadN X0.here hx rfl (hb hby own_d3_0) rfl rfl k) ?_
  refine own_st (fun _ k => XS.aloadN X0.here hx rfl (hb hby own_d3_1) rfl rfl k) ?_
  refine own_st (fun _ k => XS.iconst X0.here hx rfl (hb hby own_d3_2) k) ?_
  refine own_st (fun _ k => XS.aloadN X0.here hx rfl (hb hby own_d3_3) rfl rfl k) ?_
  refine own_st (own_len X0 hx hZ e0 V1 (g := (mkF m 4 #[.val (.ref a1), .val (.ref a2)] [(.ref a2), (.int 0), (.ref a2), (.ref a1)])) rfl rfl (hb hby own_d3_4)) ?_
  refine own_st (fun _ k => XS.aconstNull X0.here hx rfl (hb hby own_d3_5) k) ?_
  obtain ⟨v1, T1, L1, hQ1, X1, st1⟩ := own_callI X0 hx hZ (y := (⟨"java/lang/String", "<init>", "([CIILjava/lang/Void;)V"⟩ : MethodName)) rfl hown (own_w15 hw) (own_w16 hw) (own_w11 hw) (own_w18 hw) (by decide) (own_vd5 l hw [] a1 a2 (0 : Int32) (5 : Int32) cs k1 c0 c1 c2 c3 c4 h0 n0 Z0 rfl rfl hc0 hc1 hc2 hc3 hc4 Scs hcs g_a1 Ea Fv Fc V1) e0 (g := (mkF m 6 #[.val (.ref a1), .val (.ref a2)] [.null, (.int 5), (.int 0), (.ref a2), (.ref a1)])) rfl (by rw [hml]; rfl) (argsL := [(.ref a2), (.int 0), (.int 5), .null]) (rest := []) (lenOf own_pd3 rfl) rfl rfl (W := 0) (Nat.le_of_eq rfl) (hb hby own_d3_6) (by decide) (by decide) (by decide) (by decide)
  obtain ⟨rfl, N1, K1, b, kb, Gv, Gc, Vb⟩ := hQ1
  have N1' := Fr.app N0 N1
  refine own_st st1 ?_
  exact own_retV X1 hx hret hlk (hb hby own_d3_9) ⟨rfl, N1', K1, b, kb, Gv, Gc, Vb⟩ (by decide) (by decide)
theorem own_wS {Z : State} {a0 : Array Value} (hw : own_W Z a0) : ∀ a ∈ Bundle.stringAtoms, a.before a0 Z = true := by
  intro d hd
  simp only [Bundle.stringAtoms, List.mem_cons, List.not_mem_nil, or_false] at hd
  rcases hd with rfl | rfl | rfl | rfl | rfl | rfl | rfl
  · exact (own_w11 hw)
  · exact (own_w10 hw)
  · exact (own_w27 hw)
  · exact (own_w37 hw)
  · exact (own_w35 hw)
  · exact (own_w39 hw)
  · exact (own_w40 hw)
theorem own_lits {Z s : State} {own : String} {index : Nat} {vm0 vm : Vm} {a : Addr} (L : Lit (Z.setVm vm0) own index a) (q : (s.setVm vm0).WarmedH vm) : Lit (Z.setVm vm) own index a :=
  Lit.stays (s := s) (vm0 := vm0) (vm1 := vm) L q.wide
def own_vd0_Q (Z : State) (a1 a2 : Addr) (p1 p2 : Int32) (h0 : Heap) (n0 : Nat) (v : Option Value) (h : Heap) (vm : Vm) (L : List Loc) : Prop := v = none ∧ Fr n0 L ∧ Keep h0 h [a1] ∧ ∃ b k sa, Fld Z h a1 "java/lang/String" "value" "[B" (.ref b) ∧ Fld Z h a1 "java/lang/String" "coder" "B" (.int 0) ∧ Arv Z h b k .byte (0 : Int32) [] (.int 0) ∧ Lit (Z.setVm vm) "java/lang/String" 7 sa ∧ Fld Z h sa "java/lang/String" "value" "[B" (.ref b) ∧ Fld Z h sa "java/lang/String" "coder" "B" (.int 0)
set_option maxRecDepth 65536 in
set_option maxHeartbeats 40000000 in
theorem own_vd0 (l : Launch) {Z : State} {a0 : Array Value} (hw : own_W Z a0) (ws : List Jvm.Cond) (a1 a2 : Addr) (p1 p2 : Int32) (h0 : Heap) (n0 : Nat) (Z0 : n0 ≤ h0.size) (hp2 : p2 = 0) (hh : Jvm.Lit.constHeld Z "java/lang/String" 7) (hcw : Jvm.Lit.compactW.before a0 Z = true) (OZ : Ext Z.heap h0) (g_a1 : n0 ≤ a1) (Ea : Exa Z h0 a1 "java/lang/String") (Fv : Fld Z h0 a1 "java/lang/String" "value" "[B" .null) (Fc : Fld Z h0 a1 "java/lang/String" "coder" "B" (.int 0)) :
    MetFree l (⟨"java/lang/String", "<init>", "([CIILjava/lang/Void;)V"⟩ : MethodName) (head1 (Jvm.Cond.code (⟨"java/lang/String", "<init>", "([CIILjava/lang/Void;)V"⟩ : MethodName) jdk_42_method_149_code 6 none :: ws) ({ frames := 1, cells := 2, slots := 4, locals := 12 } : Room)) (fun a U => a = #[(.ref a1), (.ref a2), (.int p1), (.int p2), .null] ∧ Z.Warmed39 U.vm ∧ U.heap = h0 ∧ (fun vm => IB Z vm []) U.vm) (fun _ _ _ _ _ => True) (fun _ U o U' => ∃ v L, o = .returned v ∧ own_vd0_Q Z a1 a2 p1 p2 h0 n0 v U'.heap U'.vm L ∧ ReturnedEndW U o U' L ({ frames := 1, cells := 2, slots := 4, locals := 12 } : Room).cells ({ frames := 1, cells := 2, slots := 4, locals := 12 } : Room).slots) := by
  refine own_enterW (J := fun vm => IB Z vm []) (C := ({ frames := 1, cells := 2, slots := 4, locals := 12 } : Room).cells) (S := ({ frames := 1, cells := 2, slots := 4, locals := 12 } : Room).slots) (plainFor_of_name own_pn1) ?_
  intro p e s m below meth c T0 X0 I e0 es hJ hS
  obtain ⟨hx, hby, hml, hown, hnm, hret, hlk, hZ⟩ := I
  have N0 := Fr.nil n0
  have O0 := own_extr h0
  have hk0 : 0 ≤ h0.size := Nat.zero_le _
  refine own_cast (own_ef4n m a1 a2 p1 p2) ?_
  show own_Go _ _ _ _ T0 (mkF m 0 #[.val (.ref a1), .val (.ref a2), .val (.int p1), .val (.int p2), .val .null, .unset] [])
  rw [hp2]
  show own_Go _ _ _ _ T0 (mkF m 0 #[.val (.ref a1), .val (.ref a2), .val (.int p1), .val (.int 0), .val .null, .unset] [])
  have K0 := Keep.refl h0 [a1]
  refine own_st (fun _ k => XS.aloadN X0.here hx rfl (hb hby own_d4_0) rfl rfl k) ?_
  obtain ⟨T1, X1, e1, st1⟩ := initO X0 hx hZ hown (own_w19 hw) (own_w20 hw) (own_w21 hw) e0 (g := (mkF m 1 #[.val (.ref a1), .val (.ref a2), .val (.int p1), .val (.int 0), .val .null, .unset] [(.ref a1)])) rfl (by rw [hml]; rfl) rfl (hb hby own_d4_1) (by decide) (W := 0) (Nat.le_of_eq rfl) (by decide)
  refine own_st st1 ?_
  refine own_st (fun _ k => XS.iloadN X1.here hx rfl (hb hby own_d4_4) rfl k) ?_
  refine own_st (fun _ k => XS.ifNo X1.here hx rfl (hb hby own_d4_5) rfl ((if0 _ _).trans (teq (by decide : (0 : Int32) = (0 : Int32))).2) k) ?_
  refine own_st (fun _ k => XS.aloadN X1.here hx rfl (hb hby own_d4_8) rfl rfl k) ?_
  obtain ⟨sa2, T2, hp2, ks2, sb2, kb2, X2, e2, Et2, hS, hkx2, hZ, hown, Es2, Fc2, Fv2, Vs2, la2, lb2, hI2, hL2, st2⟩ := ldcSVL X1 hx hZ hown (own_w38 hw) (own_wS hw) e1 hS hk0 (Fr.nil _) (fun b cl q => by rw [es]; exact OZ.2 b cl q) hJ (by decide) hh hcw (vs := []) (z := (0 : Int32)) (by decide) (by decide) (by decide) (g := (mkF m 9 #[.val (.ref a1), .val (.ref a2), .val (.int p1), .val (.int 0), .val .null, .unset] [(.ref a1)])) rfl (hb hby own_d4_9) (n := 0) (by decide) (by decide) (by decide) (by decide)
  have hk2 := Nat.le_trans hk0 Et2.1
  have K2x := Keep.ext K0 Et2
  have Ex_a1_2 := Ea.ext Et2
  have F_value_a1_2 := Fv.ext Et2
  have F_coder_a1_2 := Fc.ext Et2
  refine own_st st2 ?_
  have na : sa2 ≠ a1 := Fld.ne Fv2 F_value_a1_2 (by simp)
  have nb : a1 ≠ sb2 := Exa.neArv Ex_a1_2 Vs2 (own_w10 hw)
  have hL0 : Lit (Z.setVm T2.vm) "java/lang/String" 7 sa2 := hL2
  obtain ⟨T3, X3, e3, st3⟩ := getF X2 hx hZ hown (host := "") (Or.inl (own_w36 hw)) Via.refl e2 Fv2 (g := (mkF m 11 #[.val (.ref a1), .val (.ref a2), .val (.int p1), .val (.int 0), .val .null, .unset] [(.ref sa2), (.ref a1)])) rfl rfl (hb hby own_d4_11)
  refine own_st st3 ?_
  obtain ⟨T4, hp4, X4, e4, W4, st4⟩ := putF X3 hx hZ hown (host := "") (Or.inl (own_w36 hw)) Via.refl e3 F_value_a1_2 Ex_a1_2 (Or.inr ⟨(own_w37 hw), rfl, hnm⟩) (own_w10 hw) (ty := (.array .byte)) (by decide) rfl rfl (g := (mkF m 14 #[.val (.ref a1), .val (.ref a2), .val (.int p1), .val (.int 0), .val .null, .unset] [(.ref sb2), (.ref a1)])) rfl rfl (hb hby own_d4_14)
  have hk4 := Nat.le_trans hkx2 (Keep.of_wr W4).1
  have K4 := Keep.wr K2x W4 (Or.inl (List.mem_of_getElem? (i := 0) rfl))
  have V_sb2_4 := Vs2.other W4 (Ne.symm nb)
  have Ex_a1_4 := Ex_a1_2.wr W4
  have F_coder_a1_4 := F_coder_a1_2.other W4 (Or.inr (slot_ne (Or.inr (own_w35 hw)) (Or.inr (own_w37 hw)) (by decide) (t := .byte) (t' := (.array .byte)) (by decide) (by decide)))
  have F_value_sa2_4 := Fv2.other W4 (Or.inl na)
  have F_coder_sa2_4 := Fc2.other W4 (Or.inl na)
  have F_value_a1_4 := F_value_a1_2.same W4
  have N4 := Fr.snoc X4 N0 g_a1
  refine own_st st4 ?_
  show own_Go _ _ _ _ T4 (mkF m 17 #[.val (.ref a1), .val (.ref a2), .val (.int p1), .val (.int 0), .val .null, .unset] [])
  refine own_st (fun _ k => XS.aloadN X4.here hx rfl (hb hby own_d4_17) rfl rfl k) ?_
  refine own_st (ldcAgain X4 hx hZ hown (own_w38 hw) hL2 (g := (mkF m 18 #[.val (.ref a1), .val (.ref a2), .val (.int p1), .val (.int 0), .val .null, .unset] [(.ref a1)])) rfl (hb hby own_d4_18)) ?_
  obtain ⟨T5, X5, e5, st5⟩ := getF X4 hx hZ hown (host := "") (Or.inl (own_w34 hw)) Via.refl e4 F_coder_sa2_4 (g := (mkF m 20 #[.val (.ref a1), .val (.ref a2), .val (.int p1), .val (.int 0), .val .null, .unset] [(.ref sa2), (.ref a1)])) rfl rfl (hb hby own_d4_20)
  refine own_st st5 ?_
  obtain ⟨T6, hp6, X6, e6, W6, st6⟩ := putFN X5 hx hZ hown (own_w34 hw) Via.refl e5 F_coder_a1_4 Ex_a1_4 (Or.inr ⟨(own_w35 hw), rfl, hnm⟩) (own_w10 hw) (ty := .byte) (v' := (.int 0)) (by decide) rfl (by decide) (g := (mkF m 23 #[.val (.ref a1), .val (.ref a2), .val (.int p1), .val (.int 0), .val .null, .unset] [(.int 0), (.ref a1)])) rfl rfl (hb hby own_d4_23)
  have hk6 := Nat.le_trans hk4 (Keep.of_wr W6).1
  have K6 := Keep.wr K4 W6 (Or.inl (List.mem_of_getElem? (i := 0) rfl))
  have V_sb2_6 := V_sb2_4.other W6 (Ne.symm nb)
  have Ex_a1_6 := Ex_a1_4.wr W6
  have F_value_a1_6 := F_value_a1_4.other W6 (Or.inr (slot_ne (Or.inr (own_w37 hw)) (Or.inr (own_w35 hw)) (by decide) (t := (.array .byte)) (t' := .byte) (by decide) (by decide)))
  have F_value_sa2_6 := F_value_sa2_4.other W6 (Or.inl na)
  have F_coder_sa2_6 := F_coder_sa2_4.other W6 (Or.inl na)
  have F_coder_a1_6 := F_coder_a1_4.same W6
  have N6 := Fr.snoc X6 N4 g_a1
  refine own_st st6 ?_
  exact own_retVW X6 hS (by rw [e6]; exact hk6) hx hret hlk (hb hby own_d4_26) ⟨rfl, N6, by rw [e6]; exact K6, _, _, sa2, by rw [e6]; exact F_value_a1_6, by rw [e6]; exact F_coder_a1_6, by rw [e6]; exact V_sb2_6, own_lits (s := s) hL0 X6.warmed, by rw [e6]; exact F_value_sa2_6, by rw [e6]; exact F_coder_sa2_6⟩ (by decide) (by decide)
def own_vd1x_Q (Z : State) (a1 a2 sa sb : Addr) (p1 p2 : Int32) (ks : ClassId) (h0 : Heap) (n0 : Nat) (v : Option Value) (h : Heap) (vm : Vm) (L : List Loc) : Prop := v = none ∧ Fr n0 L ∧ Keep h0 h [a1] ∧ ∃ b k, Fld Z h a1 "java/lang/String" "value" "[B" (.ref b) ∧ Fld Z h a1 "java/lang/String" "coder" "B" (.int 0) ∧ Arv Z h b k .byte (0 : Int32) [] (.int 0)
set_option maxRecDepth 65536 in
set_option maxHeartbeats 40000000 in
theorem own_vd1x (l : Launch) {Z : State} {a0 : Array Value} (hw : own_W Z a0) (ws : List Jvm.Cond) (a1 a2 sa sb : Addr) (p1 p2 : Int32) (ks : ClassId) (h0 : Heap) (n0 : Nat) (Z0 : n0 ≤ h0.size) (hp2 : p2 = 0) (g_a1 : n0 ≤ a1) (Ea : Exa Z h0 a1 "java/lang/String") (Fv : Fld Z h0 a1 "java/lang/String" "value" "[B" .null) (Fc : Fld Z h0 a1 "java/lang/String" "coder" "B" (.int 0)) (Fsv : Fld Z h0 sa "java/lang/String" "value" "[B" (.ref sb)) (Fsc : Fld Z h0 sa "java/lang/String" "coder" "B" (.int 0)) (Vsb : Arv Z h0 sb ks .byte (0 : Int32) [] (.int 0)) :
    MetFree l (⟨"java/lang/String", "<init>", "([CIILjava/lang/Void;)V"⟩ : MethodName) (head1 (Jvm.Cond.code (⟨"java/lang/String", "<init>", "([CIILjava/lang/Void;)V"⟩ : MethodName) jdk_42_method_149_code 6 none :: ws) ({ frames := 1, cells := 0, slots := 0, locals := 12 } : Room)) (fun a U => a = #[(.ref a1), (.ref a2), (.int p1), (.int p2), .null] ∧ Z.Warmed39 U.vm ∧ U.heap = h0 ∧ (fun vm => Lit (Z.setVm vm) "java/lang/String" 7 sa) U.vm) (fun _ _ _ _ _ => True) (fun _ U o U' => ∃ v L, o = .returned v ∧ own_vd1x_Q Z a1 a2 sa sb p1 p2 ks h0 n0 v U'.heap U'.vm L ∧ ReturnedEndW U o U' L ({ frames := 1, cells := 0, slots := 0, locals := 12 } : Room).cells ({ frames := 1, cells := 0, slots := 0, locals := 12 } : Room).slots) := by
  refine own_enterW (J := fun vm => Lit (Z.setVm vm) "java/lang/String" 7 sa) (C := ({ frames := 1, cells := 0, slots := 0, locals := 12 } : Room).cells) (S := ({ frames := 1, cells := 0, slots := 0, locals := 12 } : Room).slots) (plainFor_of_name own_pn1) ?_
  intro p e s m below meth c T0 X0 I e0 es hJ hS
  obtain ⟨hx, hby, hml, hown, hnm, hret, hlk, hZ⟩ := I
  have N0 := Fr.nil n0
  have O0 := own_extr h0
  have hk0 : 0 ≤ h0.size := Nat.zero_le _
  refine own_cast (own_ef4n m a1 a2 p1 p2) ?_
  show own_Go _ _ _ _ T0 (mkF m 0 #[.val (.ref a1), .val (.ref a2), .val (.int p1), .val (.int p2), .val .null, .unset] [])
  rw [hp2]
  show own_Go _ _ _ _ T0 (mkF m 0 #[.val (.ref a1), .val (.ref a2), .val (.int p1), .val (.int 0), .val .null, .unset] [])
  have K0 := Keep.refl h0 [a1]
  have na : sa ≠ a1 := Fld.ne Fsv Fv (by simp)
  have nb : a1 ≠ sb := Exa.neArv Ea Vsb (own_w10 hw)
  refine own_st (fun _ k => XS.aloadN X0.here hx rfl (hb hby own_d4_0) rfl rfl k) ?_
  obtain ⟨T1, X1, e1, st1⟩ := initO X0 hx hZ hown (own_w19 hw) (own_w20 hw) (own_w21 hw) e0 (g := (mkF m 1 #[.val (.ref a1), .val (.ref a2), .val (.int p1), .val (.int 0), .val .null, .unset] [(.ref a1)])) rfl (by rw [hml]; rfl) rfl (hb hby own_d4_1) (by decide) (W := 0) (Nat.le_of_eq rfl) (by decide)
  refine own_st st1 ?_
  refine own_st (fun _ k => XS.iloadN X1.here hx rfl (hb hby own_d4_4) rfl k) ?_
  refine own_st (fun _ k => XS.ifNo X1.here hx rfl (hb hby own_d4_5) rfl ((if0 _ _).trans (teq (by decide : (0 : Int32) = (0 : Int32))).2) k) ?_
  refine own_st (fun _ k => XS.aloadN X1.here hx rfl (hb hby own_d4_8) rfl rfl k) ?_
  refine own_st (ldcAgain X1 hx hZ hown (own_w38 hw) hJ (g := (mkF m 9 #[.val (.ref a1), .val (.ref a2), .val (.int p1), .val (.int 0), .val .null, .unset] [(.ref a1)])) rfl (hb hby own_d4_9)) ?_
  obtain ⟨T2, X2, e2, st2⟩ := getF X1 hx hZ hown (host := "") (Or.inl (own_w36 hw)) Via.refl e1 Fsv (g := (mkF m 11 #[.val (.ref a1), .val (.ref a2), .val (.int p1), .val (.int 0), .val .null, .unset] [(.ref sa), (.ref a1)])) rfl rfl (hb hby own_d4_11)
  refine own_st st2 ?_
  obtain ⟨T3, hp3, X3, e3, W3, st3⟩ := putF X2 hx hZ hown (host := "") (Or.inl (own_w36 hw)) Via.refl e2 Fv Ea (Or.inr ⟨(own_w37 hw), rfl, hnm⟩) (own_w10 hw) (ty := (.array .byte)) (by decide) rfl rfl (g := (mkF m 14 #[.val (.ref a1), .val (.ref a2), .val (.int p1), .val (.int 0), .val .null, .unset] [(.ref sb), (.ref a1)])) rfl rfl (hb hby own_d4_14)
  have hk3 := Nat.le_trans hk0 (Keep.of_wr W3).1
  have K3 := Keep.wr K0 W3 (Or.inl (List.mem_of_getElem? (i := 0) rfl))
  have V_sb_3 := Vsb.other W3 (Ne.symm nb)
  have Ex_a1_3 := Ea.wr W3
  have F_coder_a1_3 := Fc.other W3 (Or.inr (slot_ne (Or.inr (own_w35 hw)) (Or.inr (own_w37 hw)) (by decide) (t := .byte) (t' := (.array .byte)) (by decide) (by decide)))
  have F_value_sa_3 := Fsv.other W3 (Or.inl na)
  have F_coder_sa_3 := Fsc.other W3 (Or.inl na)
  have F_value_a1_3 := Fv.same W3
  have N3 := Fr.snoc X3 N0 g_a1
  refine own_st st3 ?_
  show own_Go _ _ _ _ T3 (mkF m 17 #[.val (.ref a1), .val (.ref a2), .val (.int p1), .val (.int 0), .val .null, .unset] [])
  refine own_st (fun _ k => XS.aloadN X3.here hx rfl (hb hby own_d4_17) rfl rfl k) ?_
  refine own_st (ldcAgain X3 hx hZ hown (own_w38 hw) hJ (g := (mkF m 18 #[.val (.ref a1), .val (.ref a2), .val (.int p1), .val (.int 0), .val .null, .unset] [(.ref a1)])) rfl (hb hby own_d4_18)) ?_
  obtain ⟨T4, X4, e4, st4⟩ := getF X3 hx hZ hown (host := "") (Or.inl (own_w34 hw)) Via.refl e3 F_coder_sa_3 (g := (mkF m 20 #[.val (.ref a1), .val (.ref a2), .val (.int p1), .val (.int 0), .val .null, .unset] [(.ref sa), (.ref a1)])) rfl rfl (hb hby own_d4_20)
  refine own_st st4 ?_
  obtain ⟨T5, hp5, X5, e5, W5, st5⟩ := putFN X4 hx hZ hown (own_w34 hw) Via.refl e4 F_coder_a1_3 Ex_a1_3 (Or.inr ⟨(own_w35 hw), rfl, hnm⟩) (own_w10 hw) (ty := .byte) (v' := (.int 0)) (by decide) rfl (by decide) (g := (mkF m 23 #[.val (.ref a1), .val (.ref a2), .val (.int p1), .val (.int 0), .val .null, .unset] [(.int 0), (.ref a1)])) rfl rfl (hb hby own_d4_23)
  have hk5 := Nat.le_trans hk3 (Keep.of_wr W5).1
  have K5 := Keep.wr K3 W5 (Or.inl (List.mem_of_getElem? (i := 0) rfl))
  have V_sb_5 := V_sb_3.other W5 (Ne.symm nb)
  have Ex_a1_5 := Ex_a1_3.wr W5
  have F_value_a1_5 := F_value_a1_3.other W5 (Or.inr (slot_ne (Or.inr (own_w37 hw)) (Or.inr (own_w35 hw)) (by decide) (t := (.array .byte)) (t' := .byte) (by decide) (by decide)))
  have F_value_sa_5 := F_value_sa_3.other W5 (Or.inl na)
  have F_coder_sa_5 := F_coder_sa_3.other W5 (Or.inl na)
  have F_coder_a1_5 := F_coder_a1_3.same W5
  have N5 := Fr.snoc X5 N3 g_a1
  refine own_st st5 ?_
  exact own_retVW X5 hS (by rw [e5]; exact hk5) hx hret hlk (hb hby own_d4_26) ⟨rfl, N5, by rw [e5]; exact K5, _, _, by rw [e5]; exact F_value_a1_5, by rw [e5]; exact F_coder_a1_5, by rw [e5]; exact V_sb_5⟩ (by decide) (by decide)
def own_cc0_Q (Z : State) (a1 a2 : Addr) (k1 : ClassId) (h0 : Heap) (n0 : Nat) (v : Option Value) (h : Heap) (vm : Vm) (L : List Loc) : Prop := v = none ∧ Fr n0 L ∧ Keep h0 h [a1] ∧ ∃ b k sa, Fld Z h a1 "java/lang/String" "value" "[B" (.ref b) ∧ Fld Z h a1 "java/lang/String" "coder" "B" (.int 0) ∧ Arv Z h b k .byte (0 : Int32) [] (.int 0) ∧ Lit (Z.setVm vm) "java/lang/String" 7 sa ∧ Fld Z h sa "java/lang/String" "value" "[B" (.ref b) ∧ Fld Z h sa "java/lang/String" "coder" "B" (.int 0)
set_option maxRecDepth 65536 in
set_option maxHeartbeats 40000000 in
theorem own_cc0 (l : Launch) {Z : State} {a0 : Array Value} (hw : own_W Z a0) (ws : List Jvm.Cond) (a1 a2 : Addr) (k1 : ClassId) (h0 : Heap) (n0 : Nat) (Z0 : n0 ≤ h0.size) (hh : Jvm.Lit.constHeld Z "java/lang/String" 7) (hcw : Jvm.Lit.compactW.before a0 Z = true) (OZ : Ext Z.heap h0) (g_a1 : n0 ≤ a1) (Ea : Exa Z h0 a1 "java/lang/String") (Fv : Fld Z h0 a1 "java/lang/String" "value" "[B" .null) (Fc : Fld Z h0 a1 "java/lang/String" "coder" "B" (.int 0)) (V1 : Arv Z h0 a2 k1 .char (0 : Int32) [] (.int 0)) :
    MetFree l (⟨"java/lang/String", "<init>", "([C)V"⟩ : MethodName) (head1 (Jvm.Cond.code (⟨"java/lang/String", "<init>", "([C)V"⟩ : MethodName) jdk_42_method_3_code 2 none :: ws) ({ frames := 2, cells := 2, slots := 4, locals := 29 } : Room)) (fun a U => a = #[(.ref a1), (.ref a2)] ∧ Z.Warmed39 U.vm ∧ U.heap = h0 ∧ (fun vm => IB Z vm []) U.vm) (fun _ _ _ _ _ => True) (fun _ U o U' => ∃ v L, o = .returned v ∧ own_cc0_Q Z a1 a2 k1 h0 n0 v U'.heap U'.vm L ∧ ReturnedEndW U o U' L ({ frames := 2, cells := 2, slots := 4, locals := 29 } : Room).cells ({ frames := 2, cells := 2, slots := 4, locals := 29 } : Room).slots) := by
  refine own_enterW (J := fun vm => IB Z vm []) (C := ({ frames := 2, cells := 2, slots := 4, locals := 29 } : Room).cells) (S := ({ frames := 2, cells := 2, slots := 4, locals := 29 } : Room).slots) (plainFor_of_name own_pn1) ?_
  intro p e s m below meth c T0 X0 I e0 es hJ hS
  obtain ⟨hx, hby, hml, hown, hnm, hret, hlk, hZ⟩ := I
  have N0 := Fr.nil n0
  have O0 := own_extr h0
  have hk0 : 0 ≤ h0.size := Nat.zero_le _
  refine own_cast (own_ef3 m a1 a2) ?_
  show own_Go _ _ _ _ T0 (mkF m 0 #[.val (.ref a1), .val (.ref a2)] [])
  have K0 := Keep.refl h0 [a1]
  refine own_st (fun _ k => XS.aloadN X0.here hx rfl (hb hby own_d3_0) rfl rfl k) ?_
  refine own_st (fun _ k => XS.aloadN X0.here hx rfl (hb hby own_d3_1) rfl rfl k) ?_
  refine own_st (fun _ k => XS.iconst X0.here hx rfl (hb hby own_d3_2) k) ?_
  refine own_st (fun _ k => XS.aloadN X0.here hx rfl (hb hby own_d3_3) rfl rfl k) ?_
  refine own_st (own_len X0 hx hZ e0 V1 (g := (mkF m 4 #[.val (.ref a1), .val (.ref a2)] [(.ref a2), (.int 0), (.ref a2), (.ref a1)])) rfl rfl (hb hby own_d3_4)) ?_
  refine own_st (fun _ k => XS.aconstNull X0.here hx rfl (hb hby own_d3_5) k) ?_
  obtain ⟨v1, T1, L1, hQ1, X1, hS, hZ, hown, st1⟩ := own_callIW (J := fun vm => IB Z vm []) X0 hS (by rw [e0]; exact hk0) hx hZ (y := (⟨"java/lang/String", "<init>", "([CIILjava/lang/Void;)V"⟩ : MethodName)) rfl hown (own_w15 hw) (own_w16 hw) (own_w11 hw) (own_w18 hw) (by decide) (own_vd0 l hw [] a1 a2 (0 : Int32) (0 : Int32) h0 n0 Z0 rfl hh hcw OZ g_a1 Ea Fv Fc) (fun vm q => own_ibw hJ q) e0 (g := (mkF m 6 #[.val (.ref a1), .val (.ref a2)] [.null, (.int 0), (.int 0), (.ref a2), (.ref a1)])) rfl (by rw [hml]; rfl) (argsL := [(.ref a2), (.int 0), (.int 0), .null]) (rest := []) (lenOf own_pd3 rfl) rfl rfl (W := 0) (Nat.le_of_eq rfl) (hb hby own_d3_6) (by decide) (by decide) (by decide) (by decide)
  obtain ⟨rfl, N1, K1, b, kb, sa, Gv, Gc, Vb, hL, Gsv, Gsc⟩ := hQ1
  have hk1 : T1.heap.size ≤ T1.heap.size := Nat.le_refl _
  have N1' := Fr.app N0 N1
  refine own_st st1 ?_
  exact own_retVW X1 hS hk1 hx hret hlk (hb hby own_d3_9) ⟨rfl, N1', K1, b, kb, sa, Gv, Gc, Vb, own_lits (s := s) hL X1.warmed, Gsv, Gsc⟩ (by decide) (by decide)
def own_cc1x_Q (Z : State) (a1 a2 sa sb : Addr) (k1 ks : ClassId) (h0 : Heap) (n0 : Nat) (v : Option Value) (h : Heap) (vm : Vm) (L : List Loc) : Prop := v = none ∧ Fr n0 L ∧ Keep h0 h [a1] ∧ ∃ b k, Fld Z h a1 "java/lang/String" "value" "[B" (.ref b) ∧ Fld Z h a1 "java/lang/String" "coder" "B" (.int 0) ∧ Arv Z h b k .byte (0 : Int32) [] (.int 0)
set_option maxRecDepth 65536 in
set_option maxHeartbeats 40000000 in
theorem own_cc1x (l : Launch) {Z : State} {a0 : Array Value} (hw : own_W Z a0) (ws : List Jvm.Cond) (a1 a2 sa sb : Addr) (k1 ks : ClassId) (h0 : Heap) (n0 : Nat) (Z0 : n0 ≤ h0.size) (g_a1 : n0 ≤ a1) (Ea : Exa Z h0 a1 "java/lang/String") (Fv : Fld Z h0 a1 "java/lang/String" "value" "[B" .null) (Fc : Fld Z h0 a1 "java/lang/String" "coder" "B" (.int 0)) (Fsv : Fld Z h0 sa "java/lang/String" "value" "[B" (.ref sb)) (Fsc : Fld Z h0 sa "java/lang/String" "coder" "B" (.int 0)) (Vsb : Arv Z h0 sb ks .byte (0 : Int32) [] (.int 0)) (V1 : Arv Z h0 a2 k1 .char (0 : Int32) [] (.int 0)) :
    MetFree l (⟨"java/lang/String", "<init>", "([C)V"⟩ : MethodName) (head1 (Jvm.Cond.code (⟨"java/lang/String", "<init>", "([C)V"⟩ : MethodName) jdk_42_method_3_code 2 none :: ws) ({ frames := 2, cells := 0, slots := 0, locals := 29 } : Room)) (fun a U => a = #[(.ref a1), (.ref a2)] ∧ Z.Warmed39 U.vm ∧ U.heap = h0 ∧ (fun vm => Lit (Z.setVm vm) "java/lang/String" 7 sa) U.vm) (fun _ _ _ _ _ => True) (fun _ U o U' => ∃ v L, o = .returned v ∧ own_cc1x_Q Z a1 a2 sa sb k1 ks h0 n0 v U'.heap U'.vm L ∧ ReturnedEndW U o U' L ({ frames := 2, cells := 0, slots := 0, locals := 29 } : Room).cells ({ frames := 2, cells := 0, slots := 0, locals := 29 } : Room).slots) := by
  refine own_enterW (J := fun vm => Lit (Z.setVm vm) "java/lang/String" 7 sa) (C := ({ frames := 2, cells := 0, slots := 0, locals := 29 } : Room).cells) (S := ({ frames := 2, cells := 0, slots := 0, locals := 29 } : Room).slots) (plainFor_of_name own_pn1) ?_
  intro p e s m below meth c T0 X0 I e0 es hJ hS
  obtain ⟨hx, hby, hml, hown, hnm, hret, hlk, hZ⟩ := I
  have N0 := Fr.nil n0
  have O0 := own_extr h0
  have hk0 : 0 ≤ h0.size := Nat.zero_le _
  refine own_cast (own_ef3 m a1 a2) ?_
  show own_Go _ _ _ _ T0 (mkF m 0 #[.val (.ref a1), .val (.ref a2)] [])
  have K0 := Keep.refl h0 [a1]
  refine own_st (fun _ k => XS.aloadN X0.here hx rfl (hb hby own_d3_0) rfl rfl k) ?_
  refine own_st (fun _ k => XS.aloadN X0.here hx rfl (hb hby own_d3_1) rfl rfl k) ?_
  refine own_st (fun _ k => XS.iconst X0.here hx rfl (hb hby own_d3_2) k) ?_
  refine own_st (fun _ k => XS.aloadN X0.here hx rfl (hb hby own_d3_3) rfl rfl k) ?_
  refine own_st (own_len X0 hx hZ e0 V1 (g := (mkF m 4 #[.val (.ref a1), .val (.ref a2)] [(.ref a2), (.int 0), (.ref a2), (.ref a1)])) rfl rfl (hb hby own_d3_4)) ?_
  refine own_st (fun _ k => XS.aconstNull X0.here hx rfl (hb hby own_d3_5) k) ?_
  obtain ⟨v1, T1, L1, hQ1, X1, hS, hZ, hown, st1⟩ := own_callIW (J := fun vm => Lit (Z.setVm vm) "java/lang/String" 7 sa) X0 hS (by rw [e0]; exact hk0) hx hZ (y := (⟨"java/lang/String", "<init>", "([CIILjava/lang/Void;)V"⟩ : MethodName)) rfl hown (own_w15 hw) (own_w16 hw) (own_w11 hw) (own_w18 hw) (by decide) (own_vd1x l hw [] a1 a2 sa sb (0 : Int32) (0 : Int32) ks h0 n0 Z0 rfl g_a1 Ea Fv Fc Fsv Fsc Vsb) (fun vm q => own_lits (s := s) hJ q) e0 (g := (mkF m 6 #[.val (.ref a1), .val (.ref a2)] [.null, (.int 0), (.int 0), (.ref a2), (.ref a1)])) rfl (by rw [hml]; rfl) (argsL := [(.ref a2), (.int 0), (.int 0), .null]) (rest := []) (lenOf own_pd3 rfl) rfl rfl (W := 0) (Nat.le_of_eq rfl) (hb hby own_d3_6) (by decide) (by decide) (by decide) (by decide)
  obtain ⟨rfl, N1, K1, b, kb, Gv, Gc, Vb⟩ := hQ1
  have hk1 : T1.heap.size ≤ T1.heap.size := Nat.le_refl _
  have N1' := Fr.app N0 N1
  refine own_st st1 ?_
  exact own_retVW X1 hS hk1 hx hret hlk (hb hby own_d3_9) ⟨rfl, N1', K1, b, kb, Gv, Gc, Vb⟩ (by decide) (by decide)
def own_pf1_Q (Z : State) (a1 : Addr) (p1 cs z : Int32) (ka : ClassId) (vs : List Value) (c0 : Int32) (h0 : Heap) (n0 : Nat) (v : Option Value) (h : Heap) (L : List Loc) : Prop := ∃ b bv k, v = some (.ref b) ∧ Fr n0 L ∧ Ext h0 h ∧ h0.size ≤ b ∧ Exa Z h b "java/lang/String" ∧ Fld Z h b "java/lang/String" "value" "[B" (.ref bv) ∧ Fld Z h b "java/lang/String" "coder" "B" (.int 0) ∧ Arv Z h bv k .byte (1 : Int32) [(.int (nar .byte (c0.toInt8.toInt32)))] (.int 0)
set_option maxRecDepth 65536 in
set_option maxHeartbeats 40000000 in
theorem own_pf1 (l : Launch) {Z : State} {a0 : Array Value} (hw : own_W Z a0) (ws : List Jvm.Cond) (a1 : Addr) (p1 cs z : Int32) (ka : ClassId) (vs : List Value) (c0 : Int32) (h0 : Heap) (n0 : Nat) (Z0 : n0 ≤ h0.size) (hp1 : p1 = (1 : Int32)) (hc0 : own_ch c0) (Scs : Sta Z h0 "java/lang/String" "COMPACT_STRINGS" "Z" (.int cs)) (hcs : ¬ cs = 0) (V1 : Arv Z h0 a1 ka .char z vs (.int 0)) (hj0 : ¬ (0 : Int32) < 0 ∧ (0 : Int32) < z) (hv0 : vs.getD ((0 : Int32)).toNatClampNeg (.int 0) = .int c0) :
    MetFree l (⟨"com/example/isoscope/isoscope/TokenIsPinLaw", "prefix", "([CI)Ljava/lang/String;"⟩ : MethodName) (head1 (Jvm.Cond.code (⟨"com/example/isoscope/isoscope/TokenIsPinLaw", "prefix", "([CI)Ljava/lang/String;"⟩ : MethodName) method_5_code 2 (some (.object "java/lang/String")) :: ws) ({ frames := 4, cells := 4, slots := 16, locals := 71 } : Room)) (fun a U => a = #[(.ref a1), (.int p1)] ∧ Z.Warmed39 U.vm ∧ U.heap = h0) (fun _ _ _ _ _ => True) (fun _ U o U' => ∃ v L, o = .returned v ∧ own_pf1_Q Z a1 p1 cs z ka vs c0 h0 n0 v U'.heap L ∧ FrameEnd U o U' L ({ frames := 4, cells := 4, slots := 16, locals := 71 } : Room).cells ({ frames := 4, cells := 4, slots := 16, locals := 71 } : Room).slots) := by
  refine own_enter (C := ({ frames := 4, cells := 4, slots := 16, locals := 71 } : Room).cells) (S := ({ frames := 4, cells := 4, slots := 16, locals := 71 } : Room).slots) (plainFor_of_name own_pn2) ?_
  intro p e s m below meth c T0 X0 I e0
  obtain ⟨hx, hby, hml, hown, hnm, hret, hlk, hZ⟩ := I
  have N0 := Fr.nil n0
  have O0 := own_extr h0
  refine own_cast (own_ef2 m a1 p1) ?_
  show own_Go _ _ _ _ T0 (mkF m 0 #[.val (.ref a1), .val (.int p1)] [])
  rw [hp1]
  show own_Go _ _ _ _ T0 (mkF m 0 #[.val (.ref a1), .val (.int 1)] [])
  refine own_st (fun _ k => XS.iloadN X0.here hx rfl (hb hby own_d2_0) rfl k) ?_
  refine own_st (fun _ k => XS.ifYes X0.here hx rfl (pc0 := 1) (pc' := 15) rfl (hb hby own_d2_1) rfl ((if0 _ _).trans (tlt (by decide : (0 : Int32) < (1 : Int32))).2.2.1) (by decide) (by decide) k) ?_
  refine own_st (fun _ k => XS.iloadN X0.here hx rfl (hb hby own_d2_15) rfl k) ?_
  refine own_st (fun _ k => XS.iconst X0.here hx rfl (hb hby own_d2_16) k) ?_
  refine own_st (fun _ k => XS.icmpNo X0.here hx rfl (hb hby own_d2_17) rfl (teq (by decide : (1 : Int32) = (1 : Int32))).2 k) ?_
  obtain ⟨T1, hp1, X1, e1, Et1, A1, D1, -, st1⟩ := newO X0 hx hZ hown (own_w9 hw) (own_w10 hw) (own_w11 hw) e0 (g := (mkF m 20 #[.val (.ref a1), .val (.int 1)] [])) rfl (hb hby own_d2_20) (by decide) (by decide)
  obtain ⟨b1, g1⟩ : ∃ z, z = h0.size := ⟨_, rfl⟩
  rw [← g1] at A1 D1 st1
  have s_b1 : h0.size ≤ b1 := Nat.le_trans O0.1 (Nat.le_of_eq g1.symm)
  have g_b1 : n0 ≤ b1 := Nat.le_trans Z0 s_b1
  have O1 := own_extt O0 Et1
  have F_coder_b1 : Fld Z hp1 b1 "java/lang/String" "coder" "B" (.int 0) := D1 (Or.inr (own_w35 hw)) (ty := .byte) (by decide)
  have F_value_b1 : Fld Z hp1 b1 "java/lang/String" "value" "[B" .null := D1 (Or.inr (own_w37 hw)) (ty := (.array .byte)) (by decide)
  refine own_st st1 ?_
  refine own_st (fun _ k => XS.dup X1.here hx rfl (hb hby own_d2_23) rfl rfl k) ?_
  refine own_st (fun _ k => XS.iconst X1.here hx rfl (hb hby own_d2_24) k) ?_
  show own_Go _ _ _ _ T1 (mkF m 25 #[.val (.ref a1), .val (.int 1)] [(.int 1), (.ref b1), (.ref b1)])
  obtain ⟨T2, hp2, kk2, X2, e2, Et2, A2, st2⟩ := newP X1 hx hZ (aty := .char) (own_w0 hw) e1 (g := (mkF m 25 #[.val (.ref a1), .val (.int 1)] [(.int 1), (.ref b1), (.ref b1)])) rfl (hb hby own_d2_25) rfl (by decide) (cap := 1) (by decide) (by decide) (by decide) (by decide)
  obtain ⟨b2, g2⟩ : ∃ z, z = hp1.size := ⟨_, rfl⟩
  rw [← g2] at A2 st2
  have s_b2 : h0.size ≤ b2 := Nat.le_trans O1.1 (Nat.le_of_eq g2.symm)
  have g_b2 : n0 ≤ b2 := Nat.le_trans Z0 s_b2
  have lt_b1_b2 : b1 < b2 := Nat.lt_of_lt_of_le A1.lt (Nat.le_of_eq g2.symm)
  have O2 := own_extt O1 Et2
  have Ex_b1_2 := A1.ext Et2
  have F_coder_b1_2 := F_coder_b1.ext Et2
  have F_value_b1_2 := F_value_b1.ext Et2
  have Va2 : Arv Z hp2 b2 kk2 .char (1 : Int32) [(.int 0)] (.int 0) := (Arv.new A2 (by decide)).pad (pad_rep [] (.int 0) 1)
  refine own_st st2 ?_
  refine own_st (fun _ k => XS.dup X2.here hx rfl (hb hby own_d2_27) rfl rfl k) ?_
  refine own_st (fun _ k => XS.iconst X2.here hx rfl (hb hby own_d2_28) k) ?_
  refine own_st (fun _ k => XS.aloadN X2.here hx rfl (hb hby own_d2_29) rfl rfl k) ?_
  refine own_st (fun _ k => XS.iconst X2.here hx rfl (hb hby own_d2_30) k) ?_
  refine own_st (own_ldC X2 hx hZ e2 (V1.ext O2) (j := (0 : Int32)) hj0 (v := (.int c0)) hv0 (g := (mkF m 31 #[.val (.ref a1), .val (.int 1)] [(.int 0), (.ref a1), (.int 0), (.ref b2), (.ref b2), (.ref b1), (.ref b1)])) rfl rfl (hb hby own_d2_31)) ?_
  obtain ⟨T3, hp3, X3, e3, W3, Va3, st3⟩ := own_stC X2 hx hZ e2 Va2 (by decide) 0 (by decide) (Nat.le_of_ble_eq_true rfl) (g := (mkF m 32 #[.val (.ref a1), .val (.int 1)] [(.int c0), (.int 0), (.ref b2), (.ref b2), (.ref b1), (.ref b1)])) rfl rfl (hb hby own_d2_32)
  have O3 := own_extw O2 W3 s_b2
  have Ex_b1_3 := Ex_b1_2.wr W3
  have F_coder_b1_3 := F_coder_b1_2.other W3 (Or.inl (Nat.ne_of_lt lt_b1_b2))
  have F_value_b1_3 := F_value_b1_2.other W3 (Or.inl (Nat.ne_of_lt lt_b1_b2))
  have Va3 : Arv Z hp3 b2 kk2 .char (1 : Int32) [(.int (nar .char c0))] (.int 0) := Va3
  have N3 := Fr.snoc X3 N0 g_b2
  refine own_st st3 ?_
  rw [own_narc hc0] at Va3
  obtain ⟨v4, T4, L4, hQ4, X4, st4⟩ := own_callI X3 hx hZ (y := (⟨"java/lang/String", "<init>", "([C)V"⟩ : MethodName)) rfl hown (own_w12 hw) (own_w13 hw) (own_w11 hw) (own_w14 hw) (by decide) (own_cc1 l hw [] b1 b2 cs kk2 c0 hp3 n0 (Nat.le_trans Z0 O3.1) hc0 (Scs.ext O3) hcs g_b1 Ex_b1_3 F_value_b1_3 F_coder_b1_3 Va3) e3 (g := (mkF m 33 #[.val (.ref a1), .val (.int 1)] [(.ref b2), (.ref b1), (.ref b1)])) rfl (by rw [hml]; rfl) (argsL := [(.ref b2)]) (rest := [(.ref b1)]) (lenOf own_pd4 rfl) rfl rfl (W := 1) (Nat.le_of_eq rfl) (hb hby own_d2_33) (by decide) (by decide) (by decide) (by decide)
  obtain ⟨rfl, N4, K4, bv, kb, Fvb, Fcb, Vb⟩ := hQ4
  have O4 := own_extk O3 K4 s_b1
  have V_b2_4 := Va3.keep K4 (ninS (Nat.ne_of_gt lt_b1_b2) nin0)
  have Ex_b1_4 := Ex_b1_3.keep K4
  have N4' := Fr.app N3 N4
  refine own_st st4 ?_
  show own_Go _ _ _ _ T4 (mkF m 36 #[.val (.ref a1), .val (.int 1)] [(.ref b1)])
  exact own_retA X4 hx hret rfl hlk rfl (hb hby own_d2_36) ⟨b1, bv, kb, rfl, N4', O4, s_b1, Ex_b1_4, Fvb, Fcb, Vb⟩ (by decide) (by decide)
def own_pf2_Q (Z : State) (a1 : Addr) (p1 cs z : Int32) (ka : ClassId) (vs : List Value) (c0 c1 : Int32) (h0 : Heap) (n0 : Nat) (v : Option Value) (h : Heap) (L : List Loc) : Prop := ∃ b bv k, v = some (.ref b) ∧ Fr n0 L ∧ Ext h0 h ∧ h0.size ≤ b ∧ Exa Z h b "java/lang/String" ∧ Fld Z h b "java/lang/String" "value" "[B" (.ref bv) ∧ Fld Z h b "java/lang/String" "coder" "B" (.int 0) ∧ Arv Z h bv k .byte (2 : Int32) [(.int (nar .byte (c0.toInt8.toInt32))), (.int (nar .byte (c1.toInt8.toInt32)))] (.int 0)
set_option maxRecDepth 65536 in
set_option maxHeartbeats 40000000 in
theorem own_pf2 (l : Launch) {Z : State} {a0 : Array Value} (hw : own_W Z a0) (ws : List Jvm.Cond) (a1 : Addr) (p1 cs z : Int32) (ka : ClassId) (vs : List Value) (c0 c1 : Int32) (h0 : Heap) (n0 : Nat) (Z0 : n0 ≤ h0.size) (hp1 : p1 = (2 : Int32)) (hc0 : own_ch c0) (hc1 : own_ch c1) (Scs : Sta Z h0 "java/lang/String" "COMPACT_STRINGS" "Z" (.int cs)) (hcs : ¬ cs = 0) (V1 : Arv Z h0 a1 ka .char z vs (.int 0)) (hj0 : ¬ (0 : Int32) < 0 ∧ (0 : Int32) < z) (hj1 : ¬ (1 : Int32) < 0 ∧ (1 : Int32) < z) (hv0 : vs.getD ((0 : Int32)).toNatClampNeg (.int 0) = .int c0) (hv1 : vs.getD ((1 : Int32)).toNatClampNeg (.int 0) = .int c1) :
    MetFree l (⟨"com/example/isoscope/isoscope/TokenIsPinLaw", "prefix", "([CI)Ljava/lang/String;"⟩ : MethodName) (head1 (Jvm.Cond.code (⟨"com/example/isoscope/isoscope/TokenIsPinLaw", "prefix", "([CI)Ljava/lang/String;"⟩ : MethodName) method_5_code 2 (some (.object "java/lang/String")) :: ws) ({ frames := 4, cells := 4, slots := 16, locals := 71 } : Room)) (fun a U => a = #[(.ref a1), (.int p1)] ∧ Z.Warmed39 U.vm ∧ U.heap = h0) (fun _ _ _ _ _ => True) (fun _ U o U' => ∃ v L, o = .returned v ∧ own_pf2_Q Z a1 p1 cs z ka vs c0 c1 h0 n0 v U'.heap L ∧ FrameEnd U o U' L ({ frames := 4, cells := 4, slots := 16, locals := 71 } : Room).cells ({ frames := 4, cells := 4, slots := 16, locals := 71 } : Room).slots) := by
  refine own_enter (C := ({ frames := 4, cells := 4, slots := 16, locals := 71 } : Room).cells) (S := ({ frames := 4, cells := 4, slots := 16, locals := 71 } : Room).slots) (plainFor_of_name own_pn2) ?_
  intro p e s m below meth c T0 X0 I e0
  obtain ⟨hx, hby, hml, hown, hnm, hret, hlk, hZ⟩ := I
  have N0 := Fr.nil n0
  have O0 := own_extr h0
  refine own_cast (own_ef2 m a1 p1) ?_
  show own_Go _ _ _ _ T0 (mkF m 0 #[.val (.ref a1), .val (.int p1)] [])
  rw [hp1]
  show own_Go _ _ _ _ T0 (mkF m 0 #[.val (.ref a1), .val (.int 2)] [])
  refine own_st (fun _ k => XS.iloadN X0.here hx rfl (hb hby own_d2_0) rfl k) ?_
  refine own_st (fun _ k => XS.ifYes X0.here hx rfl (pc0 := 1) (pc' := 15) rfl (hb hby own_d2_1) rfl ((if0 _ _).trans (tlt (by decide : (0 : Int32) < (2 : Int32))).2.2.1) (by decide) (by decide) k) ?_
  refine own_st (fun _ k => XS.iloadN X0.here hx rfl (hb hby own_d2_15) rfl k) ?_
  refine own_st (fun _ k => XS.iconst X0.here hx rfl (hb hby own_d2_16) k) ?_
  refine own_st (fun _ k => XS.icmpYes X0.here hx rfl (pc0 := 17) (pc' := 37) rfl (hb hby own_d2_17) rfl (feq (by decide : ¬ ((2 : Int32) = (1 : Int32)))).2 (by decide) (by decide) k) ?_
  refine own_st (fun _ k => XS.iloadN X0.here hx rfl (hb hby own_d2_37) rfl k) ?_
  refine own_st (fun _ k => XS.iconst X0.here hx rfl (hb hby own_d2_38) k) ?_
  refine own_st (fun _ k => XS.icmpNo X0.here hx rfl (hb hby own_d2_39) rfl (teq (by decide : (2 : Int32) = (2 : Int32))).2 k) ?_
  show own_Go _ _ _ _ T0 (mkF m 42 #[.val (.ref a1), .val (.int 2)] [])
  obtain ⟨T1, hp1, X1, e1, Et1, A1, D1, -, st1⟩ := newO X0 hx hZ hown (own_w9 hw) (own_w10 hw) (own_w11 hw) e0 (g := (mkF m 42 #[.val (.ref a1), .val (.int 2)] [])) rfl (hb hby own_d2_42) (by decide) (by decide)
  obtain ⟨b1, g1⟩ : ∃ z, z = h0.size := ⟨_, rfl⟩
  rw [← g1] at A1 D1 st1
  have s_b1 : h0.size ≤ b1 := Nat.le_trans O0.1 (Nat.le_of_eq g1.symm)
  have g_b1 : n0 ≤ b1 := Nat.le_trans Z0 s_b1
  have O1 := own_extt O0 Et1
  have F_coder_b1 : Fld Z hp1 b1 "java/lang/String" "coder" "B" (.int 0) := D1 (Or.inr (own_w35 hw)) (ty := .byte) (by decide)
  have F_value_b1 : Fld Z hp1 b1 "java/lang/String" "value" "[B" .null := D1 (Or.inr (own_w37 hw)) (ty := (.array .byte)) (by decide)
  refine own_st st1 ?_
  refine own_st (fun _ k => XS.dup X1.here hx rfl (hb hby own_d2_45) rfl rfl k) ?_
  refine own_st (fun _ k => XS.iconst X1.here hx rfl (hb hby own_d2_46) k) ?_
  obtain ⟨T2, hp2, kk2, X2, e2, Et2, A2, st2⟩ := newP X1 hx hZ (aty := .char) (own_w0 hw) e1 (g := (mkF m 47 #[.val (.ref a1), .val (.int 2)] [(.int 2), (.ref b1), (.ref b1)])) rfl (hb hby own_d2_47) rfl (by decide) (cap := 2) (by decide) (by decide) (by decide) (by decide)
  obtain ⟨b2, g2⟩ : ∃ z, z = hp1.size := ⟨_, rfl⟩
  rw [← g2] at A2 st2
  have s_b2 : h0.size ≤ b2 := Nat.le_trans O1.1 (Nat.le_of_eq g2.symm)
  have g_b2 : n0 ≤ b2 := Nat.le_trans Z0 s_b2
  have lt_b1_b2 : b1 < b2 := Nat.lt_of_lt_of_le A1.lt (Nat.le_of_eq g2.symm)
  have O2 := own_extt O1 Et2
  have Ex_b1_2 := A1.ext Et2
  have F_coder_b1_2 := F_coder_b1.ext Et2
  have F_value_b1_2 := F_value_b1.ext Et2
  have Va2 : Arv Z hp2 b2 kk2 .char (2 : Int32) [(.int 0), (.int 0)] (.int 0) := (Arv.new A2 (by decide)).pad (pad_rep [] (.int 0) 2)
  refine own_st st2 ?_
  refine own_st (fun _ k => XS.dup X2.here hx rfl (hb hby own_d2_49) rfl rfl k) ?_
  refine own_st (fun _ k => XS.iconst X2.here hx rfl (hb hby own_d2_50) k) ?_
  refine own_st (fun _ k => XS.aloadN X2.here hx rfl (hb hby own_d2_51) rfl rfl k) ?_
  refine own_st (fun _ k => XS.iconst X2.here hx rfl (hb hby own_d2_52) k) ?_
  show own_Go _ _ _ _ T2 (mkF m 53 #[.val (.ref a1), .val (.int 2)] [(.int 0), (.ref a1), (.int 0), (.ref b2), (.ref b2), (.ref b1), (.ref b1)])
  refine own_st (own_ldC X2 hx hZ e2 (V1.ext O2) (j := (0 : Int32)) hj0 (v := (.int c0)) hv0 (g := (mkF m 53 #[.val (.ref a1), .val (.int 2)] [(.int 0), (.ref a1), (.int 0), (.ref b2), (.ref b2), (.ref b1), (.ref b1)])) rfl rfl (hb hby own_d2_53)) ?_
  obtain ⟨T3, hp3, X3, e3, W3, Va3, st3⟩ := own_stC X2 hx hZ e2 Va2 (by decide) 0 (by decide) (Nat.le_of_ble_eq_true rfl) (g := (mkF m 54 #[.val (.ref a1), .val (.int 2)] [(.int c0), (.int 0), (.ref b2), (.ref b2), (.ref b1), (.ref b1)])) rfl rfl (hb hby own_d2_54)
  have O3 := own_extw O2 W3 s_b2
  have Ex_b1_3 := Ex_b1_2.wr W3
  have F_coder_b1_3 := F_coder_b1_2.other W3 (Or.inl (Nat.ne_of_lt lt_b1_b2))
  have F_value_b1_3 := F_value_b1_2.other W3 (Or.inl (Nat.ne_of_lt lt_b1_b2))
  have Va3 : Arv Z hp3 b2 kk2 .char (2 : Int32) [(.int (nar .char c0)), (.int 0)] (.int 0) := Va3
  have N3 := Fr.snoc X3 N0 g_b2
  refine own_st st3 ?_
  refine own_st (fun _ k => XS.dup X3.here hx rfl (hb hby own_d2_55) rfl rfl k) ?_
  refine own_st (fun _ k => XS.iconst X3.here hx rfl (hb hby own_d2_56) k) ?_
  refine own_st (fun _ k => XS.aloadN X3.here hx rfl (hb hby own_d2_57) rfl rfl k) ?_
  refine own_st (fun _ k => XS.iconst X3.here hx rfl (hb hby own_d2_58) k) ?_
  refine own_st (own_ldC X3 hx hZ e3 (V1.ext O3) (j := (1 : Int32)) hj1 (v := (.int c1)) hv1 (g := (mkF m 59 #[.val (.ref a1), .val (.int 2)] [(.int 1), (.ref a1), (.int 1), (.ref b2), (.ref b2), (.ref b1), (.ref b1)])) rfl rfl (hb hby own_d2_59)) ?_
  obtain ⟨T4, hp4, X4, e4, W4, Va4, st4⟩ := own_stC X3 hx hZ e3 Va3 (by decide) 1 (by decide) (Nat.le_of_ble_eq_true rfl) (g := (mkF m 60 #[.val (.ref a1), .val (.int 2)] [(.int c1), (.int 1), (.ref b2), (.ref b2), (.ref b1), (.ref b1)])) rfl rfl (hb hby own_d2_60)
  have O4 := own_extw O3 W4 s_b2
  have Ex_b1_4 := Ex_b1_3.wr W4
  have F_coder_b1_4 := F_coder_b1_3.other W4 (Or.inl (Nat.ne_of_lt lt_b1_b2))
  have F_value_b1_4 := F_value_b1_3.other W4 (Or.inl (Nat.ne_of_lt lt_b1_b2))
  have Va4 : Arv Z hp4 b2 kk2 .char (2 : Int32) [(.int (nar .char c0)), (.int (nar .char c1))] (.int 0) := Va4
  have N4 := Fr.snoc X4 N3 g_b2
  refine own_st st4 ?_
  show own_Go _ _ _ _ T4 (mkF m 61 #[.val (.ref a1), .val (.int 2)] [(.ref b2), (.ref b1), (.ref b1)])
  rw [own_narc hc0] at Va4
  rw [own_narc hc1] at Va4
  obtain ⟨v5, T5, L5, hQ5, X5, st5⟩ := own_callI X4 hx hZ (y := (⟨"java/lang/String", "<init>", "([C)V"⟩ : MethodName)) rfl hown (own_w12 hw) (own_w13 hw) (own_w11 hw) (own_w14 hw) (by decide) (own_cc2 l hw [] b1 b2 cs kk2 c0 c1 hp4 n0 (Nat.le_trans Z0 O4.1) hc0 hc1 (Scs.ext O4) hcs g_b1 Ex_b1_4 F_value_b1_4 F_coder_b1_4 Va4) e4 (g := (mkF m 61 #[.val (.ref a1), .val (.int 2)] [(.ref b2), (.ref b1), (.ref b1)])) rfl (by rw [hml]; rfl) (argsL := [(.ref b2)]) (rest := [(.ref b1)]) (lenOf own_pd4 rfl) rfl rfl (W := 1) (Nat.le_of_eq rfl) (hb hby own_d2_61) (by decide) (by decide) (by decide) (by decide)
  obtain ⟨rfl, N5, K5, bv, kb, Fvb, Fcb, Vb⟩ := hQ5
  have O5 := own_extk O4 K5 s_b1
  have V_b2_5 := Va4.keep K5 (ninS (Nat.ne_of_gt lt_b1_b2) nin0)
  have Ex_b1_5 := Ex_b1_4.keep K5
  have N5' := Fr.app N4 N5
  refine own_st st5 ?_
  exact own_retA X5 hx hret rfl hlk rfl (hb hby own_d2_64) ⟨b1, bv, kb, rfl, N5', O5, s_b1, Ex_b1_5, Fvb, Fcb, Vb⟩ (by decide) (by decide)
def own_pf3_Q (Z : State) (a1 : Addr) (p1 cs z : Int32) (ka : ClassId) (vs : List Value) (c0 c1 c2 : Int32) (h0 : Heap) (n0 : Nat) (v : Option Value) (h : Heap) (L : List Loc) : Prop := ∃ b bv k, v = some (.ref b) ∧ Fr n0 L ∧ Ext h0 h ∧ h0.size ≤ b ∧ Exa Z h b "java/lang/String" ∧ Fld Z h b "java/lang/String" "value" "[B" (.ref bv) ∧ Fld Z h b "java/lang/String" "coder" "B" (.int 0) ∧ Arv Z h bv k .byte (3 : Int32) [(.int (nar .byte (c0.toInt8.toInt32))), (.int (nar .byte (c1.toInt8.toInt32))), (.int (nar .byte (c2.toInt8.toInt32)))] (.int 0)
set_option maxRecDepth 65536 in
set_option maxHeartbeats 40000000 in
theorem own_pf3 (l : Launch) {Z : State} {a0 : Array Value} (hw : own_W Z a0) (ws : List Jvm.Cond) (a1 : Addr) (p1 cs z : Int32) (ka : ClassId) (vs : List Value) (c0 c1 c2 : Int32) (h0 : Heap) (n0 : Nat) (Z0 : n0 ≤ h0.size) (hp1 : p1 = (3 : Int32)) (hc0 : own_ch c0) (hc1 : own_ch c1) (hc2 : own_ch c2) (Scs : Sta Z h0 "java/lang/String" "COMPACT_STRINGS" "Z" (.int cs)) (hcs : ¬ cs = 0) (V1 : Arv Z h0 a1 ka .char z vs (.int 0)) (hj0 : ¬ (0 : Int32) < 0 ∧ (0 : Int32) < z) (hj1 : ¬ (1 : Int32) < 0 ∧ (1 : Int32) < z) (hj2 : ¬ (2 : Int32) < 0 ∧ (2 : Int32) < z) (hv0 : vs.getD ((0 : Int32)).toNatClampNeg (.int 0) = .int c0) (hv1 : vs.getD ((1 : Int32)).toNatClampNeg (.int 0) = .int c1) (hv2 : vs.getD ((2 : Int32)).toNatClampNeg (.int 0) = .int c2) :
    MetFree l (⟨"com/example/isoscope/isoscope/TokenIsPinLaw", "prefix", "([CI)Ljava/lang/String;"⟩ : MethodName) (head1 (Jvm.Cond.code (⟨"com/example/isoscope/isoscope/TokenIsPinLaw", "prefix", "([CI)Ljava/lang/String;"⟩ : MethodName) method_5_code 2 (some (.object "java/lang/String")) :: ws) ({ frames := 4, cells := 4, slots := 16, locals := 71 } : Room)) (fun a U => a = #[(.ref a1), (.int p1)] ∧ Z.Warmed39 U.vm ∧ U.heap = h0) (fun _ _ _ _ _ => True) (fun _ U o U' => ∃ v L, o = .returned v ∧ own_pf3_Q Z a1 p1 cs z ka vs c0 c1 c2 h0 n0 v U'.heap L ∧ FrameEnd U o U' L ({ frames := 4, cells := 4, slots := 16, locals := 71 } : Room).cells ({ frames := 4, cells := 4, slots := 16, locals := 71 } : Room).slots) := by
  refine own_enter (C := ({ frames := 4, cells := 4, slots := 16, locals := 71 } : Room).cells) (S := ({ frames := 4, cells := 4, slots := 16, locals := 71 } : Room).slots) (plainFor_of_name own_pn2) ?_
  intro p e s m below meth c T0 X0 I e0
  obtain ⟨hx, hby, hml, hown, hnm, hret, hlk, hZ⟩ := I
  have N0 := Fr.nil n0
  have O0 := own_extr h0
  refine own_cast (own_ef2 m a1 p1) ?_
  show own_Go _ _ _ _ T0 (mkF m 0 #[.val (.ref a1), .val (.int p1)] [])
  rw [hp1]
  show own_Go _ _ _ _ T0 (mkF m 0 #[.val (.ref a1), .val (.int 3)] [])
  refine own_st (fun _ k => XS.iloadN X0.here hx rfl (hb hby own_d2_0) rfl k) ?_
  refine own_st (fun _ k => XS.ifYes X0.here hx rfl (pc0 := 1) (pc' := 15) rfl (hb hby own_d2_1) rfl ((if0 _ _).trans (tlt (by decide : (0 : Int32) < (3 : Int32))).2.2.1) (by decide) (by decide) k) ?_
  refine own_st (fun _ k => XS.iloadN X0.here hx rfl (hb hby own_d2_15) rfl k) ?_
  refine own_st (fun _ k => XS.iconst X0.here hx rfl (hb hby own_d2_16) k) ?_
  refine own_st (fun _ k => XS.icmpYes X0.here hx rfl (pc0 := 17) (pc' := 37) rfl (hb hby own_d2_17) rfl (feq (by decide : ¬ ((3 : Int32) = (1 : Int32)))).2 (by decide) (by decide) k) ?_
  refine own_st (fun _ k => XS.iloadN X0.here hx rfl (hb hby own_d2_37) rfl k) ?_
  refine own_st (fun _ k => XS.iconst X0.here hx rfl (hb hby own_d2_38) k) ?_
  refine own_st (fun _ k => XS.icmpYes X0.here hx rfl (pc0 := 39) (pc' := 65) rfl (hb hby own_d2_39) rfl (feq (by decide : ¬ ((3 : Int32) = (2 : Int32)))).2 (by decide) (by decide) k) ?_
  show own_Go _ _ _ _ T0 (mkF m 65 #[.val (.ref a1), .val (.int 3)] [])
  refine own_st (fun _ k => XS.iloadN X0.here hx rfl (hb hby own_d2_65) rfl k) ?_
  refine own_st (fun _ k => XS.iconst X0.here hx rfl (hb hby own_d2_66) k) ?_
  refine own_st (fun _ k => XS.icmpNo X0.here hx rfl (hb hby own_d2_67) rfl (teq (by decide : (3 : Int32) = (3 : Int32))).2 k) ?_
  obtain ⟨T1, hp1, X1, e1, Et1, A1, D1, -, st1⟩ := newO X0 hx hZ hown (own_w9 hw) (own_w10 hw) (own_w11 hw) e0 (g := (mkF m 70 #[.val (.ref a1), .val (.int 3)] [])) rfl (hb hby own_d2_70) (by decide) (by decide)
  obtain ⟨b1, g1⟩ : ∃ z, z = h0.size := ⟨_, rfl⟩
  rw [← g1] at A1 D1 st1
  have s_b1 : h0.size ≤ b1 := Nat.le_trans O0.1 (Nat.le_of_eq g1.symm)
  have g_b1 : n0 ≤ b1 := Nat.le_trans Z0 s_b1
  have O1 := own_extt O0 Et1
  have F_coder_b1 : Fld Z hp1 b1 "java/lang/String" "coder" "B" (.int 0) := D1 (Or.inr (own_w35 hw)) (ty := .byte) (by decide)
  have F_value_b1 : Fld Z hp1 b1 "java/lang/String" "value" "[B" .null := D1 (Or.inr (own_w37 hw)) (ty := (.array .byte)) (by decide)
  refine own_st st1 ?_
  refine own_st (fun _ k => XS.dup X1.here hx rfl (hb hby own_d2_73) rfl rfl k) ?_
  refine own_st (fun _ k => XS.iconst X1.here hx rfl (hb hby own_d2_74) k) ?_
  obtain ⟨T2, hp2, kk2, X2, e2, Et2, A2, st2⟩ := newP X1 hx hZ (aty := .char) (own_w0 hw) e1 (g := (mkF m 75 #[.val (.ref a1), .val (.int 3)] [(.int 3), (.ref b1), (.ref b1)])) rfl (hb hby own_d2_75) rfl (by decide) (cap := 3) (by decide) (by decide) (by decide) (by decide)
  obtain ⟨b2, g2⟩ : ∃ z, z = hp1.size := ⟨_, rfl⟩
  rw [← g2] at A2 st2
  have s_b2 : h0.size ≤ b2 := Nat.le_trans O1.1 (Nat.le_of_eq g2.symm)
  have g_b2 : n0 ≤ b2 := Nat.le_trans Z0 s_b2
  have lt_b1_b2 : b1 < b2 := Nat.lt_of_lt_of_le A1.lt (Nat.le_of_eq g2.symm)
  have O2 := own_extt O1 Et2
  have Ex_b1_2 := A1.ext Et2
  have F_coder_b1_2 := F_coder_b1.ext Et2
  have F_value_b1_2 := F_value_b1.ext Et2
  have Va2 : Arv Z hp2 b2 kk2 .char (3 : Int32) [(.int 0), (.int 0), (.int 0)] (.int 0) := (Arv.new A2 (by decide)).pad (pad_rep [] (.int 0) 3)
  refine own_st st2 ?_
  refine own_st (fun _ k => XS.dup X2.here hx rfl (hb hby own_d2_77) rfl rfl k) ?_
  show own_Go _ _ _ _ T2 (mkF m 78 #[.val (.ref a1), .val (.int 3)] [(.ref b2), (.ref b2), (.ref b1), (.ref b1)])
  refine own_st (fun _ k => XS.iconst X2.here hx rfl (hb hby own_d2_78) k) ?_
  refine own_st (fun _ k => XS.aloadN X2.here hx rfl (hb hby own_d2_79) rfl rfl k) ?_
  refine own_st (fun _ k => XS.iconst X2.here hx rfl (hb hby own_d2_80) k) ?_
  refine own_st (own_ldC X2 hx hZ e2 (V1.ext O2) (j := (0 : Int32)) hj0 (v := (.int c0)) hv0 (g := (mkF m 81 #[.val (.ref a1), .val (.int 3)] [(.int 0), (.ref a1), (.int 0), (.ref b2), (.ref b2), (.ref b1), (.ref b1)])) rfl rfl (hb hby own_d2_81)) ?_
  obtain ⟨T3, hp3, X3, e3, W3, Va3, st3⟩ := own_stC X2 hx hZ e2 Va2 (by decide) 0 (by decide) (Nat.le_of_ble_eq_true rfl) (g := (mkF m 82 #[.val (.ref a1), .val (.int 3)] [(.int c0), (.int 0), (.ref b2), (.ref b2), (.ref b1), (.ref b1)])) rfl rfl (hb hby own_d2_82)
  have O3 := own_extw O2 W3 s_b2
  have Ex_b1_3 := Ex_b1_2.wr W3
  have F_coder_b1_3 := F_coder_b1_2.other W3 (Or.inl (Nat.ne_of_lt lt_b1_b2))
  have F_value_b1_3 := F_value_b1_2.other W3 (Or.inl (Nat.ne_of_lt lt_b1_b2))
  have Va3 : Arv Z hp3 b2 kk2 .char (3 : Int32) [(.int (nar .char c0)), (.int 0), (.int 0)] (.int 0) := Va3
  have N3 := Fr.snoc X3 N0 g_b2
  refine own_st st3 ?_
  refine own_st (fun _ k => XS.dup X3.here hx rfl (hb hby own_d2_83) rfl rfl k) ?_
  refine own_st (fun _ k => XS.iconst X3.here hx rfl (hb hby own_d2_84) k) ?_
  refine own_st (fun _ k => XS.aloadN X3.here hx rfl (hb hby own_d2_85) rfl rfl k) ?_
  show own_Go _ _ _ _ T3 (mkF m 86 #[.val (.ref a1), .val (.int 3)] [(.ref a1), (.int 1), (.ref b2), (.ref b2), (.ref b1), (.ref b1)])
  refine own_st (fun _ k => XS.iconst X3.here hx rfl (hb hby own_d2_86) k) ?_
  refine own_st (own_ldC X3 hx hZ e3 (V1.ext O3) (j := (1 : Int32)) hj1 (v := (.int c1)) hv1 (g := (mkF m 87 #[.val (.ref a1), .val (.int 3)] [(.int 1), (.ref a1), (.int 1), (.ref b2), (.ref b2), (.ref b1), (.ref b1)])) rfl rfl (hb hby own_d2_87)) ?_
  obtain ⟨T4, hp4, X4, e4, W4, Va4, st4⟩ := own_stC X3 hx hZ e3 Va3 (by decide) 1 (by decide) (Nat.le_of_ble_eq_true rfl) (g := (mkF m 88 #[.val (.ref a1), .val (.int 3)] [(.int c1), (.int 1), (.ref b2), (.ref b2), (.ref b1), (.ref b1)])) rfl rfl (hb hby own_d2_88)
  have O4 := own_extw O3 W4 s_b2
  have Ex_b1_4 := Ex_b1_3.wr W4
  have F_coder_b1_4 := F_coder_b1_3.other W4 (Or.inl (Nat.ne_of_lt lt_b1_b2))
  have F_value_b1_4 := F_value_b1_3.other W4 (Or.inl (Nat.ne_of_lt lt_b1_b2))
  have Va4 : Arv Z hp4 b2 kk2 .char (3 : Int32) [(.int (nar .char c0)), (.int (nar .char c1)), (.int 0)] (.int 0) := Va4
  have N4 := Fr.snoc X4 N3 g_b2
  refine own_st st4 ?_
  refine own_st (fun _ k => XS.dup X4.here hx rfl (hb hby own_d2_89) rfl rfl k) ?_
  refine own_st (fun _ k => XS.iconst X4.here hx rfl (hb hby own_d2_90) k) ?_
  refine own_st (fun _ k => XS.aloadN X4.here hx rfl (hb hby own_d2_91) rfl rfl k) ?_
  refine own_st (fun _ k => XS.iconst X4.here hx rfl (hb hby own_d2_92) k) ?_
  refine own_st (own_ldC X4 hx hZ e4 (V1.ext O4) (j := (2 : Int32)) hj2 (v := (.int c2)) hv2 (g := (mkF m 93 #[.val (.ref a1), .val (.int 3)] [(.int 2), (.ref a1), (.int 2), (.ref b2), (.ref b2), (.ref b1), (.ref b1)])) rfl rfl (hb hby own_d2_93)) ?_
  show own_Go _ _ _ _ T4 (mkF m 94 #[.val (.ref a1), .val (.int 3)] [(.int c2), (.int 2), (.ref b2), (.ref b2), (.ref b1), (.ref b1)])
  obtain ⟨T5, hp5, X5, e5, W5, Va5, st5⟩ := own_stC X4 hx hZ e4 Va4 (by decide) 2 (by decide) (Nat.le_of_ble_eq_true rfl) (g := (mkF m 94 #[.val (.ref a1), .val (.int 3)] [(.int c2), (.int 2), (.ref b2), (.ref b2), (.ref b1), (.ref b1)])) rfl rfl (hb hby own_d2_94)
  have O5 := own_extw O4 W5 s_b2
  have Ex_b1_5 := Ex_b1_4.wr W5
  have F_coder_b1_5 := F_coder_b1_4.other W5 (Or.inl (Nat.ne_of_lt lt_b1_b2))
  have F_value_b1_5 := F_value_b1_4.other W5 (Or.inl (Nat.ne_of_lt lt_b1_b2))
  have Va5 : Arv Z hp5 b2 kk2 .char (3 : Int32) [(.int (nar .char c0)), (.int (nar .char c1)), (.int (nar .char c2))] (.int 0) := Va5
  have N5 := Fr.snoc X5 N4 g_b2
  refine own_st st5 ?_
  rw [own_narc hc0] at Va5
  rw [own_narc hc1] at Va5
  rw [own_narc hc2] at Va5
  obtain ⟨v6, T6, L6, hQ6, X6, st6⟩ := own_callI X5 hx hZ (y := (⟨"java/lang/String", "<init>", "([C)V"⟩ : MethodName)) rfl hown (own_w12 hw) (own_w13 hw) (own_w11 hw) (own_w14 hw) (by decide) (own_cc3 l hw [] b1 b2 cs kk2 c0 c1 c2 hp5 n0 (Nat.le_trans Z0 O5.1) hc0 hc1 hc2 (Scs.ext O5) hcs g_b1 Ex_b1_5 F_value_b1_5 F_coder_b1_5 Va5) e5 (g := (mkF m 95 #[.val (.ref a1), .val (.int 3)] [(.ref b2), (.ref b1), (.ref b1)])) rfl (by rw [hml]; rfl) (argsL := [(.ref b2)]) (rest := [(.ref b1)]) (lenOf own_pd4 rfl) rfl rfl (W := 1) (Nat.le_of_eq rfl) (hb hby own_d2_95) (by decide) (by decide) (by decide) (by decide)
  obtain ⟨rfl, N6, K6, bv, kb, Fvb, Fcb, Vb⟩ := hQ6
  have O6 := own_extk O5 K6 s_b1
  have V_b2_6 := Va5.keep K6 (ninS (Nat.ne_of_gt lt_b1_b2) nin0)
  have Ex_b1_6 := Ex_b1_5.keep K6
  have N6' := Fr.app N5 N6
  refine own_st st6 ?_
  exact own_retA X6 hx hret rfl hlk rfl (hb hby own_d2_98) ⟨b1, bv, kb, rfl, N6', O6, s_b1, Ex_b1_6, Fvb, Fcb, Vb⟩ (by decide) (by decide)
def own_pf4_Q (Z : State) (a1 : Addr) (p1 cs z : Int32) (ka : ClassId) (vs : List Value) (c0 c1 c2 c3 : Int32) (h0 : Heap) (n0 : Nat) (v : Option Value) (h : Heap) (L : List Loc) : Prop := ∃ b bv k, v = some (.ref b) ∧ Fr n0 L ∧ Ext h0 h ∧ h0.size ≤ b ∧ Exa Z h b "java/lang/String" ∧ Fld Z h b "java/lang/String" "value" "[B" (.ref bv) ∧ Fld Z h b "java/lang/String" "coder" "B" (.int 0) ∧ Arv Z h bv k .byte (4 : Int32) [(.int (nar .byte (c0.toInt8.toInt32))), (.int (nar .byte (c1.toInt8.toInt32))), (.int (nar .byte (c2.toInt8.toInt32))), (.int (nar .byte (c3.toInt8.toInt32)))] (.int 0)
set_option maxRecDepth 65536 in
set_option maxHeartbeats 40000000 in
theorem own_pf4 (l : Launch) {Z : State} {a0 : Array Value} (hw : own_W Z a0) (ws : List Jvm.Cond) (a1 : Addr) (p1 cs z : Int32) (ka : ClassId) (vs : List Value) (c0 c1 c2 c3 : Int32) (h0 : Heap) (n0 : Nat) (Z0 : n0 ≤ h0.size) (hp1 : p1 = (4 : Int32)) (hc0 : own_ch c0) (hc1 : own_ch c1) (hc2 : own_ch c2) (hc3 : own_ch c3) (Scs : Sta Z h0 "java/lang/String" "COMPACT_STRINGS" "Z" (.int cs)) (hcs : ¬ cs = 0) (V1 : Arv Z h0 a1 ka .char z vs (.int 0)) (hj0 : ¬ (0 : Int32) < 0 ∧ (0 : Int32) < z) (hj1 : ¬ (1 : Int32) < 0 ∧ (1 : Int32) < z) (hj2 : ¬ (2 : Int32) < 0 ∧ (2 : Int32) < z) (hj3 : ¬ (3 : Int32) < 0 ∧ (3 : Int32) < z) (hv0 : vs.getD ((0 : Int32)).toNatClampNeg (.int 0) = .int c0) (hv1 : vs.getD ((1 : Int32)).toNatClampNeg (.int 0) = .int c1) (hv2 : vs.getD ((2 : Int32)).toNatClampNeg (.int 0) = .int c2) (hv3 : vs.getD ((3 : Int32)).toNatClampNeg (.int 0) = .int c3) :
    MetFree l (⟨"com/example/isoscope/isoscope/TokenIsPinLaw", "prefix", "([CI)Ljava/lang/String;"⟩ : MethodName) (head1 (Jvm.Cond.code (⟨"com/example/isoscope/isoscope/TokenIsPinLaw", "prefix", "([CI)Ljava/lang/String;"⟩ : MethodName) method_5_code 2 (some (.object "java/lang/String")) :: ws) ({ frames := 4, cells := 4, slots := 16, locals := 71 } : Room)) (fun a U => a = #[(.ref a1), (.int p1)] ∧ Z.Warmed39 U.vm ∧ U.heap = h0) (fun _ _ _ _ _ => True) (fun _ U o U' => ∃ v L, o = .returned v ∧ own_pf4_Q Z a1 p1 cs z ka vs c0 c1 c2 c3 h0 n0 v U'.heap L ∧ FrameEnd U o U' L ({ frames := 4, cells := 4, slots := 16, locals := 71 } : Room).cells ({ frames := 4, cells := 4, slots := 16, locals := 71 } : Room).slots) := by
  refine own_enter (C := ({ frames := 4, cells := 4, slots := 16, locals := 71 } : Room).cells) (S := ({ frames := 4, cells := 4, slots := 16, locals := 71 } : Room).slots) (plainFor_of_name own_pn2) ?_
  intro p e s m below meth c T0 X0 I e0
  obtain ⟨hx, hby, hml, hown, hnm, hret, hlk, hZ⟩ := I
  have N0 := Fr.nil n0
  have O0 := own_extr h0
  refine own_cast (own_ef2 m a1 p1) ?_
  show own_Go _ _ _ _ T0 (mkF m 0 #[.val (.ref a1), .val (.int p1)] [])
  rw [hp1]
  show own_Go _ _ _ _ T0 (mkF m 0 #[.val (.ref a1), .val (.int 4)] [])
  refine own_st (fun _ k => XS.iloadN X0.here hx rfl (hb hby own_d2_0) rfl k) ?_
  refine own_st (fun _ k => XS.ifYes X0.here hx rfl (pc0 := 1) (pc' := 15) rfl (hb hby own_d2_1) rfl ((if0 _ _).trans (tlt (by decide : (0 : Int32) < (4 : Int32))).2.2.1) (by decide) (by decide) k) ?_
  refine own_st (fun _ k => XS.iloadN X0.here hx rfl (hb hby own_d2_15) rfl k) ?_
  refine own_st (fun _ k => XS.iconst X0.here hx rfl (hb hby own_d2_16) k) ?_
  refine own_st (fun _ k => XS.icmpYes X0.here hx rfl (pc0 := 17) (pc' := 37) rfl (hb hby own_d2_17) rfl (feq (by decide : ¬ ((4 : Int32) = (1 : Int32)))).2 (by decide) (by decide) k) ?_
  refine own_st (fun _ k => XS.iloadN X0.here hx rfl (hb hby own_d2_37) rfl k) ?_
  refine own_st (fun _ k => XS.iconst X0.here hx rfl (hb hby own_d2_38) k) ?_
  refine own_st (fun _ k => XS.icmpYes X0.here hx rfl (pc0 := 39) (pc' := 65) rfl (hb hby own_d2_39) rfl (feq (by decide : ¬ ((4 : Int32) = (2 : Int32)))).2 (by decide) (by decide) k) ?_
  show own_Go _ _ _ _ T0 (mkF m 65 #[.val (.ref a1), .val (.int 4)] [])
  refine own_st (fun _ k => XS.iloadN X0.here hx rfl (hb hby own_d2_65) rfl k) ?_
  refine own_st (fun _ k => XS.iconst X0.here hx rfl (hb hby own_d2_66) k) ?_
  refine own_st (fun _ k => XS.icmpYes X0.here hx rfl (pc0 := 67) (pc' := 99) rfl (hb hby own_d2_67) rfl (feq (by decide : ¬ ((4 : Int32) = (3 : Int32)))).2 (by decide) (by decide) k) ?_
  refine own_st (fun _ k => XS.iloadN X0.here hx rfl (hb hby own_d2_99) rfl k) ?_
  refine own_st (fun _ k => XS.iconst X0.here hx rfl (hb hby own_d2_100) k) ?_
  refine own_st (fun _ k => XS.icmpNo X0.here hx rfl (hb hby own_d2_101) rfl (teq (by decide : (4 : Int32) = (4 : Int32))).2 k) ?_
  obtain ⟨T1, hp1, X1, e1, Et1, A1, D1, -, st1⟩ := newO X0 hx hZ hown (own_w9 hw) (own_w10 hw) (own_w11 hw) e0 (g := (mkF m 104 #[.val (.ref a1), .val (.int 4)] [])) rfl (hb hby own_d2_104) (by decide) (by decide)
  obtain ⟨b1, g1⟩ : ∃ z, z = h0.size := ⟨_, rfl⟩
  rw [← g1] at A1 D1 st1
  have s_b1 : h0.size ≤ b1 := Nat.le_trans O0.1 (Nat.le_of_eq g1.symm)
  have g_b1 : n0 ≤ b1 := Nat.le_trans Z0 s_b1
  have O1 := own_extt O0 Et1
  have F_coder_b1 : Fld Z hp1 b1 "java/lang/String" "coder" "B" (.int 0) := D1 (Or.inr (own_w35 hw)) (ty := .byte) (by decide)
  have F_value_b1 : Fld Z hp1 b1 "java/lang/String" "value" "[B" .null := D1 (Or.inr (own_w37 hw)) (ty := (.array .byte)) (by decide)
  refine own_st st1 ?_
  refine own_st (fun _ k => XS.dup X1.here hx rfl (hb hby own_d2_107) rfl rfl k) ?_
  show own_Go _ _ _ _ T1 (mkF m 108 #[.val (.ref a1), .val (.int 4)] [(.ref b1), (.ref b1)])
  refine own_st (fun _ k => XS.iconst X1.here hx rfl (hb hby own_d2_108) k) ?_
  obtain ⟨T2, hp2, kk2, X2, e2, Et2, A2, st2⟩ := newP X1 hx hZ (aty := .char) (own_w0 hw) e1 (g := (mkF m 109 #[.val (.ref a1), .val (.int 4)] [(.int 4), (.ref b1), (.ref b1)])) rfl (hb hby own_d2_109) rfl (by decide) (cap := 4) (by decide) (by decide) (by decide) (by decide)
  obtain ⟨b2, g2⟩ : ∃ z, z = hp1.size := ⟨_, rfl⟩
  rw [← g2] at A2 st2
  have s_b2 : h0.size ≤ b2 := Nat.le_trans O1.1 (Nat.le_of_eq g2.symm)
  have g_b2 : n0 ≤ b2 := Nat.le_trans Z0 s_b2
  have lt_b1_b2 : b1 < b2 := Nat.lt_of_lt_of_le A1.lt (Nat.le_of_eq g2.symm)
  have O2 := own_extt O1 Et2
  have Ex_b1_2 := A1.ext Et2
  have F_coder_b1_2 := F_coder_b1.ext Et2
  have F_value_b1_2 := F_value_b1.ext Et2
  have Va2 : Arv Z hp2 b2 kk2 .char (4 : Int32) [(.int 0), (.int 0), (.int 0), (.int 0)] (.int 0) := (Arv.new A2 (by decide)).pad (pad_rep [] (.int 0) 4)
  refine own_st st2 ?_
  refine own_st (fun _ k => XS.dup X2.here hx rfl (hb hby own_d2_111) rfl rfl k) ?_
  refine own_st (fun _ k => XS.iconst X2.here hx rfl (hb hby own_d2_112) k) ?_
  refine own_st (fun _ k => XS.aloadN X2.here hx rfl (hb hby own_d2_113) rfl rfl k) ?_
  refine own_st (fun _ k => XS.iconst X2.here hx rfl (hb hby own_d2_114) k) ?_
  refine own_st (own_ldC X2 hx hZ e2 (V1.ext O2) (j := (0 : Int32)) hj0 (v := (.int c0)) hv0 (g := (mkF m 115 #[.val (.ref a1), .val (.int 4)] [(.int 0), (.ref a1), (.int 0), (.ref b2), (.ref b2), (.ref b1), (.ref b1)])) rfl rfl (hb hby own_d2_115)) ?_
  obtain ⟨T3, hp3, X3, e3, W3, Va3, st3⟩ := own_stC X2 hx hZ e2 Va2 (by decide) 0 (by decide) (Nat.le_of_ble_eq_true rfl) (g := (mkF m 116 #[.val (.ref a1), .val (.int 4)] [(.int c0), (.int 0), (.ref b2), (.ref b2), (.ref b1), (.ref b1)])) rfl rfl (hb hby own_d2_116)
  have O3 := own_extw O2 W3 s_b2
  have Ex_b1_3 := Ex_b1_2.wr W3
  have F_coder_b1_3 := F_coder_b1_2.other W3 (Or.inl (Nat.ne_of_lt lt_b1_b2))
  have F_value_b1_3 := F_value_b1_2.other W3 (Or.inl (Nat.ne_of_lt lt_b1_b2))
  have Va3 : Arv Z hp3 b2 kk2 .char (4 : Int32) [(.int (nar .char c0)), (.int 0), (.int 0), (.int 0)] (.int 0) := Va3
  have N3 := Fr.snoc X3 N0 g_b2
  refine own_st st3 ?_
  show own_Go _ _ _ _ T3 (mkF m 117 #[.val (.ref a1), .val (.int 4)] [(.ref b2), (.ref b1), (.ref b1)])
  refine own_st (fun _ k => XS.dup X3.here hx rfl (hb hby own_d2_117) rfl rfl k) ?_
  refine own_st (fun _ k => XS.iconst X3.here hx rfl (hb hby own_d2_118) k) ?_
  refine own_st (fun _ k => XS.aloadN X3.here hx rfl (hb hby own_d2_119) rfl rfl k) ?_
  refine own_st (fun _ k => XS.iconst X3.here hx rfl (hb hby own_d2_120) k) ?_
  refine own_st (own_ldC X3 hx hZ e3 (V1.ext O3) (j := (1 : Int32)) hj1 (v := (.int c1)) hv1 (g := (mkF m 121 #[.val (.ref a1), .val (.int 4)] [(.int 1), (.ref a1), (.int 1), (.ref b2), (.ref b2), (.ref b1), (.ref b1)])) rfl rfl (hb hby own_d2_121)) ?_
  obtain ⟨T4, hp4, X4, e4, W4, Va4, st4⟩ := own_stC X3 hx hZ e3 Va3 (by decide) 1 (by decide) (Nat.le_of_ble_eq_true rfl) (g := (mkF m 122 #[.val (.ref a1), .val (.int 4)] [(.int c1), (.int 1), (.ref b2), (.ref b2), (.ref b1), (.ref b1)])) rfl rfl (hb hby own_d2_122)
  have O4 := own_extw O3 W4 s_b2
  have Ex_b1_4 := Ex_b1_3.wr W4
  have F_coder_b1_4 := F_coder_b1_3.other W4 (Or.inl (Nat.ne_of_lt lt_b1_b2))
  have F_value_b1_4 := F_value_b1_3.other W4 (Or.inl (Nat.ne_of_lt lt_b1_b2))
  have Va4 : Arv Z hp4 b2 kk2 .char (4 : Int32) [(.int (nar .char c0)), (.int (nar .char c1)), (.int 0), (.int 0)] (.int 0) := Va4
  have N4 := Fr.snoc X4 N3 g_b2
  refine own_st st4 ?_
  refine own_st (fun _ k => XS.dup X4.here hx rfl (hb hby own_d2_123) rfl rfl k) ?_
  refine own_st (fun _ k => XS.iconst X4.here hx rfl (hb hby own_d2_124) k) ?_
  show own_Go _ _ _ _ T4 (mkF m 125 #[.val (.ref a1), .val (.int 4)] [(.int 2), (.ref b2), (.ref b2), (.ref b1), (.ref b1)])
  refine own_st (fun _ k => XS.aloadN X4.here hx rfl (hb hby own_d2_125) rfl rfl k) ?_
  refine own_st (fun _ k => XS.iconst X4.here hx rfl (hb hby own_d2_126) k) ?_
  refine own_st (own_ldC X4 hx hZ e4 (V1.ext O4) (j := (2 : Int32)) hj2 (v := (.int c2)) hv2 (g := (mkF m 127 #[.val (.ref a1), .val (.int 4)] [(.int 2), (.ref a1), (.int 2), (.ref b2), (.ref b2), (.ref b1), (.ref b1)])) rfl rfl (hb hby own_d2_127)) ?_
  obtain ⟨T5, hp5, X5, e5, W5, Va5, st5⟩ := own_stC X4 hx hZ e4 Va4 (by decide) 2 (by decide) (Nat.le_of_ble_eq_true rfl) (g := (mkF m 128 #[.val (.ref a1), .val (.int 4)] [(.int c2), (.int 2), (.ref b2), (.ref b2), (.ref b1), (.ref b1)])) rfl rfl (hb hby own_d2_128)
  have O5 := own_extw O4 W5 s_b2
  have Ex_b1_5 := Ex_b1_4.wr W5
  have F_coder_b1_5 := F_coder_b1_4.other W5 (Or.inl (Nat.ne_of_lt lt_b1_b2))
  have F_value_b1_5 := F_value_b1_4.other W5 (Or.inl (Nat.ne_of_lt lt_b1_b2))
  have Va5 : Arv Z hp5 b2 kk2 .char (4 : Int32) [(.int (nar .char c0)), (.int (nar .char c1)), (.int (nar .char c2)), (.int 0)] (.int 0) := Va5
  have N5 := Fr.snoc X5 N4 g_b2
  refine own_st st5 ?_
  refine own_st (fun _ k => XS.dup X5.here hx rfl (hb hby own_d2_129) rfl rfl k) ?_
  refine own_st (fun _ k => XS.iconst X5.here hx rfl (hb hby own_d2_130) k) ?_
  refine own_st (fun _ k => XS.aloadN X5.here hx rfl (hb hby own_d2_131) rfl rfl k) ?_
  refine own_st (fun _ k => XS.iconst X5.here hx rfl (hb hby own_d2_132) k) ?_
  show own_Go _ _ _ _ T5 (mkF m 133 #[.val (.ref a1), .val (.int 4)] [(.int 3), (.ref a1), (.int 3), (.ref b2), (.ref b2), (.ref b1), (.ref b1)])
  refine own_st (own_ldC X5 hx hZ e5 (V1.ext O5) (j := (3 : Int32)) hj3 (v := (.int c3)) hv3 (g := (mkF m 133 #[.val (.ref a1), .val (.int 4)] [(.int 3), (.ref a1), (.int 3), (.ref b2), (.ref b2), (.ref b1), (.ref b1)])) rfl rfl (hb hby own_d2_133)) ?_
  obtain ⟨T6, hp6, X6, e6, W6, Va6, st6⟩ := own_stC X5 hx hZ e5 Va5 (by decide) 3 (by decide) (Nat.le_of_ble_eq_true rfl) (g := (mkF m 134 #[.val (.ref a1), .val (.int 4)] [(.int c3), (.int 3), (.ref b2), (.ref b2), (.ref b1), (.ref b1)])) rfl rfl (hb hby own_d2_134)
  have O6 := own_extw O5 W6 s_b2
  have Ex_b1_6 := Ex_b1_5.wr W6
  have F_coder_b1_6 := F_coder_b1_5.other W6 (Or.inl (Nat.ne_of_lt lt_b1_b2))
  have F_value_b1_6 := F_value_b1_5.other W6 (Or.inl (Nat.ne_of_lt lt_b1_b2))
  have Va6 : Arv Z hp6 b2 kk2 .char (4 : Int32) [(.int (nar .char c0)), (.int (nar .char c1)), (.int (nar .char c2)), (.int (nar .char c3))] (.int 0) := Va6
  have N6 := Fr.snoc X6 N5 g_b2
  refine own_st st6 ?_
  rw [own_narc hc0] at Va6
  rw [own_narc hc1] at Va6
  rw [own_narc hc2] at Va6
  rw [own_narc hc3] at Va6
  obtain ⟨v7, T7, L7, hQ7, X7, st7⟩ := own_callI X6 hx hZ (y := (⟨"java/lang/String", "<init>", "([C)V"⟩ : MethodName)) rfl hown (own_w12 hw) (own_w13 hw) (own_w11 hw) (own_w14 hw) (by decide) (own_cc4 l hw [] b1 b2 cs kk2 c0 c1 c2 c3 hp6 n0 (Nat.le_trans Z0 O6.1) hc0 hc1 hc2 hc3 (Scs.ext O6) hcs g_b1 Ex_b1_6 F_value_b1_6 F_coder_b1_6 Va6) e6 (g := (mkF m 135 #[.val (.ref a1), .val (.int 4)] [(.ref b2), (.ref b1), (.ref b1)])) rfl (by rw [hml]; rfl) (argsL := [(.ref b2)]) (rest := [(.ref b1)]) (lenOf own_pd4 rfl) rfl rfl (W := 1) (Nat.le_of_eq rfl) (hb hby own_d2_135) (by decide) (by decide) (by decide) (by decide)
  obtain ⟨rfl, N7, K7, bv, kb, Fvb, Fcb, Vb⟩ := hQ7
  have O7 := own_extk O6 K7 s_b1
  have V_b2_7 := Va6.keep K7 (ninS (Nat.ne_of_gt lt_b1_b2) nin0)
  have Ex_b1_7 := Ex_b1_6.keep K7
  have N7' := Fr.app N6 N7
  refine own_st st7 ?_
  exact own_retA X7 hx hret rfl hlk rfl (hb hby own_d2_138) ⟨b1, bv, kb, rfl, N7', O7, s_b1, Ex_b1_7, Fvb, Fcb, Vb⟩ (by decide) (by decide)
def own_pf5_Q (Z : State) (a1 : Addr) (p1 cs z : Int32) (ka : ClassId) (vs : List Value) (c0 c1 c2 c3 c4 : Int32) (h0 : Heap) (n0 : Nat) (v : Option Value) (h : Heap) (L : List Loc) : Prop := ∃ b bv k, v = some (.ref b) ∧ Fr n0 L ∧ Ext h0 h ∧ h0.size ≤ b ∧ Exa Z h b "java/lang/String" ∧ Fld Z h b "java/lang/String" "value" "[B" (.ref bv) ∧ Fld Z h b "java/lang/String" "coder" "B" (.int 0) ∧ Arv Z h bv k .byte (5 : Int32) [(.int (nar .byte (c0.toInt8.toInt32))), (.int (nar .byte (c1.toInt8.toInt32))), (.int (nar .byte (c2.toInt8.toInt32))), (.int (nar .byte (c3.toInt8.toInt32))), (.int (nar .byte (c4.toInt8.toInt32)))] (.int 0)
set_option maxRecDepth 65536 in
set_option maxHeartbeats 40000000 in
theorem own_pf5 (l : Launch) {Z : State} {a0 : Array Value} (hw : own_W Z a0) (ws : List Jvm.Cond) (a1 : Addr) (p1 cs z : Int32) (ka : ClassId) (vs : List Value) (c0 c1 c2 c3 c4 : Int32) (h0 : Heap) (n0 : Nat) (Z0 : n0 ≤ h0.size) (hp1 : p1 = (5 : Int32)) (hc0 : own_ch c0) (hc1 : own_ch c1) (hc2 : own_ch c2) (hc3 : own_ch c3) (hc4 : own_ch c4) (Scs : Sta Z h0 "java/lang/String" "COMPACT_STRINGS" "Z" (.int cs)) (hcs : ¬ cs = 0) (V1 : Arv Z h0 a1 ka .char z vs (.int 0)) (hj0 : ¬ (0 : Int32) < 0 ∧ (0 : Int32) < z) (hj1 : ¬ (1 : Int32) < 0 ∧ (1 : Int32) < z) (hj2 : ¬ (2 : Int32) < 0 ∧ (2 : Int32) < z) (hj3 : ¬ (3 : Int32) < 0 ∧ (3 : Int32) < z) (hj4 : ¬ (4 : Int32) < 0 ∧ (4 : Int32) < z) (hv0 : vs.getD ((0 : Int32)).toNatClampNeg (.int 0) = .int c0) (hv1 : vs.getD ((1 : Int32)).toNatClampNeg (.int 0) = .int c1) (hv2 : vs.getD ((2 : Int32)).toNatClampNeg (.int 0) = .int c2) (hv3 : vs.getD ((3 : Int32)).toNatClampNeg (.int 0) = .int c3) (hv4 : vs.getD ((4 : Int32)).toNatClampNeg (.int 0) = .int c4) :
    MetFree l (⟨"com/example/isoscope/isoscope/TokenIsPinLaw", "prefix", "([CI)Ljava/lang/String;"⟩ : MethodName) (head1 (Jvm.Cond.code (⟨"com/example/isoscope/isoscope/TokenIsPinLaw", "prefix", "([CI)Ljava/lang/String;"⟩ : MethodName) method_5_code 2 (some (.object "java/lang/String")) :: ws) ({ frames := 4, cells := 4, slots := 16, locals := 71 } : Room)) (fun a U => a = #[(.ref a1), (.int p1)] ∧ Z.Warmed39 U.vm ∧ U.heap = h0) (fun _ _ _ _ _ => True) (fun _ U o U' => ∃ v L, o = .returned v ∧ own_pf5_Q Z a1 p1 cs z ka vs c0 c1 c2 c3 c4 h0 n0 v U'.heap L ∧ FrameEnd U o U' L ({ frames := 4, cells := 4, slots := 16, locals := 71 } : Room).cells ({ frames := 4, cells := 4, slots := 16, locals := 71 } : Room).slots) := by
  refine own_enter (C := ({ frames := 4, cells := 4, slots := 16, locals := 71 } : Room).cells) (S := ({ frames := 4, cells := 4, slots := 16, locals := 71 } : Room).slots) (plainFor_of_name own_pn2) ?_
  intro p e s m below meth c T0 X0 I e0
  obtain ⟨hx, hby, hml, hown, hnm, hret, hlk, hZ⟩ := I
  have N0 := Fr.nil n0
  have O0 := own_extr h0
  refine own_cast (own_ef2 m a1 p1) ?_
  show own_Go _ _ _ _ T0 (mkF m 0 #[.val (.ref a1), .val (.int p1)] [])
  rw [hp1]
  show own_Go _ _ _ _ T0 (mkF m 0 #[.val (.ref a1), .val (.int 5)] [])
  refine own_st (fun _ k => XS.iloadN X0.here hx rfl (hb hby own_d2_0) rfl k) ?_
  refine own_st (fun _ k => XS.ifYes X0.here hx rfl (pc0 := 1) (pc' := 15) rfl (hb hby own_d2_1) rfl ((if0 _ _).trans (tlt (by decide : (0 : Int32) < (5 : Int32))).2.2.1) (by decide) (by decide) k) ?_
  refine own_st (fun _ k => XS.iloadN X0.here hx rfl (hb hby own_d2_15) rfl k) ?_
  refine own_st (fun _ k => XS.iconst X0.here hx rfl (hb hby own_d2_16) k) ?_
  refine own_st (fun _ k => XS.icmpYes X0.here hx rfl (pc0 := 17) (pc' := 37) rfl (hb hby own_d2_17) rfl (feq (by decide : ¬ ((5 : Int32) = (1 : Int32)))).2 (by decide) (by decide) k) ?_
  refine own_st (fun _ k => XS.iloadN X0.here hx rfl (hb hby own_d2_37) rfl k) ?_
  refine own_st (fun _ k => XS.iconst X0.here hx rfl (hb hby own_d2_38) k) ?_
  refine own_st (fun _ k => XS.icmpYes X0.here hx rfl (pc0 := 39) (pc' := 65) rfl (hb hby own_d2_39) rfl (feq (by decide : ¬ ((5 : Int32) = (2 : Int32)))).2 (by decide) (by decide) k) ?_
  show own_Go _ _ _ _ T0 (mkF m 65 #[.val (.ref a1), .val (.int 5)] [])
  refine own_st (fun _ k => XS.iloadN X0.here hx rfl (hb hby own_d2_65) rfl k) ?_
  refine own_st (fun _ k => XS.iconst X0.here hx rfl (hb hby own_d2_66) k) ?_
  refine own_st (fun _ k => XS.icmpYes X0.here hx rfl (pc0 := 67) (pc' := 99) rfl (hb hby own_d2_67) rfl (feq (by decide : ¬ ((5 : Int32) = (3 : Int32)))).2 (by decide) (by decide) k) ?_
  refine own_st (fun _ k => XS.iloadN X0.here hx rfl (hb hby own_d2_99) rfl k) ?_
  refine own_st (fun _ k => XS.iconst X0.here hx rfl (hb hby own_d2_100) k) ?_
  refine own_st (fun _ k => XS.icmpYes X0.here hx rfl (pc0 := 101) (pc' := 139) rfl (hb hby own_d2_101) rfl (feq (by decide : ¬ ((5 : Int32) = (4 : Int32)))).2 (by decide) (by decide) k) ?_
  refine own_st (fun _ k => XS.iloadN X0.here hx rfl (hb hby own_d2_139) rfl k) ?_
  refine own_st (fun _ k => XS.iconst X0.here hx rfl (hb hby own_d2_140) k) ?_
  show own_Go _ _ _ _ T0 (mkF m 141 #[.val (.ref a1), .val (.int 5)] [(.int 5), (.int 5)])
  refine own_st (fun _ k => XS.icmpNo X0.here hx rfl (hb hby own_d2_141) rfl (teq (by decide : (5 : Int32) = (5 : Int32))).2 k) ?_
  obtain ⟨T1, hp1, X1, e1, Et1, A1, D1, -, st1⟩ := newO X0 hx hZ hown (own_w9 hw) (own_w10 hw) (own_w11 hw) e0 (g := (mkF m 144 #[.val (.ref a1), .val (.int 5)] [])) rfl (hb hby own_d2_144) (by decide) (by decide)
  obtain ⟨b1, g1⟩ : ∃ z, z = h0.size := ⟨_, rfl⟩
  rw [← g1] at A1 D1 st1
  have s_b1 : h0.size ≤ b1 := Nat.le_trans O0.1 (Nat.le_of_eq g1.symm)
  have g_b1 : n0 ≤ b1 := Nat.le_trans Z0 s_b1
  have O1 := own_extt O0 Et1
  have F_coder_b1 : Fld Z hp1 b1 "java/lang/String" "coder" "B" (.int 0) := D1 (Or.inr (own_w35 hw)) (ty := .byte) (by decide)
  have F_value_b1 : Fld Z hp1 b1 "java/lang/String" "value" "[B" .null := D1 (Or.inr (own_w37 hw)) (ty := (.array .byte)) (by decide)
  refine own_st st1 ?_
  refine own_st (fun _ k => XS.dup X1.here hx rfl (hb hby own_d2_147) rfl rfl k) ?_
  refine own_st (fun _ k => XS.iconst X1.here hx rfl (hb hby own_d2_148) k) ?_
  obtain ⟨T2, hp2, kk2, X2, e2, Et2, A2, st2⟩ := newP X1 hx hZ (aty := .char) (own_w0 hw) e1 (g := (mkF m 149 #[.val (.ref a1), .val (.int 5)] [(.int 5), (.ref b1), (.ref b1)])) rfl (hb hby own_d2_149) rfl (by decide) (cap := 5) (by decide) (by decide) (by decide) (by decide)
  obtain ⟨b2, g2⟩ : ∃ z, z = hp1.size := ⟨_, rfl⟩
  rw [← g2] at A2 st2
  have s_b2 : h0.size ≤ b2 := Nat.le_trans O1.1 (Nat.le_of_eq g2.symm)
  have g_b2 : n0 ≤ b2 := Nat.le_trans Z0 s_b2
  have lt_b1_b2 : b1 < b2 := Nat.lt_of_lt_of_le A1.lt (Nat.le_of_eq g2.symm)
  have O2 := own_extt O1 Et2
  have Ex_b1_2 := A1.ext Et2
  have F_coder_b1_2 := F_coder_b1.ext Et2
  have F_value_b1_2 := F_value_b1.ext Et2
  have Va2 : Arv Z hp2 b2 kk2 .char (5 : Int32) [(.int 0), (.int 0), (.int 0), (.int 0), (.int 0)] (.int 0) := (Arv.new A2 (by decide)).pad (pad_rep [] (.int 0) 5)
  refine own_st st2 ?_
  refine own_st (fun _ k => XS.dup X2.here hx rfl (hb hby own_d2_151) rfl rfl k) ?_
  refine own_st (fun _ k => XS.iconst X2.here hx rfl (hb hby own_d2_152) k) ?_
  refine own_st (fun _ k => XS.aloadN X2.here hx rfl (hb hby own_d2_153) rfl rfl k) ?_
  show own_Go _ _ _ _ T2 (mkF m 154 #[.val (.ref a1), .val (.int 5)] [(.ref a1), (.int 0), (.ref b2), (.ref b2), (.ref b1), (.ref b1)])
  refine own_st (fun _ k => XS.iconst X2.here hx rfl (hb hby own_d2_154) k) ?_
  refine own_st (own_ldC X2 hx hZ e2 (V1.ext O2) (j := (0 : Int32)) hj0 (v := (.int c0)) hv0 (g := (mkF m 155 #[.val (.ref a1), .val (.int 5)] [(.int 0), (.ref a1), (.int 0), (.ref b2), (.ref b2), (.ref b1), (.ref b1)])) rfl rfl (hb hby own_d2_155)) ?_
  obtain ⟨T3, hp3, X3, e3, W3, Va3, st3⟩ := own_stC X2 hx hZ e2 Va2 (by decide) 0 (by decide) (Nat.le_of_ble_eq_true rfl) (g := (mkF m 156 #[.val (.ref a1), .val (.int 5)] [(.int c0), (.int 0), (.ref b2), (.ref b2), (.ref b1), (.ref b1)])) rfl rfl (hb hby own_d2_156)
  have O3 := own_extw O2 W3 s_b2
  have Ex_b1_3 := Ex_b1_2.wr W3
  have F_coder_b1_3 := F_coder_b1_2.other W3 (Or.inl (Nat.ne_of_lt lt_b1_b2))
  have F_value_b1_3 := F_value_b1_2.other W3 (Or.inl (Nat.ne_of_lt lt_b1_b2))
  have Va3 : Arv Z hp3 b2 kk2 .char (5 : Int32) [(.int (nar .char c0)), (.int 0), (.int 0), (.int 0), (.int 0)] (.int 0) := Va3
  have N3 := Fr.snoc X3 N0 g_b2
  refine own_st st3 ?_
  refine own_st (fun _ k => XS.dup X3.here hx rfl (hb hby own_d2_157) rfl rfl k) ?_
  refine own_st (fun _ k => XS.iconst X3.here hx rfl (hb hby own_d2_158) k) ?_
  refine own_st (fun _ k => XS.aloadN X3.here hx rfl (hb hby own_d2_159) rfl rfl k) ?_
  refine own_st (fun _ k => XS.iconst X3.here hx rfl (hb hby own_d2_160) k) ?_
  refine own_st (own_ldC X3 hx hZ e3 (V1.ext O3) (j := (1 : Int32)) hj1 (v := (.int c1)) hv1 (g := (mkF m 161 #[.val (.ref a1), .val (.int 5)] [(.int 1), (.ref a1), (.int 1), (.ref b2), (.ref b2), (.ref b1), (.ref b1)])) rfl rfl (hb hby own_d2_161)) ?_
  show own_Go _ _ _ _ T3 (mkF m 162 #[.val (.ref a1), .val (.int 5)] [(.int c1), (.int 1), (.ref b2), (.ref b2), (.ref b1), (.ref b1)])
  obtain ⟨T4, hp4, X4, e4, W4, Va4, st4⟩ := own_stC X3 hx hZ e3 Va3 (by decide) 1 (by decide) (Nat.le_of_ble_eq_true rfl) (g := (mkF m 162 #[.val (.ref a1), .val (.int 5)] [(.int c1), (.int 1), (.ref b2), (.ref b2), (.ref b1), (.ref b1)])) rfl rfl (hb hby own_d2_162)
  have O4 := own_extw O3 W4 s_b2
  have Ex_b1_4 := Ex_b1_3.wr W4
  have F_coder_b1_4 := F_coder_b1_3.other W4 (Or.inl (Nat.ne_of_lt lt_b1_b2))
  have F_value_b1_4 := F_value_b1_3.other W4 (Or.inl (Nat.ne_of_lt lt_b1_b2))
  have Va4 : Arv Z hp4 b2 kk2 .char (5 : Int32) [(.int (nar .char c0)), (.int (nar .char c1)), (.int 0), (.int 0), (.int 0)] (.int 0) := Va4
  have N4 := Fr.snoc X4 N3 g_b2
  refine own_st st4 ?_
  refine own_st (fun _ k => XS.dup X4.here hx rfl (hb hby own_d2_163) rfl rfl k) ?_
  refine own_st (fun _ k => XS.iconst X4.here hx rfl (hb hby own_d2_164) k) ?_
  refine own_st (fun _ k => XS.aloadN X4.here hx rfl (hb hby own_d2_165) rfl rfl k) ?_
  refine own_st (fun _ k => XS.iconst X4.here hx rfl (hb hby own_d2_166) k) ?_
  refine own_st (own_ldC X4 hx hZ e4 (V1.ext O4) (j := (2 : Int32)) hj2 (v := (.int c2)) hv2 (g := (mkF m 167 #[.val (.ref a1), .val (.int 5)] [(.int 2), (.ref a1), (.int 2), (.ref b2), (.ref b2), (.ref b1), (.ref b1)])) rfl rfl (hb hby own_d2_167)) ?_
  obtain ⟨T5, hp5, X5, e5, W5, Va5, st5⟩ := own_stC X4 hx hZ e4 Va4 (by decide) 2 (by decide) (Nat.le_of_ble_eq_true rfl) (g := (mkF m 168 #[.val (.ref a1), .val (.int 5)] [(.int c2), (.int 2), (.ref b2), (.ref b2), (.ref b1), (.ref b1)])) rfl rfl (hb hby own_d2_168)
  have O5 := own_extw O4 W5 s_b2
  have Ex_b1_5 := Ex_b1_4.wr W5
  have F_coder_b1_5 := F_coder_b1_4.other W5 (Or.inl (Nat.ne_of_lt lt_b1_b2))
  have F_value_b1_5 := F_value_b1_4.other W5 (Or.inl (Nat.ne_of_lt lt_b1_b2))
  have Va5 : Arv Z hp5 b2 kk2 .char (5 : Int32) [(.int (nar .char c0)), (.int (nar .char c1)), (.int (nar .char c2)), (.int 0), (.int 0)] (.int 0) := Va5
  have N5 := Fr.snoc X5 N4 g_b2
  refine own_st st5 ?_
  refine own_st (fun _ k => XS.dup X5.here hx rfl (hb hby own_d2_169) rfl rfl k) ?_
  show own_Go _ _ _ _ T5 (mkF m 170 #[.val (.ref a1), .val (.int 5)] [(.ref b2), (.ref b2), (.ref b1), (.ref b1)])
  refine own_st (fun _ k => XS.iconst X5.here hx rfl (hb hby own_d2_170) k) ?_
  refine own_st (fun _ k => XS.aloadN X5.here hx rfl (hb hby own_d2_171) rfl rfl k) ?_
  refine own_st (fun _ k => XS.iconst X5.here hx rfl (hb hby own_d2_172) k) ?_
  refine own_st (own_ldC X5 hx hZ e5 (V1.ext O5) (j := (3 : Int32)) hj3 (v := (.int c3)) hv3 (g := (mkF m 173 #[.val (.ref a1), .val (.int 5)] [(.int 3), (.ref a1), (.int 3), (.ref b2), (.ref b2), (.ref b1), (.ref b1)])) rfl rfl (hb hby own_d2_173)) ?_
  obtain ⟨T6, hp6, X6, e6, W6, Va6, st6⟩ := own_stC X5 hx hZ e5 Va5 (by decide) 3 (by decide) (Nat.le_of_ble_eq_true rfl) (g := (mkF m 174 #[.val (.ref a1), .val (.int 5)] [(.int c3), (.int 3), (.ref b2), (.ref b2), (.ref b1), (.ref b1)])) rfl rfl (hb hby own_d2_174)
  have O6 := own_extw O5 W6 s_b2
  have Ex_b1_6 := Ex_b1_5.wr W6
  have F_coder_b1_6 := F_coder_b1_5.other W6 (Or.inl (Nat.ne_of_lt lt_b1_b2))
  have F_value_b1_6 := F_value_b1_5.other W6 (Or.inl (Nat.ne_of_lt lt_b1_b2))
  have Va6 : Arv Z hp6 b2 kk2 .char (5 : Int32) [(.int (nar .char c0)), (.int (nar .char c1)), (.int (nar .char c2)), (.int (nar .char c3)), (.int 0)] (.int 0) := Va6
  have N6 := Fr.snoc X6 N5 g_b2
  refine own_st st6 ?_
  refine own_st (fun _ k => XS.dup X6.here hx rfl (hb hby own_d2_175) rfl rfl k) ?_
  refine own_st (fun _ k => XS.iconst X6.here hx rfl (hb hby own_d2_176) k) ?_
  refine own_st (fun _ k => XS.aloadN X6.here hx rfl (hb hby own_d2_177) rfl rfl k) ?_
  show own_Go _ _ _ _ T6 (mkF m 178 #[.val (.ref a1), .val (.int 5)] [(.ref a1), (.int 4), (.ref b2), (.ref b2), (.ref b1), (.ref b1)])
  refine own_st (fun _ k => XS.iconst X6.here hx rfl (hb hby own_d2_178) k) ?_
  refine own_st (own_ldC X6 hx hZ e6 (V1.ext O6) (j := (4 : Int32)) hj4 (v := (.int c4)) hv4 (g := (mkF m 179 #[.val (.ref a1), .val (.int 5)] [(.int 4), (.ref a1), (.int 4), (.ref b2), (.ref b2), (.ref b1), (.ref b1)])) rfl rfl (hb hby own_d2_179)) ?_
  obtain ⟨T7, hp7, X7, e7, W7, Va7, st7⟩ := own_stC X6 hx hZ e6 Va6 (by decide) 4 (by decide) (Nat.le_of_ble_eq_true rfl) (g := (mkF m 180 #[.val (.ref a1), .val (.int 5)] [(.int c4), (.int 4), (.ref b2), (.ref b2), (.ref b1), (.ref b1)])) rfl rfl (hb hby own_d2_180)
  have O7 := own_extw O6 W7 s_b2
  have Ex_b1_7 := Ex_b1_6.wr W7
  have F_coder_b1_7 := F_coder_b1_6.other W7 (Or.inl (Nat.ne_of_lt lt_b1_b2))
  have F_value_b1_7 := F_value_b1_6.other W7 (Or.inl (Nat.ne_of_lt lt_b1_b2))
  have Va7 : Arv Z hp7 b2 kk2 .char (5 : Int32) [(.int (nar .char c0)), (.int (nar .char c1)), (.int (nar .char c2)), (.int (nar .char c3)), (.int (nar .char c4))] (.int 0) := Va7
  have N7 := Fr.snoc X7 N6 g_b2
  refine own_st st7 ?_
  rw [own_narc hc0] at Va7
  rw [own_narc hc1] at Va7
  rw [own_narc hc2] at Va7
  rw [own_narc hc3] at Va7
  rw [own_narc hc4] at Va7
  obtain ⟨v8, T8, L8, hQ8, X8, st8⟩ := own_callI X7 hx hZ (y := (⟨"java/lang/String", "<init>", "([C)V"⟩ : MethodName)) rfl hown (own_w12 hw) (own_w13 hw) (own_w11 hw) (own_w14 hw) (by decide) (own_cc5 l hw [] b1 b2 cs kk2 c0 c1 c2 c3 c4 hp7 n0 (Nat.le_trans Z0 O7.1) hc0 hc1 hc2 hc3 hc4 (Scs.ext O7) hcs g_b1 Ex_b1_7 F_value_b1_7 F_coder_b1_7 Va7) e7 (g := (mkF m 181 #[.val (.ref a1), .val (.int 5)] [(.ref b2), (.ref b1), (.ref b1)])) rfl (by rw [hml]; rfl) (argsL := [(.ref b2)]) (rest := [(.ref b1)]) (lenOf own_pd4 rfl) rfl rfl (W := 1) (Nat.le_of_eq rfl) (hb hby own_d2_181) (by decide) (by decide) (by decide) (by decide)
  obtain ⟨rfl, N8, K8, bv, kb, Fvb, Fcb, Vb⟩ := hQ8
  have O8 := own_extk O7 K8 s_b1
  have V_b2_8 := Va7.keep K8 (ninS (Nat.ne_of_gt lt_b1_b2) nin0)
  have Ex_b1_8 := Ex_b1_7.keep K8
  have N8' := Fr.app N7 N8
  refine own_st st8 ?_
  exact own_retA X8 hx hret rfl hlk rfl (hb hby own_d2_184) ⟨b1, bv, kb, rfl, N8', O8, s_b1, Ex_b1_8, Fvb, Fcb, Vb⟩ (by decide) (by decide)
def own_pf0_Q (Z : State) (a1 : Addr) (p1 : Int32) (h0 : Heap) (n0 : Nat) (v : Option Value) (h : Heap) (vm : Vm) (L : List Loc) : Prop := ∃ b bv k sa, v = some (.ref b) ∧ Fr n0 L ∧ Ext h0 h ∧ h0.size ≤ b ∧ Exa Z h b "java/lang/String" ∧ Fld Z h b "java/lang/String" "value" "[B" (.ref bv) ∧ Fld Z h b "java/lang/String" "coder" "B" (.int 0) ∧ Arv Z h bv k .byte (0 : Int32) [] (.int 0) ∧ Lit (Z.setVm vm) "java/lang/String" 7 sa ∧ Fld Z h sa "java/lang/String" "value" "[B" (.ref bv) ∧ Fld Z h sa "java/lang/String" "coder" "B" (.int 0)
set_option maxRecDepth 65536 in
set_option maxHeartbeats 40000000 in
theorem own_pf0 (l : Launch) {Z : State} {a0 : Array Value} (hw : own_W Z a0) (ws : List Jvm.Cond) (a1 : Addr) (p1 : Int32) (h0 : Heap) (n0 : Nat) (Z0 : n0 ≤ h0.size) (hp1 : p1 = 0) (hh : Jvm.Lit.constHeld Z "java/lang/String" 7) (hcw : Jvm.Lit.compactW.before a0 Z = true) (OZ : Ext Z.heap h0) :
    MetFree l (⟨"com/example/isoscope/isoscope/TokenIsPinLaw", "prefix", "([CI)Ljava/lang/String;"⟩ : MethodName) (head1 (Jvm.Cond.code (⟨"com/example/isoscope/isoscope/TokenIsPinLaw", "prefix", "([CI)Ljava/lang/String;"⟩ : MethodName) method_5_code 2 (some (.object "java/lang/String")) :: ws) ({ frames := 4, cells := 4, slots := 16, locals := 71 } : Room)) (fun a U => a = #[(.ref a1), (.int p1)] ∧ Z.Warmed39 U.vm ∧ U.heap = h0 ∧ (fun vm => IB Z vm []) U.vm) (fun _ _ _ _ _ => True) (fun _ U o U' => ∃ v L, o = .returned v ∧ own_pf0_Q Z a1 p1 h0 n0 v U'.heap U'.vm L ∧ ReturnedEndW U o U' L ({ frames := 4, cells := 4, slots := 16, locals := 71 } : Room).cells ({ frames := 4, cells := 4, slots := 16, locals := 71 } : Room).slots) := by
  refine own_enterW (J := fun vm => IB Z vm []) (C := ({ frames := 4, cells := 4, slots := 16, locals := 71 } : Room).cells) (S := ({ frames := 4, cells := 4, slots := 16, locals := 71 } : Room).slots) (plainFor_of_name own_pn2) ?_
  intro p e s m below meth c T0 X0 I e0 es hJ hS
  obtain ⟨hx, hby, hml, hown, hnm, hret, hlk, hZ⟩ := I
  have N0 := Fr.nil n0
  have O0 := own_extr h0
  have hk0 : 0 ≤ h0.size := Nat.zero_le _
  refine own_cast (own_ef2 m a1 p1) ?_
  show own_Go _ _ _ _ T0 (mkF m 0 #[.val (.ref a1), .val (.int p1)] [])
  rw [hp1]
  show own_Go _ _ _ _ T0 (mkF m 0 #[.val (.ref a1), .val (.int 0)] [])
  refine own_st (fun _ k => XS.iloadN X0.here hx rfl (hb hby own_d2_0) rfl k) ?_
  refine own_st (fun _ k => XS.ifNo X0.here hx rfl (hb hby own_d2_1) rfl ((if0 _ _).trans (flt (by decide : ¬ ((0 : Int32) < (0 : Int32)))).2.2.1) k) ?_
  obtain ⟨T1, hp1, X1, e1, Et1, A1, D1, -, st1⟩ := newO X0 hx hZ hown (own_w9 hw) (own_w10 hw) (own_w11 hw) e0 (g := (mkF m 4 #[.val (.ref a1), .val (.int 0)] [])) rfl (hb hby own_d2_4) (by decide) (by decide)
  obtain ⟨b1, g1⟩ : ∃ z, z = h0.size := ⟨_, rfl⟩
  rw [← g1] at A1 D1 st1
  have s_b1 : h0.size ≤ b1 := Nat.le_trans O0.1 (Nat.le_of_eq g1.symm)
  have g_b1 : n0 ≤ b1 := Nat.le_trans Z0 s_b1
  have hk1 := Nat.le_trans hk0 Et1.1
  have O1 := own_extt O0 Et1
  have F_coder_b1 : Fld Z hp1 b1 "java/lang/String" "coder" "B" (.int 0) := D1 (Or.inr (own_w35 hw)) (ty := .byte) (by decide)
  have F_value_b1 : Fld Z hp1 b1 "java/lang/String" "value" "[B" .null := D1 (Or.inr (own_w37 hw)) (ty := (.array .byte)) (by decide)
  refine own_st st1 ?_
  refine own_st (fun _ k => XS.dup X1.here hx rfl (hb hby own_d2_7) rfl rfl k) ?_
  refine own_st (fun _ k => XS.iconst X1.here hx rfl (hb hby own_d2_8) k) ?_
  obtain ⟨T2, hp2, kk2, X2, e2, Et2, A2, st2⟩ := newP X1 hx hZ (aty := .char) (own_w0 hw) e1 (g := (mkF m 9 #[.val (.ref a1), .val (.int 0)] [(.int 0), (.ref b1), (.ref b1)])) rfl (hb hby own_d2_9) rfl (by decide) (cap := 0) (by decide) (by decide) (by decide) (by decide)
  obtain ⟨b2, g2⟩ : ∃ z, z = hp1.size := ⟨_, rfl⟩
  rw [← g2] at A2 st2
  have s_b2 : h0.size ≤ b2 := Nat.le_trans O1.1 (Nat.le_of_eq g2.symm)
  have g_b2 : n0 ≤ b2 := Nat.le_trans Z0 s_b2
  have lt_b1_b2 : b1 < b2 := Nat.lt_of_lt_of_le A1.lt (Nat.le_of_eq g2.symm)
  have hk2 := Nat.le_trans hk1 Et2.1
  have O2 := own_extt O1 Et2
  have Ex_b1_2 := A1.ext Et2
  have F_coder_b1_2 := F_coder_b1.ext Et2
  have F_value_b1_2 := F_value_b1.ext Et2
  have Va2 : Arv Z hp2 b2 kk2 .char (0 : Int32) [] (.int 0) := (Arv.new A2 (by decide)).pad (pad_rep [] (.int 0) 0)
  refine own_st st2 ?_
  obtain ⟨v3, T3, L3, hQ3, X3, hS, hZ, hown, st3⟩ := own_callIW (J := fun vm => IB Z vm []) X2 hS (by rw [e2]; exact hk2) hx hZ (y := (⟨"java/lang/String", "<init>", "([C)V"⟩ : MethodName)) rfl hown (own_w12 hw) (own_w13 hw) (own_w11 hw) (own_w14 hw) (by decide) (own_cc0 l hw [] b1 b2 kk2 hp2 n0 (Nat.le_trans Z0 O2.1) hh hcw (own_extt OZ O2) g_b1 Ex_b1_2 F_value_b1_2 F_coder_b1_2 Va2) (fun vm q => own_ibw hJ q) e2 (g := (mkF m 11 #[.val (.ref a1), .val (.int 0)] [(.ref b2), (.ref b1), (.ref b1)])) rfl (by rw [hml]; rfl) (argsL := [(.ref b2)]) (rest := [(.ref b1)]) (lenOf own_pd4 rfl) rfl rfl (W := 1) (Nat.le_of_eq rfl) (hb hby own_d2_11) (by decide) (by decide) (by decide) (by decide)
  obtain ⟨rfl, N3, K3, bv, kb, sa, Fvb, Fcb, Vb, hL, Gsv, Gsc⟩ := hQ3
  have hk3 : T3.heap.size ≤ T3.heap.size := Nat.le_refl _
  have O3 := own_extk O2 K3 s_b1
  have V_b2_3 := Va2.keep K3 (ninS (Nat.ne_of_gt lt_b1_b2) nin0)
  have Ex_b1_3 := Ex_b1_2.keep K3
  have N3' := Fr.app N0 N3
  refine own_st st3 ?_
  exact own_retAW X3 hS hk3 hx hret rfl hlk rfl (hb hby own_d2_14) ⟨b1, bv, kb, sa, rfl, N3', O3, s_b1, Ex_b1_3, Fvb, Fcb, Vb, own_lits (s := s) hL X3.warmed, Gsv, Gsc⟩ (by decide) (by decide)
def own_pf1x_Q (Z : State) (a1 sa sb : Addr) (p1 : Int32) (ks : ClassId) (h0 : Heap) (n0 : Nat) (v : Option Value) (h : Heap) (vm : Vm) (L : List Loc) : Prop := ∃ b bv k, v = some (.ref b) ∧ Fr n0 L ∧ Ext h0 h ∧ h0.size ≤ b ∧ Exa Z h b "java/lang/String" ∧ Fld Z h b "java/lang/String" "value" "[B" (.ref bv) ∧ Fld Z h b "java/lang/String" "coder" "B" (.int 0) ∧ Arv Z h bv k .byte (0 : Int32) [] (.int 0)
set_option maxRecDepth 65536 in
set_option maxHeartbeats 40000000 in
theorem own_pf1x (l : Launch) {Z : State} {a0 : Array Value} (hw : own_W Z a0) (ws : List Jvm.Cond) (a1 sa sb : Addr) (p1 : Int32) (ks : ClassId) (h0 : Heap) (n0 : Nat) (Z0 : n0 ≤ h0.size) (hp1 : p1 = 0) (Fsv : Fld Z h0 sa "java/lang/String" "value" "[B" (.ref sb)) (Fsc : Fld Z h0 sa "java/lang/String" "coder" "B" (.int 0)) (Vsb : Arv Z h0 sb ks .byte (0 : Int32) [] (.int 0)) :
    MetFree l (⟨"com/example/isoscope/isoscope/TokenIsPinLaw", "prefix", "([CI)Ljava/lang/String;"⟩ : MethodName) (head1 (Jvm.Cond.code (⟨"com/example/isoscope/isoscope/TokenIsPinLaw", "prefix", "([CI)Ljava/lang/String;"⟩ : MethodName) method_5_code 2 (some (.object "java/lang/String")) :: ws) ({ frames := 4, cells := 4, slots := 16, locals := 71 } : Room)) (fun a U => a = #[(.ref a1), (.int p1)] ∧ Z.Warmed39 U.vm ∧ U.heap = h0 ∧ (fun vm => Lit (Z.setVm vm) "java/lang/String" 7 sa) U.vm) (fun _ _ _ _ _ => True) (fun _ U o U' => ∃ v L, o = .returned v ∧ own_pf1x_Q Z a1 sa sb p1 ks h0 n0 v U'.heap U'.vm L ∧ ReturnedEndW U o U' L ({ frames := 4, cells := 4, slots := 16, locals := 71 } : Room).cells ({ frames := 4, cells := 4, slots := 16, locals := 71 } : Room).slots) := by
  refine own_enterW (J := fun vm => Lit (Z.setVm vm) "java/lang/String" 7 sa) (C := ({ frames := 4, cells := 4, slots := 16, locals := 71 } : Room).cells) (S := ({ frames := 4, cells := 4, slots := 16, locals := 71 } : Room).slots) (plainFor_of_name own_pn2) ?_
  intro p e s m below meth c T0 X0 I e0 es hJ hS
  obtain ⟨hx, hby, hml, hown, hnm, hret, hlk, hZ⟩ := I
  have N0 := Fr.nil n0
  have O0 := own_extr h0
  have hk0 : 0 ≤ h0.size := Nat.zero_le _
  refine own_cast (own_ef2 m a1 p1) ?_
  show own_Go _ _ _ _ T0 (mkF m 0 #[.val (.ref a1), .val (.int p1)] [])
  rw [hp1]
  show own_Go _ _ _ _ T0 (mkF m 0 #[.val (.ref a1), .val (.int 0)] [])
  refine own_st (fun _ k => XS.iloadN X0.here hx rfl (hb hby own_d2_0) rfl k) ?_
  refine own_st (fun _ k => XS.ifNo X0.here hx rfl (hb hby own_d2_1) rfl ((if0 _ _).trans (flt (by decide : ¬ ((0 : Int32) < (0 : Int32)))).2.2.1) k) ?_
  obtain ⟨T1, hp1, X1, e1, Et1, A1, D1, -, st1⟩ := newO X0 hx hZ hown (own_w9 hw) (own_w10 hw) (own_w11 hw) e0 (g := (mkF m 4 #[.val (.ref a1), .val (.int 0)] [])) rfl (hb hby own_d2_4) (by decide) (by decide)
  obtain ⟨b1, g1⟩ : ∃ z, z = h0.size := ⟨_, rfl⟩
  rw [← g1] at A1 D1 st1
  have s_b1 : h0.size ≤ b1 := Nat.le_trans O0.1 (Nat.le_of_eq g1.symm)
  have g_b1 : n0 ≤ b1 := Nat.le_trans Z0 s_b1
  have hk1 := Nat.le_trans hk0 Et1.1
  have O1 := own_extt O0 Et1
  have F_coder_b1 : Fld Z hp1 b1 "java/lang/String" "coder" "B" (.int 0) := D1 (Or.inr (own_w35 hw)) (ty := .byte) (by decide)
  have F_value_b1 : Fld Z hp1 b1 "java/lang/String" "value" "[B" .null := D1 (Or.inr (own_w37 hw)) (ty := (.array .byte)) (by decide)
  refine own_st st1 ?_
  refine own_st (fun _ k => XS.dup X1.here hx rfl (hb hby own_d2_7) rfl rfl k) ?_
  refine own_st (fun _ k => XS.iconst X1.here hx rfl (hb hby own_d2_8) k) ?_
  obtain ⟨T2, hp2, kk2, X2, e2, Et2, A2, st2⟩ := newP X1 hx hZ (aty := .char) (own_w0 hw) e1 (g := (mkF m 9 #[.val (.ref a1), .val (.int 0)] [(.int 0), (.ref b1), (.ref b1)])) rfl (hb hby own_d2_9) rfl (by decide) (cap := 0) (by decide) (by decide) (by decide) (by decide)
  obtain ⟨b2, g2⟩ : ∃ z, z = hp1.size := ⟨_, rfl⟩
  rw [← g2] at A2 st2
  have s_b2 : h0.size ≤ b2 := Nat.le_trans O1.1 (Nat.le_of_eq g2.symm)
  have g_b2 : n0 ≤ b2 := Nat.le_trans Z0 s_b2
  have lt_b1_b2 : b1 < b2 := Nat.lt_of_lt_of_le A1.lt (Nat.le_of_eq g2.symm)
  have hk2 := Nat.le_trans hk1 Et2.1
  have O2 := own_extt O1 Et2
  have Ex_b1_2 := A1.ext Et2
  have F_coder_b1_2 := F_coder_b1.ext Et2
  have F_value_b1_2 := F_value_b1.ext Et2
  have Va2 : Arv Z hp2 b2 kk2 .char (0 : Int32) [] (.int 0) := (Arv.new A2 (by decide)).pad (pad_rep [] (.int 0) 0)
  refine own_st st2 ?_
  obtain ⟨v3, T3, L3, hQ3, X3, hS, hZ, hown, st3⟩ := own_callIW (J := fun vm => Lit (Z.setVm vm) "java/lang/String" 7 sa) X2 hS (by rw [e2]; exact hk2) hx hZ (y := (⟨"java/lang/String", "<init>", "([C)V"⟩ : MethodName)) rfl hown (own_w12 hw) (own_w13 hw) (own_w11 hw) (own_w14 hw) (by decide) (own_cc1x l hw [] b1 b2 sa sb kk2 ks hp2 n0 (Nat.le_trans Z0 O2.1) g_b1 Ex_b1_2 F_value_b1_2 F_coder_b1_2 (Fsv.ext O2) (Fsc.ext O2) (Vsb.ext O2) Va2) (fun vm q => own_lits (s := s) hJ q) e2 (g := (mkF m 11 #[.val (.ref a1), .val (.int 0)] [(.ref b2), (.ref b1), (.ref b1)])) rfl (by rw [hml]; rfl) (argsL := [(.ref b2)]) (rest := [(.ref b1)]) (lenOf own_pd4 rfl) rfl rfl (W := 1) (Nat.le_of_eq rfl) (hb hby own_d2_11) (by decide) (by decide) (by decide) (by decide)
  obtain ⟨rfl, N3, K3, bv, kb, Fvb, Fcb, Vb⟩ := hQ3
  have hk3 : T3.heap.size ≤ T3.heap.size := Nat.le_refl _
  have O3 := own_extk O2 K3 s_b1
  have V_b2_3 := Va2.keep K3 (ninS (Nat.ne_of_gt lt_b1_b2) nin0)
  have Ex_b1_3 := Ex_b1_2.keep K3
  have N3' := Fr.app N0 N3
  refine own_st st3 ?_
  exact own_retAW X3 hS hk3 hx hret rfl hlk rfl (hb hby own_d2_14) ⟨b1, bv, kb, rfl, N3', O3, s_b1, Ex_b1_3, Fvb, Fcb, Vb⟩ (by decide) (by decide)
theorem own_lt0 (x : Int64) (h : ¬ lcmpW x 0 < 0) : 0 ≤ x.toInt := by
  have a : ¬ x < (0 : Int64) := fun e => h ((lw_lt x 0).mpr e)
  have z : (0 : Int64).toInt = 0 := by decide
  have : ¬ x.toInt < (0 : Int64).toInt := fun e => a (Int64.lt_iff_toInt_lt.mpr e)
  omega
theorem own_tcx {st i r : Int32} (hr : r.toInt ≤ 5) (h1 : ¬ lcmpW (st.toInt64 + i.toInt64) 0 < 0) (h2 : lcmpW (st.toInt64 + i.toInt64) r.toInt64 < 0) : ¬ (st.toInt64 + i.toInt64).toInt32 < 0 ∧ (st.toInt64 + i.toInt64).toInt32 < 6 := by
  have a := own_lt0 _ h1
  have b := Int64.lt_iff_toInt_lt.mp ((lw_lt _ _).mp h2)
  rw [c_i2l] at b
  have q := c_l2i (st.toInt64 + i.toInt64)
  have r1 := rng32 ((st.toInt64 + i.toInt64).toInt32)
  have z : (0 : Int32).toInt = 0 := by decide
  have z6 : (6 : Int32).toInt = 6 := by decide
  exact ⟨fun e => by have := Int32.lt_iff_toInt_lt.mp e; omega, Int32.lt_iff_toInt_lt.mpr (by omega)⟩
theorem own_gv (s0 s1 s2 s3 s4 s5 j : Int32) (h0 : ¬ j < 0) (h1 : j < 6) : ([(.int s0), (.int s1), (.int s2), (.int s3), (.int s4), (.int s5)] : List Value).getD j.toNatClampNeg (.int 0) = .int (own_get s0 s1 s2 s3 s4 s5 j) := by
  have a := Int32.lt_iff_toInt_lt.mp h1
  have b : ¬ j.toInt < (0 : Int32).toInt := fun q => h0 (Int32.lt_iff_toInt_lt.mpr q)
  have z : (0 : Int32).toInt = 0 := by decide
  have zn : (6 : Int32).toInt = 6 := by decide
  rcases own_rg6 j (by omega) (by omega) with rfl | rfl | rfl | rfl | rfl | rfl <;> rfl
def own_tc_Q (Z : State) (a1 : Addr) (i md bb r st s0 s1 s2 s3 s4 s5 : Int32) (k1 : ClassId) (h0 : Heap) (n0 : Nat) (v : Option Value) (h : Heap) (L : List Loc) : Prop := ∃ z, v = some (.int z) ∧ own_ch z ∧ Fr n0 L ∧ h = h0
set_option maxRecDepth 65536 in
set_option maxHeartbeats 40000000 in
theorem own_tc (l : Launch) {Z : State} {a0 : Array Value} (hw : own_W Z a0) (ws : List Jvm.Cond) (a1 : Addr) (i md bb r st s0 s1 s2 s3 s4 s5 : Int32) (k1 : ClassId) (h0 : Heap) (n0 : Nat) (Z0 : n0 ≤ h0.size) (hbb : own_ch bb) (hr : r.toInt ≤ 5) (gc0 : own_ch s0) (gc1 : own_ch s1) (gc2 : own_ch s2) (gc3 : own_ch s3) (gc4 : own_ch s4) (gc5 : own_ch s5) (V1 : Arv Z h0 a1 k1 .char (6 : Int32) [(.int s0), (.int s1), (.int s2), (.int s3), (.int s4), (.int s5)] (.int 0)) :
    MetFree l (⟨"com/example/isoscope/isoscope/TokenIsPinLaw", "tc", "(III[CII)C"⟩ : MethodName) (head1 (Jvm.Cond.code (⟨"com/example/isoscope/isoscope/TokenIsPinLaw", "tc", "(III[CII)C"⟩ : MethodName) method_3_code 9 (some .char) :: ws) ({ frames := 0, cells := 0, slots := 0, locals := 0 } : Room)) (fun a U => a = #[(.int i), (.int md), (.int bb), (.ref a1), (.int r), (.int st)] ∧ Z.Warmed39 U.vm ∧ U.heap = h0) (fun _ _ _ _ _ => True) (fun _ U o U' => ∃ v L, o = .returned v ∧ own_tc_Q Z a1 i md bb r st s0 s1 s2 s3 s4 s5 k1 h0 n0 v U'.heap L ∧ FrameEnd U o U' L ({ frames := 0, cells := 0, slots := 0, locals := 0 } : Room).cells ({ frames := 0, cells := 0, slots := 0, locals := 0 } : Room).slots) := by
  refine own_enter (C := ({ frames := 0, cells := 0, slots := 0, locals := 0 } : Room).cells) (S := ({ frames := 0, cells := 0, slots := 0, locals := 0 } : Room).slots) (plainFor_of_name own_pn2) ?_
  intro p e s m below meth c T0 X0 I e0
  obtain ⟨hx, hby, hml, hown, hnm, hret, hlk, hZ⟩ := I
  have N0 := Fr.nil n0
  have O0 := own_extr h0
  refine own_cast (own_ef1 m i md bb a1 r st) ?_
  show own_Go _ _ _ _ T0 (mkF m 0 #[.val (.int i), .val (.int md), .val (.int bb), .val (.ref a1), .val (.int r), .val (.int st), .unset, .unset, .unset] [])
  refine own_st (fun _ k => XS.iload X0.here hx rfl (hb hby own_d1_0) rfl k) ?_
  refine own_st (fun _ k => XS.i2l X0.here hx rfl (hb hby own_d1_2) rfl k) ?_
  refine own_st (fun _ k => XS.iloadN X0.here hx rfl (hb hby own_d1_3) rfl k) ?_
  refine own_st (fun _ k => XS.i2l X0.here hx rfl (hb hby own_d1_4) rfl k) ?_
  refine own_st (fun _ k => XS.ladd X0.here hx rfl (hb hby own_d1_5) rfl k) ?_
  refine own_st (fun _ k => XS.lstore X0.here hx rfl (hb hby own_d1_6) rfl (l' := #[.val (.int i), .val (.int md), .val (.int bb), .val (.ref a1), .val (.int r), .val (.int st), .val (.long ((st.toInt64) + (i.toInt64))), .second, .unset]) rfl k) ?_
  refine own_st (fun _ k => XS.iloadN X0.here hx rfl (hb hby own_d1_8) rfl k) ?_
  by_cases h1 : md = (0 : Int32)
  · refine own_st (fun _ k => XS.ifYes X0.here hx rfl (pc0 := 9) (pc' := 33) rfl (hb hby own_d1_9) rfl ((if0 _ _).trans (teq (h1 : md = (0 : Int32))).1) (by decide) (by decide) k) ?_
    show own_Go _ _ _ _ T0 (mkF m 33 #[.val (.int i), .val (.int md), .val (.int bb), .val (.ref a1), .val (.int r), .val (.int st), .val (.long ((st.toInt64) + (i.toInt64))), .second, .unset] [])
    refine own_st (fun _ k => XS.iloadN X0.here hx rfl (hb hby own_d1_33) rfl k) ?_
    refine own_st (fun _ k => XS.i2c X0.here hx rfl (hb hby own_d1_34) rfl k) ?_
    exact own_retN X0 hx hret (by simp) hlk (hb hby own_d1_35) ⟨_, rfl, own_i2c hbb, N0, e0⟩ (by decide) (by decide)
  · refine own_st (fun _ k => XS.ifNo X0.here hx rfl (hb hby own_d1_9) rfl ((if0 _ _).trans (feq (h1 : ¬ (md = (0 : Int32)))).1) k) ?_
    show own_Go _ _ _ _ T0 (mkF m 12 #[.val (.int i), .val (.int md), .val (.int bb), .val (.ref a1), .val (.int r), .val (.int st), .val (.long ((st.toInt64) + (i.toInt64))), .second, .unset] [])
    refine own_st (fun _ k => XS.iloadN X0.here hx rfl (hb hby own_d1_12) rfl k) ?_
    refine own_st (fun _ k => XS.iconst X0.here hx rfl (hb hby own_d1_13) k) ?_
    by_cases h2 : md = (3 : Int32)
    · refine own_st (fun _ k => XS.icmpYes X0.here hx rfl (pc0 := 14) (pc' := 33) rfl (hb hby own_d1_14) rfl (teq (h2 : md = (3 : Int32))).1 (by decide) (by decide) k) ?_
      refine own_st (fun _ k => XS.iloadN X0.here hx rfl (hb hby own_d1_33) rfl k) ?_
      refine own_st (fun _ k => XS.i2c X0.here hx rfl (hb hby own_d1_34) rfl k) ?_
      exact own_retN X0 hx hret (by simp) hlk (hb hby own_d1_35) ⟨_, rfl, own_i2c hbb, N0, e0⟩ (by decide) (by decide)
    · refine own_st (fun _ k => XS.icmpNo X0.here hx rfl (hb hby own_d1_14) rfl (feq (h2 : ¬ (md = (3 : Int32)))).1 k) ?_
      refine own_st (fun _ k => XS.lload X0.here hx rfl (hb hby own_d1_17) rfl k) ?_
      refine own_st (fun _ k => XS.lconst X0.here hx rfl (hb hby own_d1_19) k) ?_
      refine own_st (fun _ k => XS.lcmp X0.here hx rfl (hb hby own_d1_20) rfl k) ?_
      by_cases h3 : (lcmpW ((st.toInt64) + (i.toInt64)) (0 : Int64)) < (0 : Int32)
      · refine own_st (fun _ k => XS.ifYes X0.here hx rfl (pc0 := 21) (pc' := 33) rfl (hb hby own_d1_21) rfl ((if0 _ _).trans (tlt (h3 : (lcmpW ((st.toInt64) + (i.toInt64)) (0 : Int64)) < (0 : Int32))).1) (by decide) (by decide) k) ?_
        refine own_st (fun _ k => XS.iloadN X0.here hx rfl (hb hby own_d1_33) rfl k) ?_
        show own_Go _ _ _ _ T0 (mkF m 34 #[.val (.int i), .val (.int md), .val (.int bb), .val (.ref a1), .val (.int r), .val (.int st), .val (.long ((st.toInt64) + (i.toInt64))), .second, .unset] [(.int bb)])
        refine own_st (fun _ k => XS.i2c X0.here hx rfl (hb hby own_d1_34) rfl k) ?_
        exact own_retN X0 hx hret (by simp) hlk (hb hby own_d1_35) ⟨_, rfl, own_i2c hbb, N0, e0⟩ (by decide) (by decide)
      · refine own_st (fun _ k => XS.ifNo X0.here hx rfl (hb hby own_d1_21) rfl ((if0 _ _).trans (flt (h3 : ¬ ((lcmpW ((st.toInt64) + (i.toInt64)) (0 : Int64)) < (0 : Int32)))).1) k) ?_
        refine own_st (fun _ k => XS.lload X0.here hx rfl (hb hby own_d1_24) rfl k) ?_
        show own_Go _ _ _ _ T0 (mkF m 26 #[.val (.int i), .val (.int md), .val (.int bb), .val (.ref a1), .val (.int r), .val (.int st), .val (.long ((st.toInt64) + (i.toInt64))), .second, .unset] [(.long ((st.toInt64) + (i.toInt64)))])
        refine own_st (fun _ k => XS.iload X0.here hx rfl (hb hby own_d1_26) rfl k) ?_
        refine own_st (fun _ k => XS.i2l X0.here hx rfl (hb hby own_d1_28) rfl k) ?_
        refine own_st (fun _ k => XS.lcmp X0.here hx rfl (hb hby own_d1_29) rfl k) ?_
        by_cases h4 : (lcmpW ((st.toInt64) + (i.toInt64)) (r.toInt64)) < (0 : Int32)
        · refine own_st (fun _ k => XS.ifYes X0.here hx rfl (pc0 := 30) (pc' := 36) rfl (hb hby own_d1_30) rfl ((if0 _ _).trans (tlt (h4 : (lcmpW ((st.toInt64) + (i.toInt64)) (r.toInt64)) < (0 : Int32))).1) (by decide) (by decide) k) ?_
          refine own_st (fun _ k => XS.aloadN X0.here hx rfl (hb hby own_d1_36) rfl rfl k) ?_
          refine own_st (fun _ k => XS.lload X0.here hx rfl (hb hby own_d1_37) rfl k) ?_
          refine own_st (fun _ k => XS.l2i X0.here hx rfl (hb hby own_d1_39) rfl k) ?_
          refine own_st (own_ldC X0 hx hZ e0 (V1.ext O0) (j := (((st.toInt64) + (i.toInt64)).toInt32)) (own_tcx hr h3 h4) (v := (.int (own_get s0 s1 s2 s3 s4 s5 (((st.toInt64) + (i.toInt64)).toInt32)))) (own_gv s0 s1 s2 s3 s4 s5 _ (own_tcx hr h3 h4).1 (own_tcx hr h3 h4).2) (g := (mkF m 40 #[.val (.int i), .val (.int md), .val (.int bb), .val (.ref a1), .val (.int r), .val (.int st), .val (.long ((st.toInt64) + (i.toInt64))), .second, .unset] [(.int (((st.toInt64) + (i.toInt64)).toInt32)), (.ref a1)])) rfl rfl (hb hby own_d1_40)) ?_
          show own_Go _ _ _ _ T0 (mkF m 41 #[.val (.int i), .val (.int md), .val (.int bb), .val (.ref a1), .val (.int r), .val (.int st), .val (.long ((st.toInt64) + (i.toInt64))), .second, .unset] [(.int (own_get s0 s1 s2 s3 s4 s5 (((st.toInt64) + (i.toInt64)).toInt32)))])
          refine own_st (fun _ k => XS.istore X0.here hx rfl (hb hby own_d1_41) rfl (l' := #[.val (.int i), .val (.int md), .val (.int bb), .val (.ref a1), .val (.int r), .val (.int st), .val (.long ((st.toInt64) + (i.toInt64))), .second, .val (.int (own_get s0 s1 s2 s3 s4 s5 (((st.toInt64) + (i.toInt64)).toInt32)))]) rfl k) ?_
          refine own_st (fun _ k => XS.iloadN X0.here hx rfl (hb hby own_d1_43) rfl k) ?_
          refine own_st (fun _ k => XS.iconst X0.here hx rfl (hb hby own_d1_44) k) ?_
          by_cases h5 : md = (1 : Int32)
          · refine own_st (fun _ k => XS.icmpNo X0.here hx rfl (hb hby own_d1_45) rfl (teq (h5 : md = (1 : Int32))).2 k) ?_
            refine own_st (fun _ k => XS.iload X0.here hx rfl (hb hby own_d1_48) rfl k) ?_
            exact own_retN X0 hx hret (by simp) hlk (hb hby own_d1_50) ⟨_, rfl, (by rw [own_narc (own_gch gc0 gc1 gc2 gc3 gc4 gc5 _)]; exact own_gch gc0 gc1 gc2 gc3 gc4 gc5 _), N0, e0⟩ (by decide) (by decide)
          · refine own_st (fun _ k => XS.icmpYes X0.here hx rfl (pc0 := 45) (pc' := 51) rfl (hb hby own_d1_45) rfl (feq (h5 : ¬ (md = (1 : Int32)))).2 (by decide) (by decide) k) ?_
            refine own_st (fun _ k => XS.iload X0.here hx rfl (hb hby own_d1_51) rfl k) ?_
            refine own_st (fun _ k => XS.bipush X0.here hx rfl (hb hby own_d1_53) k) ?_
            refine own_st (fun _ k => XS.ixor X0.here hx rfl (hb hby own_d1_55) rfl k) ?_
            refine own_st (fun _ k => XS.i2c X0.here hx rfl (hb hby own_d1_56) rfl k) ?_
            show own_Go _ _ _ _ T0 (mkF m 57 #[.val (.int i), .val (.int md), .val (.int bb), .val (.ref a1), .val (.int r), .val (.int st), .val (.long ((st.toInt64) + (i.toInt64))), .second, .val (.int (own_get s0 s1 s2 s3 s4 s5 (((st.toInt64) + (i.toInt64)).toInt32)))] [(.int (((own_get s0 s1 s2 s3 s4 s5 (((st.toInt64) + (i.toInt64)).toInt32)) ^^^ (32 : Int32)).toUInt32.toUInt16.toUInt32.toInt32))])
            exact own_retN X0 hx hret (by simp) hlk (hb hby own_d1_57) ⟨_, rfl, own_i2c (own_xor (own_gch gc0 gc1 gc2 gc3 gc4 gc5 _)), N0, e0⟩ (by decide) (by decide)
        · refine own_st (fun _ k => XS.ifNo X0.here hx rfl (hb hby own_d1_30) rfl ((if0 _ _).trans (flt (h4 : ¬ ((lcmpW ((st.toInt64) + (i.toInt64)) (r.toInt64)) < (0 : Int32)))).1) k) ?_
          refine own_st (fun _ k => XS.iloadN X0.here hx rfl (hb hby own_d1_33) rfl k) ?_
          refine own_st (fun _ k => XS.i2c X0.here hx rfl (hb hby own_d1_34) rfl k) ?_
          exact own_retN X0 hx hret (by simp) hlk (hb hby own_d1_35) ⟨_, rfl, own_i2c hbb, N0, e0⟩ (by decide) (by decide)
def own_kind_Q (Z : State) (p1 : Int32) (w0 w1 w2 w3 w4 w5 w6 w7 w8 : Addr) (h0 : Heap) (n0 : Nat) (v : Option Value) (h : Heap) (L : List Loc) : Prop := v = some (.ref (own_kd p1 w0 w1 w2 w3 w4 w5 w6 w7 w8)) ∧ Fr n0 L ∧ h = h0
set_option maxRecDepth 65536 in
set_option maxHeartbeats 40000000 in
theorem own_kind (l : Launch) {Z : State} {a0 : Array Value} (hw : own_W Z a0) (ws : List Jvm.Cond) (p1 : Int32) (w0 w1 w2 w3 w4 w5 w6 w7 w8 : Addr) (h0 : Heap) (n0 : Nat) (Z0 : n0 ≤ h0.size) (S0 : Sta Z h0 "com/example/isoscope/isoscope/SqlLexer$Kind" "WORD" "Lcom/example/isoscope/isoscope/SqlLexer$Kind;" (.ref w0)) (S1 : Sta Z h0 "com/example/isoscope/isoscope/SqlLexer$Kind" "QUOTED_NAME" "Lcom/example/isoscope/isoscope/SqlLexer$Kind;" (.ref w1)) (S2 : Sta Z h0 "com/example/isoscope/isoscope/SqlLexer$Kind" "STRING" "Lcom/example/isoscope/isoscope/SqlLexer$Kind;" (.ref w2)) (S3 : Sta Z h0 "com/example/isoscope/isoscope/SqlLexer$Kind" "NUMBER" "Lcom/example/isoscope/isoscope/SqlLexer$Kind;" (.ref w3)) (S4 : Sta Z h0 "com/example/isoscope/isoscope/SqlLexer$Kind" "PARAMETER" "Lcom/example/isoscope/isoscope/SqlLexer$Kind;" (.ref w4)) (S5 : Sta Z h0 "com/example/isoscope/isoscope/SqlLexer$Kind" "OPERATOR" "Lcom/example/isoscope/isoscope/SqlLexer$Kind;" (.ref w5)) (S6 : Sta Z h0 "com/example/isoscope/isoscope/SqlLexer$Kind" "SEMICOLON" "Lcom/example/isoscope/isoscope/SqlLexer$Kind;" (.ref w6)) (S7 : Sta Z h0 "com/example/isoscope/isoscope/SqlLexer$Kind" "PUNCTUATION" "Lcom/example/isoscope/isoscope/SqlLexer$Kind;" (.ref w7)) (S8 : Sta Z h0 "com/example/isoscope/isoscope/SqlLexer$Kind" "COMMENT" "Lcom/example/isoscope/isoscope/SqlLexer$Kind;" (.ref w8)) :
    MetFree l (⟨"com/example/isoscope/isoscope/TokenIsPinLaw", "kind", "(I)Lcom/example/isoscope/isoscope/SqlLexer$Kind;"⟩ : MethodName) (head1 (Jvm.Cond.code (⟨"com/example/isoscope/isoscope/TokenIsPinLaw", "kind", "(I)Lcom/example/isoscope/isoscope/SqlLexer$Kind;"⟩ : MethodName) method_6_code 1 (some (.object "com/example/isoscope/isoscope/SqlLexer$Kind")) :: ws) ({ frames := 0, cells := 0, slots := 0, locals := 0 } : Room)) (fun a U => a = #[(.int p1)] ∧ Z.Warmed39 U.vm ∧ U.heap = h0) (fun _ _ _ _ _ => True) (fun _ U o U' => ∃ v L, o = .returned v ∧ own_kind_Q Z p1 w0 w1 w2 w3 w4 w5 w6 w7 w8 h0 n0 v U'.heap L ∧ FrameEnd U o U' L ({ frames := 0, cells := 0, slots := 0, locals := 0 } : Room).cells ({ frames := 0, cells := 0, slots := 0, locals := 0 } : Room).slots) := by
  refine own_enter (C := ({ frames := 0, cells := 0, slots := 0, locals := 0 } : Room).cells) (S := ({ frames := 0, cells := 0, slots := 0, locals := 0 } : Room).slots) (plainFor_of_name own_pn2) ?_
  intro p e s m below meth c T0 X0 I e0
  obtain ⟨hx, hby, hml, hown, hnm, hret, hlk, hZ⟩ := I
  have N0 := Fr.nil n0
  have O0 := own_extr h0
  refine own_cast (own_ef9 m p1) ?_
  show own_Go _ _ _ _ T0 (mkF m 0 #[.val (.int p1)] [])
  refine own_st (fun _ k => XS.iloadN X0.here hx rfl (hb hby own_d9_0) rfl k) ?_
  by_cases hq0 : p1 = (0 : Int32)
  · refine own_st (fun _ k => XS.ifNo X0.here hx rfl (hb hby own_d9_1) rfl ((if0 _ _).trans (teq (hq0 : p1 = (0 : Int32))).2) k) ?_
    obtain ⟨T1, X1, e1, st1⟩ := getS2 X0 hx hZ hown (host := "") (Or.inl (own_w47 hw)) Via.refl e0 (S0.ext O0) (g := (mkF m 4 #[.val (.int p1)] [])) rfl (hb hby own_d9_4)
    refine own_st st1 ?_
    exact own_retA X1 hx hret rfl hlk rfl (hb hby own_d9_7) ⟨by simp [own_kd, *], N0, e1⟩ (by decide) (by decide)
  · refine own_st (fun _ k => XS.ifYes X0.here hx rfl (pc0 := 1) (pc' := 8) rfl (hb hby own_d9_1) rfl ((if0 _ _).trans (feq (hq0 : ¬ (p1 = (0 : Int32)))).2) (by decide) (by decide) k) ?_
    refine own_st (fun _ k => XS.iloadN X0.here hx rfl (hb hby own_d9_8) rfl k) ?_
    refine own_st (fun _ k => XS.iconst X0.here hx rfl (hb hby own_d9_9) k) ?_
    by_cases hq1 : p1 = (1 : Int32)
    · refine own_st (fun _ k => XS.icmpNo X0.here hx rfl (hb hby own_d9_10) rfl (teq (hq1 : p1 = (1 : Int32))).2 k) ?_
      obtain ⟨T2, X2, e2, st2⟩ := getS2 X0 hx hZ hown (host := "") (Or.inl (own_w96 hw)) Via.refl e0 (S1.ext O0) (g := (mkF m 13 #[.val (.int p1)] [])) rfl (hb hby own_d9_13)
      refine own_st st2 ?_
      exact own_retA X2 hx hret rfl hlk rfl (hb hby own_d9_16) ⟨by simp [own_kd, *], N0, e2⟩ (by decide) (by decide)
    · refine own_st (fun _ k => XS.icmpYes X0.here hx rfl (pc0 := 10) (pc' := 17) rfl (hb hby own_d9_10) rfl (feq (hq1 : ¬ (p1 = (1 : Int32)))).2 (by decide) (by decide) k) ?_
      refine own_st (fun _ k => XS.iloadN X0.here hx rfl (hb hby own_d9_17) rfl k) ?_
      refine own_st (fun _ k => XS.iconst X0.here hx rfl (hb hby own_d9_18) k) ?_
      by_cases hq2 : p1 = (2 : Int32)
      · refine own_st (fun _ k => XS.icmpNo X0.here hx rfl (hb hby own_d9_19) rfl (teq (hq2 : p1 = (2 : Int32))).2 k) ?_
        show own_Go _ _ _ _ T0 (mkF m 22 #[.val (.int p1)] [])
        obtain ⟨T3, X3, e3, st3⟩ := getS2 X0 hx hZ hown (host := "") (Or.inl (own_w100 hw)) Via.refl e0 (S2.ext O0) (g := (mkF m 22 #[.val (.int p1)] [])) rfl (hb hby own_d9_22)
        refine own_st st3 ?_
        exact own_retA X3 hx hret rfl hlk rfl (hb hby own_d9_25) ⟨by simp [own_kd, *], N0, e3⟩ (by decide) (by decide)
      · refine own_st (fun _ k => XS.icmpYes X0.here hx rfl (pc0 := 19) (pc' := 26) rfl (hb hby own_d9_19) rfl (feq (hq2 : ¬ (p1 = (2 : Int32)))).2 (by decide) (by decide) k) ?_
        show own_Go _ _ _ _ T0 (mkF m 26 #[.val (.int p1)] [])
        refine own_st (fun _ k => XS.iloadN X0.here hx rfl (hb hby own_d9_26) rfl k) ?_
        refine own_st (fun _ k => XS.iconst X0.here hx rfl (hb hby own_d9_27) k) ?_
        by_cases hq3 : p1 = (3 : Int32)
        · refine own_st (fun _ k => XS.icmpNo X0.here hx rfl (hb hby own_d9_28) rfl (teq (hq3 : p1 = (3 : Int32))).2 k) ?_
          obtain ⟨T4, X4, e4, st4⟩ := getS2 X0 hx hZ hown (host := "") (Or.inl (own_w102 hw)) Via.refl e0 (S3.ext O0) (g := (mkF m 31 #[.val (.int p1)] [])) rfl (hb hby own_d9_31)
          refine own_st st4 ?_
          exact own_retA X4 hx hret rfl hlk rfl (hb hby own_d9_34) ⟨by simp [own_kd, *], N0, e4⟩ (by decide) (by decide)
        · refine own_st (fun _ k => XS.icmpYes X0.here hx rfl (pc0 := 28) (pc' := 35) rfl (hb hby own_d9_28) rfl (feq (hq3 : ¬ (p1 = (3 : Int32)))).2 (by decide) (by decide) k) ?_
          refine own_st (fun _ k => XS.iloadN X0.here hx rfl (hb hby own_d9_35) rfl k) ?_
          refine own_st (fun _ k => XS.iconst X0.here hx rfl (hb hby own_d9_36) k) ?_
          by_cases hq4 : p1 = (4 : Int32)
          · refine own_st (fun _ k => XS.icmpNo X0.here hx rfl (hb hby own_d9_37) rfl (teq (hq4 : p1 = (4 : Int32))).2 k) ?_
            obtain ⟨T5, X5, e5, st5⟩ := getS2 X0 hx hZ hown (host := "") (Or.inl (own_w104 hw)) Via.refl e0 (S4.ext O0) (g := (mkF m 40 #[.val (.int p1)] [])) rfl (hb hby own_d9_40)
            refine own_st st5 ?_
            exact own_retA X5 hx hret rfl hlk rfl (hb hby own_d9_43) ⟨by simp [own_kd, *], N0, e5⟩ (by decide) (by decide)
          · refine own_st (fun _ k => XS.icmpYes X0.here hx rfl (pc0 := 37) (pc' := 44) rfl (hb hby own_d9_37) rfl (feq (hq4 : ¬ (p1 = (4 : Int32)))).2 (by decide) (by decide) k) ?_
            refine own_st (fun _ k => XS.iloadN X0.here hx rfl (hb hby own_d9_44) rfl k) ?_
            refine own_st (fun _ k => XS.iconst X0.here hx rfl (hb hby own_d9_45) k) ?_
            show own_Go _ _ _ _ T0 (mkF m 46 #[.val (.int p1)] [(.int 5), (.int p1)])
            by_cases hq5 : p1 = (5 : Int32)
            · refine own_st (fun _ k => XS.icmpNo X0.here hx rfl (hb hby own_d9_46) rfl (teq (hq5 : p1 = (5 : Int32))).2 k) ?_
              obtain ⟨T6, X6, e6, st6⟩ := getS2 X0 hx hZ hown (host := "") (Or.inl (own_w92 hw)) Via.refl e0 (S5.ext O0) (g := (mkF m 49 #[.val (.int p1)] [])) rfl (hb hby own_d9_49)
              refine own_st st6 ?_
              exact own_retA X6 hx hret rfl hlk rfl (hb hby own_d9_52) ⟨by simp [own_kd, *], N0, e6⟩ (by decide) (by decide)
            · refine own_st (fun _ k => XS.icmpYes X0.here hx rfl (pc0 := 46) (pc' := 53) rfl (hb hby own_d9_46) rfl (feq (hq5 : ¬ (p1 = (5 : Int32)))).2 (by decide) (by decide) k) ?_
              refine own_st (fun _ k => XS.iloadN X0.here hx rfl (hb hby own_d9_53) rfl k) ?_
              refine own_st (fun _ k => XS.bipush X0.here hx rfl (hb hby own_d9_54) k) ?_
              by_cases hq6 : p1 = (6 : Int32)
              · refine own_st (fun _ k => XS.icmpNo X0.here hx rfl (hb hby own_d9_56) rfl (teq (hq6 : p1 = (6 : Int32))).2 k) ?_
                obtain ⟨T7, X7, e7, st7⟩ := getS2 X0 hx hZ hown (host := "") (Or.inl (own_w94 hw)) Via.refl e0 (S6.ext O0) (g := (mkF m 59 #[.val (.int p1)] [])) rfl (hb hby own_d9_59)
                refine own_st st7 ?_
                exact own_retA X7 hx hret rfl hlk rfl (hb hby own_d9_62) ⟨by simp [own_kd, *], N0, e7⟩ (by decide) (by decide)
              · refine own_st (fun _ k => XS.icmpYes X0.here hx rfl (pc0 := 56) (pc' := 63) rfl (hb hby own_d9_56) rfl (feq (hq6 : ¬ (p1 = (6 : Int32)))).2 (by decide) (by decide) k) ?_
                refine own_st (fun _ k => XS.iloadN X0.here hx rfl (hb hby own_d9_63) rfl k) ?_
                refine own_st (fun _ k => XS.bipush X0.here hx rfl (hb hby own_d9_64) k) ?_
                by_cases hq7 : p1 = (7 : Int32)
                · refine own_st (fun _ k => XS.icmpNo X0.here hx rfl (hb hby own_d9_66) rfl (teq (hq7 : p1 = (7 : Int32))).2 k) ?_
                  obtain ⟨T8, X8, e8, st8⟩ := getS2 X0 hx hZ hown (host := "") (Or.inl (own_w87 hw)) Via.refl e0 (S7.ext O0) (g := (mkF m 69 #[.val (.int p1)] [])) rfl (hb hby own_d9_69)
                  refine own_st st8 ?_
                  show own_Go _ _ _ _ T8 (mkF m 72 #[.val (.int p1)] [(.ref w7)])
                  exact own_retA X8 hx hret rfl hlk rfl (hb hby own_d9_72) ⟨by simp [own_kd, *], N0, e8⟩ (by decide) (by decide)
                · refine own_st (fun _ k => XS.icmpYes X0.here hx rfl (pc0 := 66) (pc' := 73) rfl (hb hby own_d9_66) rfl (feq (hq7 : ¬ (p1 = (7 : Int32)))).2 (by decide) (by decide) k) ?_
                  obtain ⟨T9, X9, e9, st9⟩ := getS2 X0 hx hZ hown (host := "") (Or.inl (own_w98 hw)) Via.refl e0 (S8.ext O0) (g := (mkF m 73 #[.val (.int p1)] [])) rfl (hb hby own_d9_73)
                  refine own_st st9 ?_
                  show own_Go _ _ _ _ T9 (mkF m 76 #[.val (.int p1)] [(.ref w8)])
                  exact own_retA X9 hx hret rfl hlk rfl (hb hby own_d9_76) ⟨by simp [own_kd, *], N0, e9⟩ (by decide) (by decide)
def own_rc_Q (Z : State) (a1 : Addr) (h0 : Heap) (n0 : Nat) (v : Option Value) (h : Heap) (L : List Loc) : Prop := v = none ∧ Fr n0 L ∧ h = h0
set_option maxRecDepth 65536 in
set_option maxHeartbeats 40000000 in
theorem own_rc (l : Launch) {Z : State} {a0 : Array Value} (hw : own_W Z a0) (ws : List Jvm.Cond) (a1 : Addr) (h0 : Heap) (n0 : Nat) (Z0 : n0 ≤ h0.size)  :
    MetFree l (⟨"java/lang/Record", "<init>", "()V"⟩ : MethodName) (head1 (Jvm.Cond.code (⟨"java/lang/Record", "<init>", "()V"⟩ : MethodName) jdk_30_method_1_code 1 none :: ws) ({ frames := 1, cells := 0, slots := 0, locals := 12 } : Room)) (fun a U => a = #[(.ref a1)] ∧ Z.Warmed39 U.vm ∧ U.heap = h0) (fun _ _ _ _ _ => True) (fun _ U o U' => ∃ v L, o = .returned v ∧ own_rc_Q Z a1 h0 n0 v U'.heap L ∧ FrameEnd U o U' L ({ frames := 1, cells := 0, slots := 0, locals := 12 } : Room).cells ({ frames := 1, cells := 0, slots := 0, locals := 12 } : Room).slots) := by
  refine own_enter (C := ({ frames := 1, cells := 0, slots := 0, locals := 12 } : Room).cells) (S := ({ frames := 1, cells := 0, slots := 0, locals := 12 } : Room).slots) (plainFor_of_name own_pn3) ?_
  intro p e s m below meth c T0 X0 I e0
  obtain ⟨hx, hby, hml, hown, hnm, hret, hlk, hZ⟩ := I
  have N0 := Fr.nil n0
  have O0 := own_extr h0
  refine own_cast (own_ef11 m a1) ?_
  show own_Go _ _ _ _ T0 (mkF m 0 #[.val (.ref a1)] [])
  refine own_st (fun _ k => XS.aloadN X0.here hx rfl (hb hby own_d11_0) rfl rfl k) ?_
  obtain ⟨T1, X1, e1, st1⟩ := initO X0 hx hZ hown (own_w58 hw) (own_w20 hw) (own_w21 hw) e0 (g := (mkF m 1 #[.val (.ref a1)] [(.ref a1)])) rfl (by rw [hml]; rfl) rfl (hb hby own_d11_1) (by decide) (W := 0) (Nat.le_of_eq rfl) (by decide)
  refine own_st st1 ?_
  exact own_retV X1 hx hret hlk (hb hby own_d11_4) ⟨rfl, N0, e1⟩ (by decide) (by decide)
def own_tk_Q (Z : State) (a1 a2 : Addr) (st en sp : Int32) (h0 : Heap) (n0 : Nat) (v : Option Value) (h : Heap) (L : List Loc) : Prop := v = none ∧ Fr n0 L ∧ Keep h0 h [a1] ∧ Fld Z h a1 "com/example/isoscope/isoscope/SqlLexer$Token" "kind" "Lcom/example/isoscope/isoscope/SqlLexer$Kind;" (.ref a2) ∧ Fld Z h a1 "com/example/isoscope/isoscope/SqlLexer$Token" "start" "I" (.int st) ∧ Fld Z h a1 "com/example/isoscope/isoscope/SqlLexer$Token" "end" "I" (.int en)
set_option maxRecDepth 65536 in
set_option maxHeartbeats 40000000 in
theorem own_tk (l : Launch) {Z : State} {a0 : Array Value} (hw : own_W Z a0) (ws : List Jvm.Cond) (a1 a2 : Addr) (st en sp : Int32) (h0 : Heap) (n0 : Nat) (Z0 : n0 ≤ h0.size) (g_a1 : n0 ≤ a1) (Ea : Exa Z h0 a1 "com/example/isoscope/isoscope/SqlLexer$Token") (F_kind : Fld Z h0 a1 "com/example/isoscope/isoscope/SqlLexer$Token" "kind" "Lcom/example/isoscope/isoscope/SqlLexer$Kind;" .null) (F_start : Fld Z h0 a1 "com/example/isoscope/isoscope/SqlLexer$Token" "start" "I" (.int 0)) (F_end : Fld Z h0 a1 "com/example/isoscope/isoscope/SqlLexer$Token" "end" "I" (.int 0)) (F_spaced : Fld Z h0 a1 "com/example/isoscope/isoscope/SqlLexer$Token" "spaced" "Z" (.int 0)) :
    MetFree l (⟨"com/example/isoscope/isoscope/SqlLexer$Token", "<init>", "(Lcom/example/isoscope/isoscope/SqlLexer$Kind;IIZ)V"⟩ : MethodName) (head1 (Jvm.Cond.code (⟨"com/example/isoscope/isoscope/SqlLexer$Token", "<init>", "(Lcom/example/isoscope/isoscope/SqlLexer$Kind;IIZ)V"⟩ : MethodName) prog_29_method_1_code 5 none :: ws) ({ frames := 2, cells := 0, slots := 0, locals := 24 } : Room)) (fun a U => a = #[(.ref a1), (.ref a2), (.int st), (.int en), (.int sp)] ∧ Z.Warmed39 U.vm ∧ U.heap = h0) (fun _ _ _ _ _ => True) (fun _ U o U' => ∃ v L, o = .returned v ∧ own_tk_Q Z a1 a2 st en sp h0 n0 v U'.heap L ∧ FrameEnd U o U' L ({ frames := 2, cells := 0, slots := 0, locals := 24 } : Room).cells ({ frames := 2, cells := 0, slots := 0, locals := 24 } : Room).slots) := by
  refine own_enter (C := ({ frames := 2, cells := 0, slots := 0, locals := 24 } : Room).cells) (S := ({ frames := 2, cells := 0, slots := 0, locals := 24 } : Room).slots) (plainFor_of_name own_pn4) ?_
  intro p e s m below meth c T0 X0 I e0
  obtain ⟨hx, hby, hml, hown, hnm, hret, hlk, hZ⟩ := I
  have N0 := Fr.nil n0
  have O0 := own_extr h0
  refine own_cast (own_ef10 m a1 a2 st en sp) ?_
  show own_Go _ _ _ _ T0 (mkF m 0 #[.val (.ref a1), .val (.ref a2), .val (.int st), .val (.int en), .val (.int sp)] [])
  have K0 := Keep.refl h0 [a1]
  refine own_st (fun _ k => XS.aloadN X0.here hx rfl (hb hby own_d10_0) rfl rfl k) ?_
  obtain ⟨v1, T1, L1, hQ1, X1, st1⟩ := own_callI X0 hx hZ (y := (⟨"java/lang/Record", "<init>", "()V"⟩ : MethodName)) rfl hown (own_w53 hw) (own_w54 hw) (own_w56 hw) (own_w57 hw) (by decide) (own_rc l hw [] a1 h0 n0 Z0) e0 (g := (mkF m 1 #[.val (.ref a1), .val (.ref a2), .val (.int st), .val (.int en), .val (.int sp)] [(.ref a1)])) rfl (by rw [hml]; rfl) (argsL := []) (rest := []) (lenOf own_pd5 rfl) rfl rfl (W := 0) (Nat.le_of_eq rfl) (hb hby own_d10_1) (by decide) (by decide) (by decide) (by decide)
  obtain ⟨rfl, N1, e1⟩ := hQ1
  have N1' := Fr.app N0 N1
  refine own_st st1 ?_
  refine own_st (fun _ k => XS.aloadN X1.here hx rfl (hb hby own_d10_4) rfl rfl k) ?_
  refine own_st (fun _ k => XS.aloadN X1.here hx rfl (hb hby own_d10_5) rfl rfl k) ?_
  obtain ⟨T2, hp2, X2, e2, W2, st2⟩ := putF X1 hx hZ hown (host := "") (Or.inl (own_w59 hw)) Via.refl e1 F_kind Ea (Or.inr ⟨(own_w60 hw), rfl, hnm⟩) (own_w42 hw) (ty := (.object "com/example/isoscope/isoscope/SqlLexer$Kind")) (by decide) rfl rfl (g := (mkF m 6 #[.val (.ref a1), .val (.ref a2), .val (.int st), .val (.int en), .val (.int sp)] [(.ref a2), (.ref a1)])) rfl rfl (hb hby own_d10_6)
  have K2 := Keep.wr K0 W2 (Or.inl (List.mem_of_getElem? (i := 0) rfl))
  have Ex_a1_2 := Ea.wr W2
  have F_start_a1_2 := F_start.other W2 (Or.inr (slot_ne (Or.inr (own_w62 hw)) (Or.inr (own_w60 hw)) (by decide) (t := .int) (t' := (.object "com/example/isoscope/isoscope/SqlLexer$Kind")) (by decide) (by decide)))
  have F_end_a1_2 := F_end.other W2 (Or.inr (slot_ne (Or.inr (own_w64 hw)) (Or.inr (own_w60 hw)) (by decide) (t := .int) (t' := (.object "com/example/isoscope/isoscope/SqlLexer$Kind")) (by decide) (by decide)))
  have F_spaced_a1_2 := F_spaced.other W2 (Or.inr (slot_ne (Or.inr (own_w66 hw)) (Or.inr (own_w60 hw)) (by decide) (t := .boolean) (t' := (.object "com/example/isoscope/isoscope/SqlLexer$Kind")) (by decide) (by decide)))
  have F_kind_a1_2 := F_kind.same W2
  have N2 := Fr.snoc X2 N1' g_a1
  refine own_st st2 ?_
  refine own_st (fun _ k => XS.aloadN X2.here hx rfl (hb hby own_d10_9) rfl rfl k) ?_
  refine own_st (fun _ k => XS.iloadN X2.here hx rfl (hb hby own_d10_10) rfl k) ?_
  obtain ⟨T3, hp3, X3, e3, W3, st3⟩ := putF X2 hx hZ hown (host := "") (Or.inl (own_w61 hw)) Via.refl e2 F_start_a1_2 Ex_a1_2 (Or.inr ⟨(own_w62 hw), rfl, hnm⟩) (own_w42 hw) (ty := .int) (by decide) rfl rfl (g := (mkF m 11 #[.val (.ref a1), .val (.ref a2), .val (.int st), .val (.int en), .val (.int sp)] [(.int st), (.ref a1)])) rfl rfl (hb hby own_d10_11)
  have K3 := Keep.wr K2 W3 (Or.inl (List.mem_of_getElem? (i := 0) rfl))
  have Ex_a1_3 := Ex_a1_2.wr W3
  have F_kind_a1_3 := F_kind_a1_2.other W3 (Or.inr (slot_ne (Or.inr (own_w60 hw)) (Or.inr (own_w62 hw)) (by decide) (t := (.object "com/example/isoscope/isoscope/SqlLexer$Kind")) (t' := .int) (by decide) (by decide)))
  have F_end_a1_3 := F_end_a1_2.other W3 (Or.inr (slot_ne (Or.inr (own_w64 hw)) (Or.inr (own_w62 hw)) (by decide) (t := .int) (t' := .int) (by decide) (by decide)))
  have F_spaced_a1_3 := F_spaced_a1_2.other W3 (Or.inr (slot_ne (Or.inr (own_w66 hw)) (Or.inr (own_w62 hw)) (by decide) (t := .boolean) (t' := .int) (by decide) (by decide)))
  have F_start_a1_3 := F_start_a1_2.same W3
  have N3 := Fr.snoc X3 N2 g_a1
  refine own_st st3 ?_
  show own_Go _ _ _ _ T3 (mkF m 14 #[.val (.ref a1), .val (.ref a2), .val (.int st), .val (.int en), .val (.int sp)] [])
  refine own_st (fun _ k => XS.aloadN X3.here hx rfl (hb hby own_d10_14) rfl rfl k) ?_
  refine own_st (fun _ k => XS.iloadN X3.here hx rfl (hb hby own_d10_15) rfl k) ?_
  obtain ⟨T4, hp4, X4, e4, W4, st4⟩ := putF X3 hx hZ hown (host := "") (Or.inl (own_w63 hw)) Via.refl e3 F_end_a1_3 Ex_a1_3 (Or.inr ⟨(own_w64 hw), rfl, hnm⟩) (own_w42 hw) (ty := .int) (by decide) rfl rfl (g := (mkF m 16 #[.val (.ref a1), .val (.ref a2), .val (.int st), .val (.int en), .val (.int sp)] [(.int en), (.ref a1)])) rfl rfl (hb hby own_d10_16)
  have K4 := Keep.wr K3 W4 (Or.inl (List.mem_of_getElem? (i := 0) rfl))
  have Ex_a1_4 := Ex_a1_3.wr W4
  have F_kind_a1_4 := F_kind_a1_3.other W4 (Or.inr (slot_ne (Or.inr (own_w60 hw)) (Or.inr (own_w64 hw)) (by decide) (t := (.object "com/example/isoscope/isoscope/SqlLexer$Kind")) (t' := .int) (by decide) (by decide)))
  have F_start_a1_4 := F_start_a1_3.other W4 (Or.inr (slot_ne (Or.inr (own_w62 hw)) (Or.inr (own_w64 hw)) (by decide) (t := .int) (t' := .int) (by decide) (by decide)))
  have F_spaced_a1_4 := F_spaced_a1_3.other W4 (Or.inr (slot_ne (Or.inr (own_w66 hw)) (Or.inr (own_w64 hw)) (by decide) (t := .boolean) (t' := .int) (by decide) (by decide)))
  have F_end_a1_4 := F_end_a1_3.same W4
  have N4 := Fr.snoc X4 N3 g_a1
  refine own_st st4 ?_
  refine own_st (fun _ k => XS.aloadN X4.here hx rfl (hb hby own_d10_19) rfl rfl k) ?_
  refine own_st (fun _ k => XS.iload X4.here hx rfl (hb hby own_d10_20) rfl k) ?_
  obtain ⟨T5, hp5, X5, e5, W5, st5⟩ := putFN X4 hx hZ hown (own_w65 hw) Via.refl e4 F_spaced_a1_4 Ex_a1_4 (Or.inr ⟨(own_w66 hw), rfl, hnm⟩) (own_w42 hw) (ty := .boolean) (v' := (.int (nar .boolean sp))) (by decide) rfl (fits_nar_bool _) (g := (mkF m 22 #[.val (.ref a1), .val (.ref a2), .val (.int st), .val (.int en), .val (.int sp)] [(.int sp), (.ref a1)])) rfl rfl (hb hby own_d10_22)
  have K5 := Keep.wr K4 W5 (Or.inl (List.mem_of_getElem? (i := 0) rfl))
  have Ex_a1_5 := Ex_a1_4.wr W5
  have F_kind_a1_5 := F_kind_a1_4.other W5 (Or.inr (slot_ne (Or.inr (own_w60 hw)) (Or.inr (own_w66 hw)) (by decide) (t := (.object "com/example/isoscope/isoscope/SqlLexer$Kind")) (t' := .boolean) (by decide) (by decide)))
  have F_start_a1_5 := F_start_a1_4.other W5 (Or.inr (slot_ne (Or.inr (own_w62 hw)) (Or.inr (own_w66 hw)) (by decide) (t := .int) (t' := .boolean) (by decide) (by decide)))
  have F_end_a1_5 := F_end_a1_4.other W5 (Or.inr (slot_ne (Or.inr (own_w64 hw)) (Or.inr (own_w66 hw)) (by decide) (t := .int) (t' := .boolean) (by decide) (by decide)))
  have F_spaced_a1_5 := F_spaced_a1_4.same W5
  have N5 := Fr.snoc X5 N4 g_a1
  refine own_st st5 ?_
  exact own_retV X5 hx hret hlk (hb hby own_d10_25) ⟨rfl, N5, by rw [e5]; exact K5, by rw [e5]; exact F_kind_a1_5, by rw [e5]; exact F_start_a1_5, by rw [e5]; exact F_end_a1_5⟩ (by decide) (by decide)
def own_co_Q (Z : State) (a1 : Addr) (cs : Int32) (h0 : Heap) (n0 : Nat) (v : Option Value) (h : Heap) (L : List Loc) : Prop := v = some (.int 0) ∧ Fr n0 L ∧ h = h0
set_option maxRecDepth 65536 in
set_option maxHeartbeats 40000000 in
theorem own_co (l : Launch) {Z : State} {a0 : Array Value} (hw : own_W Z a0) (ws : List Jvm.Cond) (a1 : Addr) (cs : Int32) (h0 : Heap) (n0 : Nat) (Z0 : n0 ≤ h0.size) (Scs : Sta Z h0 "java/lang/String" "COMPACT_STRINGS" "Z" (.int cs)) (hcs : ¬ cs = 0) (Fc : Fld Z h0 a1 "java/lang/String" "coder" "B" (.int 0)) :
    MetFree l (⟨"java/lang/String", "coder", "()B"⟩ : MethodName) (head1 (Jvm.Cond.code (⟨"java/lang/String", "coder", "()B"⟩ : MethodName) jdk_42_method_152_code 1 (some .byte) :: ws) ({ frames := 0, cells := 0, slots := 0, locals := 0 } : Room)) (fun a U => a = #[(.ref a1)] ∧ Z.Warmed39 U.vm ∧ U.heap = h0) (fun _ _ _ _ _ => True) (fun _ U o U' => ∃ v L, o = .returned v ∧ own_co_Q Z a1 cs h0 n0 v U'.heap L ∧ FrameEnd U o U' L ({ frames := 0, cells := 0, slots := 0, locals := 0 } : Room).cells ({ frames := 0, cells := 0, slots := 0, locals := 0 } : Room).slots) := by
  refine own_enter (C := ({ frames := 0, cells := 0, slots := 0, locals := 0 } : Room).cells) (S := ({ frames := 0, cells := 0, slots := 0, locals := 0 } : Room).slots) (plainFor_of_name own_pn1) ?_
  intro p e s m below meth c T0 X0 I e0
  obtain ⟨hx, hby, hml, hown, hnm, hret, hlk, hZ⟩ := I
  have N0 := Fr.nil n0
  have O0 := own_extr h0
  refine own_cast (own_ef14 m a1) ?_
  show own_Go _ _ _ _ T0 (mkF m 0 #[.val (.ref a1)] [])
  obtain ⟨T1, X1, e1, st1⟩ := getS2 X0 hx hZ hown (host := "") (Or.inl (own_w22 hw)) Via.refl e0 (Scs.ext O0) (g := (mkF m 0 #[.val (.ref a1)] [])) rfl (hb hby own_d14_0)
  refine own_st st1 ?_
  refine own_st (fun _ k => XS.ifNo X1.here hx rfl (hb hby own_d14_3) rfl ((if0 _ _).trans (feq (hcs : ¬ (cs = (0 : Int32)))).1) k) ?_
  refine own_st (fun _ k => XS.aloadN X1.here hx rfl (hb hby own_d14_6) rfl rfl k) ?_
  obtain ⟨T2, X2, e2, st2⟩ := getF X1 hx hZ hown (host := "") (Or.inl (own_w34 hw)) Via.refl e1 (Fc.ext O0) (g := (mkF m 7 #[.val (.ref a1)] [(.ref a1)])) rfl rfl (hb hby own_d14_7)
  refine own_st st2 ?_
  refine own_st (fun _ k => XS.goto X2.here hx rfl (pc0 := 10) (pc' := 14) rfl (hb hby own_d14_10) (by decide) (by decide) k) ?_
  exact own_retN X2 hx hret (by simp) hlk (hb hby own_d14_14) ⟨rfl, N0, e2⟩ (by decide) (by decide)
def own_len__Q (Z : State) (a1 v1 : Addr) (cs z : Int32) (k1 : ClassId) (vs : List Value) (h0 : Heap) (n0 : Nat) (v : Option Value) (h : Heap) (L : List Loc) : Prop := v = some (.int z) ∧ Fr n0 L ∧ h = h0
set_option maxRecDepth 65536 in
set_option maxHeartbeats 40000000 in
theorem own_len_ (l : Launch) {Z : State} {a0 : Array Value} (hw : own_W Z a0) (ws : List Jvm.Cond) (a1 v1 : Addr) (cs z : Int32) (k1 : ClassId) (vs : List Value) (h0 : Heap) (n0 : Nat) (Z0 : n0 ≤ h0.size) (Scs : Sta Z h0 "java/lang/String" "COMPACT_STRINGS" "Z" (.int cs)) (hcs : ¬ cs = 0) (E1 : Exa Z h0 a1 "java/lang/String") (Fv1 : Fld Z h0 a1 "java/lang/String" "value" "[B" (.ref v1)) (Fc1 : Fld Z h0 a1 "java/lang/String" "coder" "B" (.int 0)) (V1 : Arv Z h0 v1 k1 .byte z vs (.int 0)) :
    MetFree l (⟨"java/lang/String", "length", "()I"⟩ : MethodName) (head1 (Jvm.Cond.code (⟨"java/lang/String", "length", "()I"⟩ : MethodName) jdk_42_method_54_code 1 (some .int) :: ws) ({ frames := 1, cells := 0, slots := 0, locals := 13 } : Room)) (fun a U => a = #[(.ref a1)] ∧ Z.Warmed39 U.vm ∧ U.heap = h0) (fun _ _ _ _ _ => True) (fun _ U o U' => ∃ v L, o = .returned v ∧ own_len__Q Z a1 v1 cs z k1 vs h0 n0 v U'.heap L ∧ FrameEnd U o U' L ({ frames := 1, cells := 0, slots := 0, locals := 13 } : Room).cells ({ frames := 1, cells := 0, slots := 0, locals := 13 } : Room).slots) := by
  refine own_enter (C := ({ frames := 1, cells := 0, slots := 0, locals := 13 } : Room).cells) (S := ({ frames := 1, cells := 0, slots := 0, locals := 13 } : Room).slots) (plainFor_of_name own_pn1) ?_
  intro p e s m below meth c T0 X0 I e0
  obtain ⟨hx, hby, hml, hown, hnm, hret, hlk, hZ⟩ := I
  have N0 := Fr.nil n0
  have O0 := own_extr h0
  refine own_cast (own_ef13 m a1) ?_
  show own_Go _ _ _ _ T0 (mkF m 0 #[.val (.ref a1)] [])
  refine own_st (fun _ k => XS.aloadN X0.here hx rfl (hb hby own_d13_0) rfl rfl k) ?_
  obtain ⟨T1, X1, e1, st1⟩ := getF X0 hx hZ hown (host := "") (Or.inl (own_w36 hw)) Via.refl e0 (Fv1.ext O0) (g := (mkF m 1 #[.val (.ref a1)] [(.ref a1)])) rfl rfl (hb hby own_d13_1)
  refine own_st st1 ?_
  refine own_st (own_len X1 hx hZ e1 (V1.ext O0) (g := (mkF m 4 #[.val (.ref a1)] [(.ref v1)])) rfl rfl (hb hby own_d13_4)) ?_
  refine own_st (fun _ k => XS.aloadN X1.here hx rfl (hb hby own_d13_5) rfl rfl k) ?_
  obtain ⟨v2, T2, L2, hQ2, X2, st2⟩ := own_callV X1 hx hZ (y := (⟨"java/lang/String", "coder", "()B"⟩ : MethodName)) hown (own_w77 hw) (own_w78 hw) (own_w80 hw) (own_w79 hw) (own_w11 hw) (own_w81 hw) (by decide) (own_co l hw [] a1 cs h0 n0 (Nat.le_trans Z0 O0.1) (Scs.ext O0) hcs (Fc1.ext O0)) e1 (E1.ext O0) (g := (mkF m 6 #[.val (.ref a1)] [(.ref a1), (.int z)])) rfl (by rw [hml]; rfl) (argsL := []) (rest := [(.int z)]) (lenOf own_pd6 rfl) rfl rfl (W := 1) (Nat.le_of_eq rfl) (hb hby own_d13_6) (by decide) (by decide) (by decide) (by decide)
  obtain ⟨rfl, N2, e2⟩ := hQ2
  have N2' := Fr.app N0 N2
  refine own_st st2 ?_
  refine own_st (fun _ k => XS.ishr X2.here hx rfl (hb hby own_d13_9) rfl k) ?_
  exact own_retI X2 hx hret hlk (hb hby own_d13_10) ⟨by rw [own_shr0], N2', e2⟩ (by decide) (by decide)
def own_eicc_Q (Z : State) (x y : Int32) (h0 : Heap) (n0 : Nat) (v : Option Value) (h : Heap) (L : List Loc) : Prop := v = some (.int (own_eic x y)) ∧ Fr n0 L ∧ h = h0
set_option maxRecDepth 65536 in
set_option maxHeartbeats 40000000 in
theorem own_eicc (l : Launch) {Z : State} {a0 : Array Value} (hw : own_W Z a0) (ws : List Jvm.Cond) (x y : Int32) (h0 : Heap) (n0 : Nat) (Z0 : n0 ≤ h0.size)  :
    MetFree l (⟨"java/lang/CharacterDataLatin1", "equalsIgnoreCase", "(BB)Z"⟩ : MethodName) (head1 (Jvm.Cond.code (⟨"java/lang/CharacterDataLatin1", "equalsIgnoreCase", "(BB)Z"⟩ : MethodName) jdk_116_method_22_code 3 (some .boolean) :: ws) ({ frames := 0, cells := 0, slots := 0, locals := 0 } : Room)) (fun a U => a = #[(.int x), (.int y)] ∧ Z.Warmed39 U.vm ∧ U.heap = h0) (fun _ _ _ _ _ => True) (fun _ U o U' => ∃ v L, o = .returned v ∧ own_eicc_Q Z x y h0 n0 v U'.heap L ∧ FrameEnd U o U' L ({ frames := 0, cells := 0, slots := 0, locals := 0 } : Room).cells ({ frames := 0, cells := 0, slots := 0, locals := 0 } : Room).slots) := by
  refine own_enter (C := ({ frames := 0, cells := 0, slots := 0, locals := 0 } : Room).cells) (S := ({ frames := 0, cells := 0, slots := 0, locals := 0 } : Room).slots) (plainFor_of_name own_pn5) ?_
  intro p e s m below meth c T0 X0 I e0
  obtain ⟨hx, hby, hml, hown, hnm, hret, hlk, hZ⟩ := I
  have N0 := Fr.nil n0
  have O0 := own_extr h0
  refine own_cast (own_ef18 m x y) ?_
  show own_Go _ _ _ _ T0 (mkF m 0 #[.val (.int x), .val (.int y), .unset] [])
  refine own_st (fun _ k => XS.iloadN X0.here hx rfl (hb hby own_d18_0) rfl k) ?_
  refine own_st (fun _ k => XS.iloadN X0.here hx rfl (hb hby own_d18_1) rfl k) ?_
  by_cases h1 : x = y
  · refine own_st (fun _ k => XS.icmpNo X0.here hx rfl (hb hby own_d18_2) rfl (teq (h1 : x = y)).2 k) ?_
    refine own_st (fun _ k => XS.iconst X0.here hx rfl (hb hby own_d18_5) k) ?_
    exact own_retN X0 hx hret (by simp) hlk (hb hby own_d18_6) ⟨by simp [own_eic, nar, *], N0, e0⟩ (by decide) (by decide)
  · refine own_st (fun _ k => XS.icmpYes X0.here hx rfl (pc0 := 2) (pc' := 7) rfl (hb hby own_d18_2) rfl (feq (h1 : ¬ (x = y))).2 (by decide) (by decide) k) ?_
    refine own_st (fun _ k => XS.iloadN X0.here hx rfl (hb hby own_d18_7) rfl k) ?_
    refine own_st (fun _ k => XS.sipush X0.here hx rfl (hb hby own_d18_8) k) ?_
    refine own_st (fun _ k => XS.iand X0.here hx rfl (hb hby own_d18_11) rfl k) ?_
    refine own_st (fun _ k => XS.istoreN X0.here hx rfl (hb hby own_d18_12) rfl (l' := #[.val (.int x), .val (.int y), .val (.int (x &&& (223 : Int32)))]) rfl k) ?_
    refine own_st (fun _ k => XS.iloadN X0.here hx rfl (hb hby own_d18_13) rfl k) ?_
    show own_Go _ _ _ _ T0 (mkF m 14 #[.val (.int x), .val (.int y), .val (.int (x &&& (223 : Int32)))] [(.int (x &&& (223 : Int32)))])
    refine own_st (fun _ k => XS.bipush X0.here hx rfl (hb hby own_d18_14) k) ?_
    by_cases h2 : (x &&& (223 : Int32)) < (65 : Int32)
    · refine own_st (fun _ k => XS.icmpNo X0.here hx rfl (hb hby own_d18_16) rfl (tlt (h2 : (x &&& (223 : Int32)) < (65 : Int32))).2.1 k) ?_
      refine own_st (fun _ k => XS.iconst X0.here hx rfl (hb hby own_d18_19) k) ?_
      exact own_retN X0 hx hret (by simp) hlk (hb hby own_d18_20) ⟨by simp [own_eic, nar, *], N0, e0⟩ (by decide) (by decide)
    · refine own_st (fun _ k => XS.icmpYes X0.here hx rfl (pc0 := 16) (pc' := 21) rfl (hb hby own_d18_16) rfl (flt (h2 : ¬ ((x &&& (223 : Int32)) < (65 : Int32)))).2.1 (by decide) (by decide) k) ?_
      refine own_st (fun _ k => XS.iloadN X0.here hx rfl (hb hby own_d18_21) rfl k) ?_
      refine own_st (fun _ k => XS.bipush X0.here hx rfl (hb hby own_d18_22) k) ?_
      by_cases h3 : (90 : Int32) < (x &&& (223 : Int32))
      · refine own_st (fun _ k => XS.icmpNo X0.here hx rfl (hb hby own_d18_24) rfl (tlt (h3 : (90 : Int32) < (x &&& (223 : Int32)))).2.2.2 k) ?_
        refine own_st (fun _ k => XS.iloadN X0.here hx rfl (hb hby own_d18_27) rfl k) ?_
        refine own_st (fun _ k => XS.sipush X0.here hx rfl (hb hby own_d18_28) k) ?_
        by_cases h4 : (x &&& (223 : Int32)) < (192 : Int32)
        · refine own_st (fun _ k => XS.icmpYes X0.here hx rfl (pc0 := 31) (pc' := 61) rfl (hb hby own_d18_31) rfl (tlt (h4 : (x &&& (223 : Int32)) < (192 : Int32))).1 (by decide) (by decide) k) ?_
          show own_Go _ _ _ _ T0 (mkF m 61 #[.val (.int x), .val (.int y), .val (.int (x &&& (223 : Int32)))] [])
          refine own_st (fun _ k => XS.iconst X0.here hx rfl (hb hby own_d18_61) k) ?_
          exact own_retN X0 hx hret (by simp) hlk (hb hby own_d18_62) ⟨by simp [own_eic, nar, *], N0, e0⟩ (by decide) (by decide)
        · refine own_st (fun _ k => XS.icmpNo X0.here hx rfl (hb hby own_d18_31) rfl (flt (h4 : ¬ ((x &&& (223 : Int32)) < (192 : Int32)))).1 k) ?_
          show own_Go _ _ _ _ T0 (mkF m 34 #[.val (.int x), .val (.int y), .val (.int (x &&& (223 : Int32)))] [])
          refine own_st (fun _ k => XS.iloadN X0.here hx rfl (hb hby own_d18_34) rfl k) ?_
          refine own_st (fun _ k => XS.sipush X0.here hx rfl (hb hby own_d18_35) k) ?_
          by_cases h5 : (222 : Int32) < (x &&& (223 : Int32))
          · refine own_st (fun _ k => XS.icmpYes X0.here hx rfl (pc0 := 38) (pc' := 61) rfl (hb hby own_d18_38) rfl (tlt (h5 : (222 : Int32) < (x &&& (223 : Int32)))).2.2.1 (by decide) (by decide) k) ?_
            refine own_st (fun _ k => XS.iconst X0.here hx rfl (hb hby own_d18_61) k) ?_
            exact own_retN X0 hx hret (by simp) hlk (hb hby own_d18_62) ⟨by simp [own_eic, nar, *], N0, e0⟩ (by decide) (by decide)
          · refine own_st (fun _ k => XS.icmpNo X0.here hx rfl (hb hby own_d18_38) rfl (flt (h5 : ¬ ((222 : Int32) < (x &&& (223 : Int32))))).2.2.1 k) ?_
            refine own_st (fun _ k => XS.iloadN X0.here hx rfl (hb hby own_d18_41) rfl k) ?_
            refine own_st (fun _ k => XS.sipush X0.here hx rfl (hb hby own_d18_42) k) ?_
            by_cases h6 : (x &&& (223 : Int32)) = (215 : Int32)
            · refine own_st (fun _ k => XS.icmpYes X0.here hx rfl (pc0 := 45) (pc' := 61) rfl (hb hby own_d18_45) rfl (teq (h6 : (x &&& (223 : Int32)) = (215 : Int32))).1 (by decide) (by decide) k) ?_
              refine own_st (fun _ k => XS.iconst X0.here hx rfl (hb hby own_d18_61) k) ?_
              exact own_retN X0 hx hret (by simp) hlk (hb hby own_d18_62) ⟨by simp [own_eic, nar, *], N0, e0⟩ (by decide) (by decide)
            · refine own_st (fun _ k => XS.icmpNo X0.here hx rfl (hb hby own_d18_45) rfl (feq (h6 : ¬ ((x &&& (223 : Int32)) = (215 : Int32)))).1 k) ?_
              refine own_st (fun _ k => XS.iloadN X0.here hx rfl (hb hby own_d18_48) rfl k) ?_
              refine own_st (fun _ k => XS.iloadN X0.here hx rfl (hb hby own_d18_49) rfl k) ?_
              show own_Go _ _ _ _ T0 (mkF m 50 #[.val (.int x), .val (.int y), .val (.int (x &&& (223 : Int32)))] [(.int y), (.int (x &&& (223 : Int32)))])
              refine own_st (fun _ k => XS.sipush X0.here hx rfl (hb hby own_d18_50) k) ?_
              refine own_st (fun _ k => XS.iand X0.here hx rfl (hb hby own_d18_53) rfl k) ?_
              by_cases h7 : (x &&& (223 : Int32)) = (y &&& (223 : Int32))
              · refine own_st (fun _ k => XS.icmpNo X0.here hx rfl (hb hby own_d18_54) rfl (teq (h7 : (x &&& (223 : Int32)) = (y &&& (223 : Int32)))).2 k) ?_
                refine own_st (fun _ k => XS.iconst X0.here hx rfl (hb hby own_d18_57) k) ?_
                refine own_st (fun _ k => XS.goto X0.here hx rfl (pc0 := 58) (pc' := 62) rfl (hb hby own_d18_58) (by decide) (by decide) k) ?_
                exact own_retN X0 hx hret (by simp) hlk (hb hby own_d18_62) ⟨by simp only [own_eic, h1, h2, h3, h4, h5, h6, if_false, if_true]; rw [if_pos h7]; rfl, N0, e0⟩ (by decide) (by decide)
              · refine own_st (fun _ k => XS.icmpYes X0.here hx rfl (pc0 := 54) (pc' := 61) rfl (hb hby own_d18_54) rfl (feq (h7 : ¬ ((x &&& (223 : Int32)) = (y &&& (223 : Int32))))).2 (by decide) (by decide) k) ?_
                refine own_st (fun _ k => XS.iconst X0.here hx rfl (hb hby own_d18_61) k) ?_
                exact own_retN X0 hx hret (by simp) hlk (hb hby own_d18_62) ⟨by simp only [own_eic, h1, h2, h3, h4, h5, h6, if_false, if_true]; rw [if_neg h7]; rfl, N0, e0⟩ (by decide) (by decide)
      · refine own_st (fun _ k => XS.icmpYes X0.here hx rfl (pc0 := 24) (pc' := 48) rfl (hb hby own_d18_24) rfl (flt (h3 : ¬ ((90 : Int32) < (x &&& (223 : Int32))))).2.2.2 (by decide) (by decide) k) ?_
        refine own_st (fun _ k => XS.iloadN X0.here hx rfl (hb hby own_d18_48) rfl k) ?_
        refine own_st (fun _ k => XS.iloadN X0.here hx rfl (hb hby own_d18_49) rfl k) ?_
        refine own_st (fun _ k => XS.sipush X0.here hx rfl (hb hby own_d18_50) k) ?_
        show own_Go _ _ _ _ T0 (mkF m 53 #[.val (.int x), .val (.int y), .val (.int (x &&& (223 : Int32)))] [(.int 223), (.int y), (.int (x &&& (223 : Int32)))])
        refine own_st (fun _ k => XS.iand X0.here hx rfl (hb hby own_d18_53) rfl k) ?_
        by_cases h8 : (x &&& (223 : Int32)) = (y &&& (223 : Int32))
        · refine own_st (fun _ k => XS.icmpNo X0.here hx rfl (hb hby own_d18_54) rfl (teq (h8 : (x &&& (223 : Int32)) = (y &&& (223 : Int32)))).2 k) ?_
          refine own_st (fun _ k => XS.iconst X0.here hx rfl (hb hby own_d18_57) k) ?_
          refine own_st (fun _ k => XS.goto X0.here hx rfl (pc0 := 58) (pc' := 62) rfl (hb hby own_d18_58) (by decide) (by decide) k) ?_
          exact own_retN X0 hx hret (by simp) hlk (hb hby own_d18_62) ⟨by simp only [own_eic, h1, h2, h3, if_false, if_true]; rw [if_pos h8]; rfl, N0, e0⟩ (by decide) (by decide)
        · refine own_st (fun _ k => XS.icmpYes X0.here hx rfl (pc0 := 54) (pc' := 61) rfl (hb hby own_d18_54) rfl (feq (h8 : ¬ ((x &&& (223 : Int32)) = (y &&& (223 : Int32))))).2 (by decide) (by decide) k) ?_
          refine own_st (fun _ k => XS.iconst X0.here hx rfl (hb hby own_d18_61) k) ?_
          exact own_retN X0 hx hret (by simp) hlk (hb hby own_d18_62) ⟨by simp only [own_eic, h1, h2, h3, if_false, if_true]; rw [if_neg h8]; rfl, N0, e0⟩ (by decide) (by decide)
def own_fd_Q (Z : State) (cx : Int32) (h0 : Heap) (n0 : Nat) (v : Option Value) (h : Heap) (L : List Loc) : Prop := v = some (.int (own_fold cx)) ∧ Fr n0 L ∧ h = h0
set_option maxRecDepth 65536 in
set_option maxHeartbeats 40000000 in
theorem own_fd (l : Launch) {Z : State} {a0 : Array Value} (hw : own_W Z a0) (ws : List Jvm.Cond) (cx : Int32) (h0 : Heap) (n0 : Nat) (Z0 : n0 ≤ h0.size)  :
    MetFree l (⟨"com/example/isoscope/isoscope/TokenIsPinLaw", "fold", "(C)I"⟩ : MethodName) (head1 (Jvm.Cond.code (⟨"com/example/isoscope/isoscope/TokenIsPinLaw", "fold", "(C)I"⟩ : MethodName) method_4_code 2 (some .int) :: ws) ({ frames := 0, cells := 0, slots := 0, locals := 0 } : Room)) (fun a U => a = #[(.int cx)] ∧ Z.Warmed39 U.vm ∧ U.heap = h0) (fun _ _ _ _ _ => True) (fun _ U o U' => ∃ v L, o = .returned v ∧ own_fd_Q Z cx h0 n0 v U'.heap L ∧ FrameEnd U o U' L ({ frames := 0, cells := 0, slots := 0, locals := 0 } : Room).cells ({ frames := 0, cells := 0, slots := 0, locals := 0 } : Room).slots) := by
  refine own_enter (C := ({ frames := 0, cells := 0, slots := 0, locals := 0 } : Room).cells) (S := ({ frames := 0, cells := 0, slots := 0, locals := 0 } : Room).slots) (plainFor_of_name own_pn2) ?_
  intro p e s m below meth c T0 X0 I e0
  obtain ⟨hx, hby, hml, hown, hnm, hret, hlk, hZ⟩ := I
  have N0 := Fr.nil n0
  have O0 := own_extr h0
  refine own_cast (own_ef16 m cx) ?_
  show own_Go _ _ _ _ T0 (mkF m 0 #[.val (.int cx), .unset] [])
  refine own_st (fun _ k => XS.iloadN X0.here hx rfl (hb hby own_d16_0) rfl k) ?_
  refine own_st (fun _ k => XS.istoreN X0.here hx rfl (hb hby own_d16_1) rfl (l' := #[.val (.int cx), .val (.int cx)]) rfl k) ?_
  refine own_st (fun _ k => XS.iloadN X0.here hx rfl (hb hby own_d16_2) rfl k) ?_
  refine own_st (fun _ k => XS.bipush X0.here hx rfl (hb hby own_d16_3) k) ?_
  by_cases h1 : cx < (65 : Int32)
  · refine own_st (fun _ k => XS.icmpYes X0.here hx rfl (pc0 := 5) (pc' := 19) rfl (hb hby own_d16_5) rfl (tlt (h1 : cx < (65 : Int32))).1 (by decide) (by decide) k) ?_
    refine own_st (fun _ k => XS.iloadN X0.here hx rfl (hb hby own_d16_19) rfl k) ?_
    refine own_st (fun _ k => XS.sipush X0.here hx rfl (hb hby own_d16_20) k) ?_
    by_cases h4a : cx < (192 : Int32)
    · refine own_st (fun _ k => XS.icmpYes X0.here hx rfl (pc0 := 23) (pc' := 45) rfl (hb hby own_d16_23) rfl (tlt (h4a : cx < (192 : Int32))).1 (by decide) (by decide) k) ?_
      show own_Go _ _ _ _ T0 (mkF m 45 #[.val (.int cx), .val (.int cx)] [])
      refine own_st (fun _ k => XS.iloadN X0.here hx rfl (hb hby own_d16_45) rfl k) ?_
      exact own_retI X0 hx hret hlk (hb hby own_d16_46) ⟨by simp [own_fold, *], N0, e0⟩ (by decide) (by decide)
    · refine own_st (fun _ k => XS.icmpNo X0.here hx rfl (hb hby own_d16_23) rfl (flt (h4a : ¬ (cx < (192 : Int32)))).1 k) ?_
      show own_Go _ _ _ _ T0 (mkF m 26 #[.val (.int cx), .val (.int cx)] [])
      refine own_st (fun _ k => XS.iloadN X0.here hx rfl (hb hby own_d16_26) rfl k) ?_
      refine own_st (fun _ k => XS.sipush X0.here hx rfl (hb hby own_d16_27) k) ?_
      by_cases h5a : (222 : Int32) < cx
      · refine own_st (fun _ k => XS.icmpYes X0.here hx rfl (pc0 := 30) (pc' := 45) rfl (hb hby own_d16_30) rfl (tlt (h5a : (222 : Int32) < cx)).2.2.1 (by decide) (by decide) k) ?_
        refine own_st (fun _ k => XS.iloadN X0.here hx rfl (hb hby own_d16_45) rfl k) ?_
        exact own_retI X0 hx hret hlk (hb hby own_d16_46) ⟨by simp [own_fold, *], N0, e0⟩ (by decide) (by decide)
      · refine own_st (fun _ k => XS.icmpNo X0.here hx rfl (hb hby own_d16_30) rfl (flt (h5a : ¬ ((222 : Int32) < cx))).2.2.1 k) ?_
        refine own_st (fun _ k => XS.iloadN X0.here hx rfl (hb hby own_d16_33) rfl k) ?_
        refine own_st (fun _ k => XS.sipush X0.here hx rfl (hb hby own_d16_34) k) ?_
        by_cases h6a : cx = (215 : Int32)
        · refine own_st (fun _ k => XS.icmpYes X0.here hx rfl (pc0 := 37) (pc' := 45) rfl (hb hby own_d16_37) rfl (teq (h6a : cx = (215 : Int32))).1 (by decide) (by decide) k) ?_
          refine own_st (fun _ k => XS.iloadN X0.here hx rfl (hb hby own_d16_45) rfl k) ?_
          exact own_retI X0 hx hret hlk (hb hby own_d16_46) ⟨by simp [own_fold, *], N0, e0⟩ (by decide) (by decide)
        · refine own_st (fun _ k => XS.icmpNo X0.here hx rfl (hb hby own_d16_37) rfl (feq (h6a : ¬ (cx = (215 : Int32)))).1 k) ?_
          refine own_st (fun _ k => XS.iloadN X0.here hx rfl (hb hby own_d16_40) rfl k) ?_
          refine own_st (fun _ k => XS.bipush X0.here hx rfl (hb hby own_d16_41) k) ?_
          show own_Go _ _ _ _ T0 (mkF m 43 #[.val (.int cx), .val (.int cx)] [(.int 32), (.int cx)])
          refine own_st (fun _ k => XS.iadd X0.here hx rfl (hb hby own_d16_43) rfl k) ?_
          exact own_retI X0 hx hret hlk (hb hby own_d16_44) ⟨by simp [own_fold, *], N0, e0⟩ (by decide) (by decide)
  · refine own_st (fun _ k => XS.icmpNo X0.here hx rfl (hb hby own_d16_5) rfl (flt (h1 : ¬ (cx < (65 : Int32)))).1 k) ?_
    refine own_st (fun _ k => XS.iloadN X0.here hx rfl (hb hby own_d16_8) rfl k) ?_
    refine own_st (fun _ k => XS.bipush X0.here hx rfl (hb hby own_d16_9) k) ?_
    by_cases h2 : (90 : Int32) < cx
    · refine own_st (fun _ k => XS.icmpYes X0.here hx rfl (pc0 := 11) (pc' := 19) rfl (hb hby own_d16_11) rfl (tlt (h2 : (90 : Int32) < cx)).2.2.1 (by decide) (by decide) k) ?_
      show own_Go _ _ _ _ T0 (mkF m 19 #[.val (.int cx), .val (.int cx)] [])
      refine own_st (fun _ k => XS.iloadN X0.here hx rfl (hb hby own_d16_19) rfl k) ?_
      refine own_st (fun _ k => XS.sipush X0.here hx rfl (hb hby own_d16_20) k) ?_
      by_cases h4b : cx < (192 : Int32)
      · refine own_st (fun _ k => XS.icmpYes X0.here hx rfl (pc0 := 23) (pc' := 45) rfl (hb hby own_d16_23) rfl (tlt (h4b : cx < (192 : Int32))).1 (by decide) (by decide) k) ?_
        refine own_st (fun _ k => XS.iloadN X0.here hx rfl (hb hby own_d16_45) rfl k) ?_
        exact own_retI X0 hx hret hlk (hb hby own_d16_46) ⟨by simp [own_fold, *], N0, e0⟩ (by decide) (by decide)
      · refine own_st (fun _ k => XS.icmpNo X0.here hx rfl (hb hby own_d16_23) rfl (flt (h4b : ¬ (cx < (192 : Int32)))).1 k) ?_
        refine own_st (fun _ k => XS.iloadN X0.here hx rfl (hb hby own_d16_26) rfl k) ?_
        refine own_st (fun _ k => XS.sipush X0.here hx rfl (hb hby own_d16_27) k) ?_
        by_cases h5b : (222 : Int32) < cx
        · refine own_st (fun _ k => XS.icmpYes X0.here hx rfl (pc0 := 30) (pc' := 45) rfl (hb hby own_d16_30) rfl (tlt (h5b : (222 : Int32) < cx)).2.2.1 (by decide) (by decide) k) ?_
          refine own_st (fun _ k => XS.iloadN X0.here hx rfl (hb hby own_d16_45) rfl k) ?_
          exact own_retI X0 hx hret hlk (hb hby own_d16_46) ⟨by simp [own_fold, *], N0, e0⟩ (by decide) (by decide)
        · refine own_st (fun _ k => XS.icmpNo X0.here hx rfl (hb hby own_d16_30) rfl (flt (h5b : ¬ ((222 : Int32) < cx))).2.2.1 k) ?_
          refine own_st (fun _ k => XS.iloadN X0.here hx rfl (hb hby own_d16_33) rfl k) ?_
          refine own_st (fun _ k => XS.sipush X0.here hx rfl (hb hby own_d16_34) k) ?_
          show own_Go _ _ _ _ T0 (mkF m 37 #[.val (.int cx), .val (.int cx)] [(.int 215), (.int cx)])
          by_cases h6b : cx = (215 : Int32)
          · refine own_st (fun _ k => XS.icmpYes X0.here hx rfl (pc0 := 37) (pc' := 45) rfl (hb hby own_d16_37) rfl (teq (h6b : cx = (215 : Int32))).1 (by decide) (by decide) k) ?_
            refine own_st (fun _ k => XS.iloadN X0.here hx rfl (hb hby own_d16_45) rfl k) ?_
            exact own_retI X0 hx hret hlk (hb hby own_d16_46) ⟨by simp [own_fold, *], N0, e0⟩ (by decide) (by decide)
          · refine own_st (fun _ k => XS.icmpNo X0.here hx rfl (hb hby own_d16_37) rfl (feq (h6b : ¬ (cx = (215 : Int32)))).1 k) ?_
            refine own_st (fun _ k => XS.iloadN X0.here hx rfl (hb hby own_d16_40) rfl k) ?_
            refine own_st (fun _ k => XS.bipush X0.here hx rfl (hb hby own_d16_41) k) ?_
            refine own_st (fun _ k => XS.iadd X0.here hx rfl (hb hby own_d16_43) rfl k) ?_
            exact own_retI X0 hx hret hlk (hb hby own_d16_44) ⟨by simp [own_fold, *], N0, e0⟩ (by decide) (by decide)
    · refine own_st (fun _ k => XS.icmpNo X0.here hx rfl (hb hby own_d16_11) rfl (flt (h2 : ¬ ((90 : Int32) < cx))).2.2.1 k) ?_
      show own_Go _ _ _ _ T0 (mkF m 14 #[.val (.int cx), .val (.int cx)] [])
      refine own_st (fun _ k => XS.iloadN X0.here hx rfl (hb hby own_d16_14) rfl k) ?_
      refine own_st (fun _ k => XS.bipush X0.here hx rfl (hb hby own_d16_15) k) ?_
      refine own_st (fun _ k => XS.iadd X0.here hx rfl (hb hby own_d16_17) rfl k) ?_
      exact own_retI X0 hx hret hlk (hb hby own_d16_18) ⟨by simp [own_fold, *], N0, e0⟩ (by decide) (by decide)
def own_ci0_Q (Z : State) (a1 a2 : Addr) (st p1 p2 z : Int32) (k1 k2 : ClassId) (vs : List Value) (bf : Int32 → Int32) (h0 : Heap) (n0 : Nat) (v : Option Value) (h : Heap) (L : List Loc) : Prop := v = some (.int 1) ∧ Fr n0 L ∧ h = h0
set_option maxRecDepth 65536 in
set_option maxHeartbeats 40000000 in
theorem own_ci0 (l : Launch) {Z : State} {a0 : Array Value} (hw : own_W Z a0) (ws : List Jvm.Cond) (a1 a2 : Addr) (st p1 p2 z : Int32) (k1 k2 : ClassId) (vs : List Value) (bf : Int32 → Int32) (h0 : Heap) (n0 : Nat) (Z0 : n0 ≤ h0.size) (hp1 : p1 = 0) (hp2 : p2 = (0 : Int32)) (r0 : 0 ≤ st.toInt) (r1 : st.toInt + 0 ≤ z.toInt) (r2 : z.toInt ≤ 5) (V1 : Arv Z h0 a1 k1 .byte z vs (.int 0)) (hB : ∀ j : Int32, ¬ j < 0 → j < z → vs.getD j.toNatClampNeg (.int 0) = .int (bf j)) (V2 : Arv Z h0 a2 k2 .byte (0 : Int32) [] (.int 0)) :
    MetFree l (⟨"java/lang/StringLatin1", "regionMatchesCI", "([BI[BII)Z"⟩ : MethodName) (head1 (Jvm.Cond.code (⟨"java/lang/StringLatin1", "regionMatchesCI", "([BI[BII)Z"⟩ : MethodName) jdk_43_method_30_code 8 (some .boolean) :: ws) ({ frames := 1, cells := 0, slots := 0, locals := 14 } : Room)) (fun a U => a = #[(.ref a1), (.int st), (.ref a2), (.int p1), (.int p2)] ∧ Z.Warmed39 U.vm ∧ U.heap = h0) (fun _ _ _ _ _ => True) (fun _ U o U' => ∃ v L, o = .returned v ∧ own_ci0_Q Z a1 a2 st p1 p2 z k1 k2 vs bf h0 n0 v U'.heap L ∧ FrameEnd U o U' L ({ frames := 1, cells := 0, slots := 0, locals := 14 } : Room).cells ({ frames := 1, cells := 0, slots := 0, locals := 14 } : Room).slots) := by
  refine own_enter (C := ({ frames := 1, cells := 0, slots := 0, locals := 14 } : Room).cells) (S := ({ frames := 1, cells := 0, slots := 0, locals := 14 } : Room).slots) (plainFor_of_name own_pn6) ?_
  intro p e s m below meth c T0 X0 I e0
  obtain ⟨hx, hby, hml, hown, hnm, hret, hlk, hZ⟩ := I
  have N0 := Fr.nil n0
  have O0 := own_extr h0
  refine own_cast (own_ef17 m a1 st a2 p1 p2) ?_
  show own_Go _ _ _ _ T0 (mkF m 0 #[.val (.ref a1), .val (.int st), .val (.ref a2), .val (.int p1), .val (.int p2), .unset, .unset, .unset] [])
  rw [hp1, hp2]
  show own_Go _ _ _ _ T0 (mkF m 0 #[.val (.ref a1), .val (.int st), .val (.ref a2), .val (.int 0), .val (.int 0), .unset, .unset, .unset] [])
  have z5 : ((0 : Int32)).toInt = 0 := by decide
  have i_e : (st + (0 : Int32)).toInt = st.toInt + 0 := own_plus z5 (by decide) (by decide) (by omega) (by omega)
  have z1 : (1 : Int32).toInt = 1 := by decide
  have z0 : (0 : Int32).toInt = 0 := by decide
  refine own_st (fun _ k => XS.iloadN X0.here hx rfl (hb hby own_d17_0) rfl k) ?_
  refine own_st (fun _ k => XS.iload X0.here hx rfl (hb hby own_d17_1) rfl k) ?_
  refine own_st (fun _ k => XS.iadd X0.here hx rfl (hb hby own_d17_3) rfl k) ?_
  refine own_st (fun _ k => XS.istore X0.here hx rfl (hb hby own_d17_4) rfl (l' := #[.val (.ref a1), .val (.int st), .val (.ref a2), .val (.int 0), .val (.int 0), .val (.int (st + (0 : Int32))), .unset, .unset]) rfl k) ?_
  refine own_st (fun _ k => XS.iloadN X0.here hx rfl (hb hby own_d17_6) rfl k) ?_
  refine own_st (fun _ k => XS.iload X0.here hx rfl (hb hby own_d17_7) rfl k) ?_
  refine own_st (fun _ k => XS.icmpYes X0.here hx rfl (pc0 := 9) (pc' := 43) rfl (hb hby own_d17_9) rfl (flt (fun q => by have := Int32.lt_iff_toInt_lt.mp q; omega : ¬ (st < (st + (0 : Int32))))).2.1 (by decide) (by decide) k) ?_
  refine own_st (fun _ k => XS.iconst X0.here hx rfl (hb hby own_d17_43) k) ?_
  show own_Go _ _ _ _ T0 (mkF m 44 #[.val (.ref a1), .val (.int st), .val (.ref a2), .val (.int 0), .val (.int 0), .val (.int (st + (0 : Int32))), .unset, .unset] [(.int 1)])
  exact own_retN X0 hx hret (by simp) hlk (hb hby own_d17_44) ⟨by simp [nar, *], N0, e0⟩ (by decide) (by decide)
theorem own_nzz0 : nar .boolean (1 : Int32) = 1 := by decide
def own_rm0_Q (Z : State) (a1 a2 v1 v2 : Addr) (p0 st p1 p2 z cs : Int32) (k1 k2 : ClassId) (vs : List Value) (bf : Int32 → Int32) (h0 : Heap) (n0 : Nat) (v : Option Value) (h : Heap) (L : List Loc) : Prop := v = some (.int (if st < 0 then (0 : Int32) else if (0 : Int32) < lcmpW st.toInt64 (z.toInt64 - (0 : Int64)) then (0 : Int32) else (1 : Int32))) ∧ Fr n0 L ∧ h = h0
set_option maxRecDepth 65536 in
set_option maxHeartbeats 40000000 in
theorem own_rm0 (l : Launch) {Z : State} {a0 : Array Value} (hw : own_W Z a0) (ws : List Jvm.Cond) (a1 a2 v1 v2 : Addr) (p0 st p1 p2 z cs : Int32) (k1 k2 : ClassId) (vs : List Value) (bf : Int32 → Int32) (h0 : Heap) (n0 : Nat) (Z0 : n0 ≤ h0.size) (hp0 : p0 = 1) (hp1 : p1 = 0) (hp2 : p2 = (0 : Int32)) (zb : z.toInt ≤ 5) (Scs : Sta Z h0 "java/lang/String" "COMPACT_STRINGS" "Z" (.int cs)) (hcs : ¬ cs = 0) (E1 : Exa Z h0 a1 "java/lang/String") (Fv1 : Fld Z h0 a1 "java/lang/String" "value" "[B" (.ref v1)) (Fc1 : Fld Z h0 a1 "java/lang/String" "coder" "B" (.int 0)) (V1 : Arv Z h0 v1 k1 .byte z vs (.int 0)) (hB : ∀ j : Int32, ¬ j < 0 → j < z → vs.getD j.toNatClampNeg (.int 0) = .int (bf j)) (E2 : Exa Z h0 a2 "java/lang/String") (Fv2 : Fld Z h0 a2 "java/lang/String" "value" "[B" (.ref v2)) (Fc2 : Fld Z h0 a2 "java/lang/String" "coder" "B" (.int 0)) (V2 : Arv Z h0 v2 k2 .byte (0 : Int32) [] (.int 0)) :
    MetFree l (⟨"java/lang/String", "regionMatches", "(ZILjava/lang/String;II)Z"⟩ : MethodName) (head1 (Jvm.Cond.code (⟨"java/lang/String", "regionMatches", "(ZILjava/lang/String;II)Z"⟩ : MethodName) jdk_42_method_74_code 9 (some .boolean) :: ws) ({ frames := 2, cells := 0, slots := 0, locals := 33 } : Room)) (fun a U => a = #[(.ref a1), (.int p0), (.int st), (.ref a2), (.int p1), (.int p2)] ∧ Z.Warmed39 U.vm ∧ U.heap = h0) (fun _ _ _ _ _ => True) (fun _ U o U' => ∃ v L, o = .returned v ∧ own_rm0_Q Z a1 a2 v1 v2 p0 st p1 p2 z cs k1 k2 vs bf h0 n0 v U'.heap L ∧ FrameEnd U o U' L ({ frames := 2, cells := 0, slots := 0, locals := 33 } : Room).cells ({ frames := 2, cells := 0, slots := 0, locals := 33 } : Room).slots) := by
  refine own_enter (C := ({ frames := 2, cells := 0, slots := 0, locals := 33 } : Room).cells) (S := ({ frames := 2, cells := 0, slots := 0, locals := 33 } : Room).slots) (plainFor_of_name own_pn1) ?_
  intro p e s m below meth c T0 X0 I e0
  obtain ⟨hx, hby, hml, hown, hnm, hret, hlk, hZ⟩ := I
  have N0 := Fr.nil n0
  have O0 := own_extr h0
  refine own_cast (own_ef15 m a1 p0 st a2 p1 p2) ?_
  show own_Go _ _ _ _ T0 (mkF m 0 #[.val (.ref a1), .val (.int p0), .val (.int st), .val (.ref a2), .val (.int p1), .val (.int p2), .unset, .unset, .unset] [])
  rw [hp0, hp1, hp2]
  show own_Go _ _ _ _ T0 (mkF m 0 #[.val (.ref a1), .val (.int 1), .val (.int st), .val (.ref a2), .val (.int 0), .val (.int 0), .unset, .unset, .unset] [])
  refine own_st (fun _ k => XS.iloadN X0.here hx rfl (hb hby own_d15_0) rfl k) ?_
  refine own_st (fun _ k => XS.ifYes X0.here hx rfl (pc0 := 1) (pc' := 15) rfl (hb hby own_d15_1) rfl ((if0 _ _).trans (feq (by decide : ¬ ((1 : Int32) = (0 : Int32)))).2) (by decide) (by decide) k) ?_
  refine own_st (fun _ k => XS.iload X0.here hx rfl (hb hby own_d15_15) rfl k) ?_
  refine own_st (fun _ k => XS.ifNo X0.here hx rfl (hb hby own_d15_17) rfl ((if0 _ _).trans (flt (by decide : ¬ ((0 : Int32) < (0 : Int32)))).1) k) ?_
  refine own_st (fun _ k => XS.iloadN X0.here hx rfl (hb hby own_d15_20) rfl k) ?_
  by_cases h1 : st < (0 : Int32)
  · refine own_st (fun _ k => XS.ifYes X0.here hx rfl (pc0 := 21) (pc' := 55) rfl (hb hby own_d15_21) rfl ((if0 _ _).trans (tlt (h1 : st < (0 : Int32))).1) (by decide) (by decide) k) ?_
    refine own_st (fun _ k => XS.iconst X0.here hx rfl (hb hby own_d15_55) k) ?_
    exact own_retN X0 hx hret (by simp) hlk (hb hby own_d15_56) ⟨by rw [if_pos h1]; first | done | rfl, N0, e0⟩ (by decide) (by decide)
  · refine own_st (fun _ k => XS.ifNo X0.here hx rfl (hb hby own_d15_21) rfl ((if0 _ _).trans (flt (h1 : ¬ (st < (0 : Int32)))).1) k) ?_
    refine own_st (fun _ k => XS.iloadN X0.here hx rfl (hb hby own_d15_24) rfl k) ?_
    refine own_st (fun _ k => XS.i2l X0.here hx rfl (hb hby own_d15_25) rfl k) ?_
    show own_Go _ _ _ _ T0 (mkF m 26 #[.val (.ref a1), .val (.int 1), .val (.int st), .val (.ref a2), .val (.int 0), .val (.int 0), .unset, .unset, .unset] [(.long (st.toInt64))])
    refine own_st (fun _ k => XS.aloadN X0.here hx rfl (hb hby own_d15_26) rfl rfl k) ?_
    obtain ⟨v1, T1, L1, hQ1, X1, st1⟩ := own_callV X0 hx hZ (y := (⟨"java/lang/String", "length", "()I"⟩ : MethodName)) hown (own_w106 hw) (own_w73 hw) (own_w75 hw) (own_w74 hw) (own_w11 hw) (own_w76 hw) (by decide) (own_len_ l hw [] a1 v1 cs z k1 vs h0 n0 (Nat.le_trans Z0 O0.1) (Scs.ext O0) hcs (E1.ext O0) (Fv1.ext O0) (Fc1.ext O0) (V1.ext O0)) e0 (E1.ext O0) (g := (mkF m 27 #[.val (.ref a1), .val (.int 1), .val (.int st), .val (.ref a2), .val (.int 0), .val (.int 0), .unset, .unset, .unset] [(.ref a1), (.long (st.toInt64))])) rfl (by rw [hml]; rfl) (argsL := []) (rest := [(.long (st.toInt64))]) (lenOf own_pd7 rfl) rfl rfl (W := 2) (Nat.le_of_eq rfl) (hb hby own_d15_27) (by decide) (by decide) (by decide) (by decide)
    obtain ⟨rfl, N1, e1⟩ := hQ1
    have N1' := Fr.app N0 N1
    refine own_st st1 ?_
    refine own_st (fun _ k => XS.i2l X1.here hx rfl (hb hby own_d15_30) rfl k) ?_
    refine own_st (fun _ k => XS.iload X1.here hx rfl (hb hby own_d15_31) rfl k) ?_
    refine own_st (fun _ k => XS.i2l X1.here hx rfl (hb hby own_d15_33) rfl k) ?_
    show own_Go _ _ _ _ T1 (mkF m 34 #[.val (.ref a1), .val (.int 1), .val (.int st), .val (.ref a2), .val (.int 0), .val (.int 0), .unset, .unset, .unset] [(.long ((0 : Int32).toInt64)), (.long (z.toInt64)), (.long (st.toInt64))])
    rw [show ((0 : Int32).toInt64) = (0 : Int64) from by decide]
    refine own_st (fun _ k => XS.lsub X1.here hx rfl (hb hby own_d15_34) rfl k) ?_
    refine own_st (fun _ k => XS.lcmp X1.here hx rfl (hb hby own_d15_35) rfl k) ?_
    by_cases h2 : (0 : Int32) < (lcmpW (st.toInt64) ((z.toInt64) - (0 : Int64)))
    · refine own_st (fun _ k => XS.ifYes X1.here hx rfl (pc0 := 36) (pc' := 55) rfl (hb hby own_d15_36) rfl ((if0 _ _).trans (tlt (h2 : (0 : Int32) < (lcmpW (st.toInt64) ((z.toInt64) - (0 : Int64))))).2.2.1) (by decide) (by decide) k) ?_
      refine own_st (fun _ k => XS.iconst X1.here hx rfl (hb hby own_d15_55) k) ?_
      exact own_retN X1 hx hret (by simp) hlk (hb hby own_d15_56) ⟨by rw [if_neg h1, if_pos h2]; first | done | rfl, N1', e1⟩ (by decide) (by decide)
    · refine own_st (fun _ k => XS.ifNo X1.here hx rfl (hb hby own_d15_36) rfl ((if0 _ _).trans (flt (h2 : ¬ ((0 : Int32) < (lcmpW (st.toInt64) ((z.toInt64) - (0 : Int64)))))).2.2.1) k) ?_
      refine own_st (fun _ k => XS.iload X1.here hx rfl (hb hby own_d15_39) rfl k) ?_
      refine own_st (fun _ k => XS.i2l X1.here hx rfl (hb hby own_d15_41) rfl k) ?_
      show own_Go _ _ _ _ T1 (mkF m 42 #[.val (.ref a1), .val (.int 1), .val (.int st), .val (.ref a2), .val (.int 0), .val (.int 0), .unset, .unset, .unset] [(.long ((0 : Int32).toInt64))])
      rw [show ((0 : Int32).toInt64) = (0 : Int64) from by decide]
      refine own_st (fun _ k => XS.aloadN X1.here hx rfl (hb hby own_d15_42) rfl rfl k) ?_
      obtain ⟨v2, T2, L2, hQ2, X2, st2⟩ := own_callV X1 hx hZ (y := (⟨"java/lang/String", "length", "()I"⟩ : MethodName)) hown (own_w106 hw) (own_w73 hw) (own_w75 hw) (own_w74 hw) (own_w11 hw) (own_w76 hw) (by decide) (own_len_ l hw [] a2 v2 cs (0 : Int32) k2 [] h0 n0 (Nat.le_trans Z0 O0.1) (Scs.ext O0) hcs (E2.ext O0) (Fv2.ext O0) (Fc2.ext O0) (V2.ext O0)) e1 (E2.ext O0) (g := (mkF m 43 #[.val (.ref a1), .val (.int 1), .val (.int st), .val (.ref a2), .val (.int 0), .val (.int 0), .unset, .unset, .unset] [(.ref a2), (.long (0 : Int64))])) rfl (by rw [hml]; rfl) (argsL := []) (rest := [(.long (0 : Int64))]) (lenOf own_pd7 rfl) rfl rfl (W := 2) (Nat.le_of_eq rfl) (hb hby own_d15_43) (by decide) (by decide) (by decide) (by decide)
      obtain ⟨rfl, N2, e2⟩ := hQ2
      have N2' := Fr.app N1' N2
      refine own_st st2 ?_
      refine own_st (fun _ k => XS.i2l X2.here hx rfl (hb hby own_d15_46) rfl k) ?_
      show own_Go _ _ _ _ T2 (mkF m 47 #[.val (.ref a1), .val (.int 1), .val (.int st), .val (.ref a2), .val (.int 0), .val (.int 0), .unset, .unset, .unset] [(.long ((0 : Int32).toInt64)), (.long (0 : Int64))])
      rw [show ((0 : Int32).toInt64) = (0 : Int64) from by decide]
      refine own_st (fun _ k => XS.iload X2.here hx rfl (hb hby own_d15_47) rfl k) ?_
      refine own_st (fun _ k => XS.i2l X2.here hx rfl (hb hby own_d15_49) rfl k) ?_
      show own_Go _ _ _ _ T2 (mkF m 50 #[.val (.ref a1), .val (.int 1), .val (.int st), .val (.ref a2), .val (.int 0), .val (.int 0), .unset, .unset, .unset] [(.long ((0 : Int32).toInt64)), (.long (0 : Int64)), (.long (0 : Int64))])
      rw [show ((0 : Int32).toInt64) = (0 : Int64) from by decide]
      refine own_st (fun _ k => XS.lsub X2.here hx rfl (hb hby own_d15_50) rfl k) ?_
      show own_Go _ _ _ _ T2 (mkF m 51 #[.val (.ref a1), .val (.int 1), .val (.int st), .val (.ref a2), .val (.int 0), .val (.int 0), .unset, .unset, .unset] [(.long ((0 : Int64) - (0 : Int64))), (.long (0 : Int64))])
      rw [show ((0 : Int64) - (0 : Int64)) = (0 : Int64) from by decide]
      refine own_st (fun _ k => XS.lcmp X2.here hx rfl (hb hby own_d15_51) rfl k) ?_
      refine own_st (fun _ k => XS.ifYes X2.here hx rfl (pc0 := 52) (pc' := 57) rfl (hb hby own_d15_52) rfl ((if0 _ _).trans (flt (by decide : ¬ ((0 : Int32) < (lcmpW (0 : Int64) (0 : Int64))))).2.2.2) (by decide) (by decide) k) ?_
      refine own_st (fun _ k => XS.aloadN X2.here hx rfl (hb hby own_d15_57) rfl rfl k) ?_
      obtain ⟨T3, X3, e3, st3⟩ := getF X2 hx hZ hown (host := "") (Or.inl (own_w36 hw)) Via.refl e2 (Fv1.ext O0) (g := (mkF m 58 #[.val (.ref a1), .val (.int 1), .val (.int st), .val (.ref a2), .val (.int 0), .val (.int 0), .unset, .unset, .unset] [(.ref a1)])) rfl rfl (hb hby own_d15_58)
      refine own_st st3 ?_
      refine own_st (fun _ k => XS.astore X3.here hx rfl (hb hby own_d15_61) rfl rfl (l' := #[.val (.ref a1), .val (.int 1), .val (.int st), .val (.ref a2), .val (.int 0), .val (.int 0), .val (.ref v1), .unset, .unset]) rfl k) ?_
      refine own_st (fun _ k => XS.aloadN X3.here hx rfl (hb hby own_d15_63) rfl rfl k) ?_
      obtain ⟨T4, X4, e4, st4⟩ := getF X3 hx hZ hown (host := "") (Or.inl (own_w36 hw)) Via.refl e3 (Fv2.ext O0) (g := (mkF m 64 #[.val (.ref a1), .val (.int 1), .val (.int st), .val (.ref a2), .val (.int 0), .val (.int 0), .val (.ref v1), .unset, .unset] [(.ref a2)])) rfl rfl (hb hby own_d15_64)
      refine own_st st4 ?_
      show own_Go _ _ _ _ T4 (mkF m 67 #[.val (.ref a1), .val (.int 1), .val (.int st), .val (.ref a2), .val (.int 0), .val (.int 0), .val (.ref v1), .unset, .unset] [(.ref v2)])
      refine own_st (fun _ k => XS.astore X4.here hx rfl (hb hby own_d15_67) rfl rfl (l' := #[.val (.ref a1), .val (.int 1), .val (.int st), .val (.ref a2), .val (.int 0), .val (.int 0), .val (.ref v1), .val (.ref v2), .unset]) rfl k) ?_
      refine own_st (fun _ k => XS.aloadN X4.here hx rfl (hb hby own_d15_69) rfl rfl k) ?_
      obtain ⟨v5, T5, L5, hQ5, X5, st5⟩ := own_callV X4 hx hZ (y := (⟨"java/lang/String", "coder", "()B"⟩ : MethodName)) hown (own_w77 hw) (own_w78 hw) (own_w80 hw) (own_w79 hw) (own_w11 hw) (own_w81 hw) (by decide) (own_co l hw [] a1 cs h0 n0 (Nat.le_trans Z0 O0.1) (Scs.ext O0) hcs (Fc1.ext O0)) e4 (E1.ext O0) (g := (mkF m 70 #[.val (.ref a1), .val (.int 1), .val (.int st), .val (.ref a2), .val (.int 0), .val (.int 0), .val (.ref v1), .val (.ref v2), .unset] [(.ref a1)])) rfl (by rw [hml]; rfl) (argsL := []) (rest := []) (lenOf own_pd6 rfl) rfl rfl (W := 0) (Nat.le_of_eq rfl) (hb hby own_d15_70) (by decide) (by decide) (by decide) (by decide)
      obtain ⟨rfl, N5, e5⟩ := hQ5
      have N5' := Fr.app N2' N5
      refine own_st st5 ?_
      refine own_st (fun _ k => XS.istore X5.here hx rfl (hb hby own_d15_73) rfl (l' := #[.val (.ref a1), .val (.int 1), .val (.int st), .val (.ref a2), .val (.int 0), .val (.int 0), .val (.ref v1), .val (.ref v2), .val (.int 0)]) rfl k) ?_
      refine own_st (fun _ k => XS.iload X5.here hx rfl (hb hby own_d15_75) rfl k) ?_
      refine own_st (fun _ k => XS.aloadN X5.here hx rfl (hb hby own_d15_77) rfl rfl k) ?_
      obtain ⟨v6, T6, L6, hQ6, X6, st6⟩ := own_callV X5 hx hZ (y := (⟨"java/lang/String", "coder", "()B"⟩ : MethodName)) hown (own_w77 hw) (own_w78 hw) (own_w80 hw) (own_w79 hw) (own_w11 hw) (own_w81 hw) (by decide) (own_co l hw [] a2 cs h0 n0 (Nat.le_trans Z0 O0.1) (Scs.ext O0) hcs (Fc2.ext O0)) e5 (E2.ext O0) (g := (mkF m 78 #[.val (.ref a1), .val (.int 1), .val (.int st), .val (.ref a2), .val (.int 0), .val (.int 0), .val (.ref v1), .val (.ref v2), .val (.int 0)] [(.ref a2), (.int 0)])) rfl (by rw [hml]; rfl) (argsL := []) (rest := [(.int 0)]) (lenOf own_pd6 rfl) rfl rfl (W := 1) (Nat.le_of_eq rfl) (hb hby own_d15_78) (by decide) (by decide) (by decide) (by decide)
      obtain ⟨rfl, N6, e6⟩ := hQ6
      have N6' := Fr.app N5' N6
      refine own_st st6 ?_
      refine own_st (fun _ k => XS.icmpNo X6.here hx rfl (hb hby own_d15_81) rfl (teq (by decide : (0 : Int32) = (0 : Int32))).2 k) ?_
      show own_Go _ _ _ _ T6 (mkF m 84 #[.val (.ref a1), .val (.int 1), .val (.int st), .val (.ref a2), .val (.int 0), .val (.int 0), .val (.ref v1), .val (.ref v2), .val (.int 0)] [])
      refine own_st (fun _ k => XS.iload X6.here hx rfl (hb hby own_d15_84) rfl k) ?_
      refine own_st (fun _ k => XS.ifNo X6.here hx rfl (hb hby own_d15_86) rfl ((if0 _ _).trans (teq (by decide : (0 : Int32) = (0 : Int32))).2) k) ?_
      refine own_st (fun _ k => XS.aload X6.here hx rfl (hb hby own_d15_89) rfl rfl k) ?_
      refine own_st (fun _ k => XS.iloadN X6.here hx rfl (hb hby own_d15_91) rfl k) ?_
      refine own_st (fun _ k => XS.aload X6.here hx rfl (hb hby own_d15_92) rfl rfl k) ?_
      refine own_st (fun _ k => XS.iload X6.here hx rfl (hb hby own_d15_94) rfl k) ?_
      refine own_st (fun _ k => XS.iload X6.here hx rfl (hb hby own_d15_96) rfl k) ?_
      have b0 : 0 ≤ st.toInt := by
        have z0 : (0 : Int32).toInt = 0 := by decide
        have : ¬ st.toInt < (0 : Int32).toInt := fun q => h1 (Int32.lt_iff_toInt_lt.mpr q)
        omega
      have b1 : st.toInt + 0 ≤ z.toInt := by
        have q : ¬ (z.toInt64 - (0 : Int64)).toInt < st.toInt64.toInt := fun q => h2 ((lw_gt _ _).mpr (Int64.lt_iff_toInt_lt.mpr q))
        have q1 := c_lsub z.toInt64 (0 : Int64)
        have q2 := rng64 (z.toInt64 - (0 : Int64))
        have q3 := rng32 z
        have q4 : ((0 : Int64)).toInt = 0 := by decide
        rw [c_i2l] at q q1
        omega
      obtain ⟨v7, T7, L7, hQ7, X7, st7⟩ := own_callS X6 hx hZ (y := (⟨"java/lang/StringLatin1", "regionMatchesCI", "([BI[BII)Z"⟩ : MethodName)) hown (own_w107 hw) (own_w108 hw) (own_w109 hw) (own_w110 hw) (by decide) (own_ci0 l hw [] v1 v2 st (0 : Int32) (0 : Int32) z k1 k2 vs bf  h0 n0 (Nat.le_trans Z0 O0.1) rfl rfl b0 b1 zb (V1.ext O0) hB (V2.ext O0)) e6 (g := (mkF m 98 #[.val (.ref a1), .val (.int 1), .val (.int st), .val (.ref a2), .val (.int 0), .val (.int 0), .val (.ref v1), .val (.ref v2), .val (.int 0)] [(.int 0), (.int 0), (.ref v2), (.int st), (.ref v1)])) rfl (by rw [hml]; rfl) (argsL := [(.ref v1), (.int st), (.ref v2), (.int 0), (.int 0)]) (rest := []) (lenOf own_pd8 rfl) rfl rfl (W := 0) (Nat.le_of_eq rfl) (hb hby own_d15_98) (by decide) (by decide) (by decide) (by decide)
      obtain ⟨rfl, N7, e7⟩ := hQ7
      have N7' := Fr.app N6' N7
      refine own_st st7 ?_
      show own_Go _ _ _ _ T7 (mkF m 101 #[.val (.ref a1), .val (.int 1), .val (.int st), .val (.ref a2), .val (.int 0), .val (.int 0), .val (.ref v1), .val (.ref v2), .val (.int 0)] [(.int 1)])
      refine own_st (fun _ k => XS.goto X7.here hx rfl (pc0 := 101) (pc' := 116) rfl (hb hby own_d15_101) (by decide) (by decide) k) ?_
      exact own_retN X7 hx hret (by simp) hlk (hb hby own_d15_116) ⟨by rw [if_neg h1, if_neg h2]; exact congrArg (fun q => some (Value.int q)) (own_nzz0 ), N7', e7⟩ (by decide) (by decide)
theorem own_r01_0 {P Q : Prop} [Decidable P] [Decidable Q]  (h : ¬ (if P then (0 : Int32) else if Q then (0 : Int32) else (1 : Int32)) = 0) : (if P then (0 : Int32) else if Q then (0 : Int32) else (1 : Int32)) = 1 := by
  revert h
  repeat' split
  all_goals simp
def own_is0_Q (Z : State) (ta a1 wk2 a2 wk v1 v2 : Addr) (st en z cs : Int32) (k1 k2 : ClassId) (vs : List Value) (bf : Int32 → Int32) (h0 : Heap) (n0 : Nat) (v : Option Value) (h : Heap) (L : List Loc) : Prop := v = some (.int (if wk = wk2 then (if en - st = (0 : Int32) then (if st < 0 then (0 : Int32) else if (0 : Int32) < lcmpW st.toInt64 (z.toInt64 - (0 : Int64)) then (0 : Int32) else (1 : Int32)) else (0 : Int32)) else (0 : Int32))) ∧ Fr n0 L ∧ h = h0
set_option maxRecDepth 65536 in
set_option maxHeartbeats 40000000 in
theorem own_is0 (l : Launch) {Z : State} {a0 : Array Value} (hw : own_W Z a0) (ws : List Jvm.Cond) (ta a1 wk2 a2 wk v1 v2 : Addr) (st en z cs : Int32) (k1 k2 : ClassId) (vs : List Value) (bf : Int32 → Int32) (h0 : Heap) (n0 : Nat) (Z0 : n0 ≤ h0.size) (zb : z.toInt ≤ 5) (Fk : Fld Z h0 ta "com/example/isoscope/isoscope/SqlLexer$Token" "kind" "Lcom/example/isoscope/isoscope/SqlLexer$Kind;" (.ref wk)) (Fst : Fld Z h0 ta "com/example/isoscope/isoscope/SqlLexer$Token" "start" "I" (.int st)) (Fen : Fld Z h0 ta "com/example/isoscope/isoscope/SqlLexer$Token" "end" "I" (.int en)) (Scs : Sta Z h0 "java/lang/String" "COMPACT_STRINGS" "Z" (.int cs)) (hcs : ¬ cs = 0) (E1 : Exa Z h0 a1 "java/lang/String") (Fv1 : Fld Z h0 a1 "java/lang/String" "value" "[B" (.ref v1)) (Fc1 : Fld Z h0 a1 "java/lang/String" "coder" "B" (.int 0)) (V1 : Arv Z h0 v1 k1 .byte z vs (.int 0)) (hB : ∀ j : Int32, ¬ j < 0 → j < z → vs.getD j.toNatClampNeg (.int 0) = .int (bf j)) (E2 : Exa Z h0 a2 "java/lang/String") (Fv2 : Fld Z h0 a2 "java/lang/String" "value" "[B" (.ref v2)) (Fc2 : Fld Z h0 a2 "java/lang/String" "coder" "B" (.int 0)) (V2 : Arv Z h0 v2 k2 .byte (0 : Int32) [] (.int 0)) :
    MetFree l (⟨"com/example/isoscope/isoscope/SqlLexer$Token", "is", "(Ljava/lang/String;Lcom/example/isoscope/isoscope/SqlLexer$Kind;Ljava/lang/String;)Z"⟩ : MethodName) (head1 (Jvm.Cond.code (⟨"com/example/isoscope/isoscope/SqlLexer$Token", "is", "(Ljava/lang/String;Lcom/example/isoscope/isoscope/SqlLexer$Kind;Ljava/lang/String;)Z"⟩ : MethodName) prog_29_method_2_code 4 (some .boolean) :: ws) ({ frames := 3, cells := 0, slots := 0, locals := 53 } : Room)) (fun a U => a = #[(.ref ta), (.ref a1), (.ref wk2), (.ref a2)] ∧ Z.Warmed39 U.vm ∧ U.heap = h0) (fun _ _ _ _ _ => True) (fun _ U o U' => ∃ v L, o = .returned v ∧ own_is0_Q Z ta a1 wk2 a2 wk v1 v2 st en z cs k1 k2 vs bf h0 n0 v U'.heap L ∧ FrameEnd U o U' L ({ frames := 3, cells := 0, slots := 0, locals := 53 } : Room).cells ({ frames := 3, cells := 0, slots := 0, locals := 53 } : Room).slots) := by
  refine own_enter (C := ({ frames := 3, cells := 0, slots := 0, locals := 53 } : Room).cells) (S := ({ frames := 3, cells := 0, slots := 0, locals := 53 } : Room).slots) (plainFor_of_name own_pn4) ?_
  intro p e s m below meth c T0 X0 I e0
  obtain ⟨hx, hby, hml, hown, hnm, hret, hlk, hZ⟩ := I
  have N0 := Fr.nil n0
  have O0 := own_extr h0
  refine own_cast (own_ef12 m ta a1 wk2 a2) ?_
  show own_Go _ _ _ _ T0 (mkF m 0 #[.val (.ref ta), .val (.ref a1), .val (.ref wk2), .val (.ref a2)] [])
  refine own_st (fun _ k => XS.aloadN X0.here hx rfl (hb hby own_d12_0) rfl rfl k) ?_
  obtain ⟨T1, X1, e1, st1⟩ := getF X0 hx hZ hown (host := "") (Or.inl (own_w59 hw)) Via.refl e0 (Fk.ext O0) (g := (mkF m 1 #[.val (.ref ta), .val (.ref a1), .val (.ref wk2), .val (.ref a2)] [(.ref ta)])) rfl rfl (hb hby own_d12_1)
  refine own_st st1 ?_
  refine own_st (fun _ k => XS.aloadN X1.here hx rfl (hb hby own_d12_4) rfl rfl k) ?_
  by_cases h1 : wk = wk2
  · refine own_st (fun _ k => Jvm.RoadKit.acmp (g := (mkF m 5 #[.val (.ref ta), .val (.ref a1), .val (.ref wk2), .val (.ref a2)] [(.ref wk2), (.ref wk)])) X1 hx rfl rfl rfl (pc0 := 5) (pc' := 8) (same := true) rfl (hb hby own_d12_5) rfl (decide_eq_true (congrArg Value.ref h1)) (by decide) (by decide) k) ?_
    refine own_st (fun _ k => XS.aloadN X1.here hx rfl (hb hby own_d12_8) rfl rfl k) ?_
    obtain ⟨T2, X2, e2, st2⟩ := getF X1 hx hZ hown (host := "") (Or.inl (own_w63 hw)) Via.refl e1 (Fen.ext O0) (g := (mkF m 9 #[.val (.ref ta), .val (.ref a1), .val (.ref wk2), .val (.ref a2)] [(.ref ta)])) rfl rfl (hb hby own_d12_9)
    refine own_st st2 ?_
    refine own_st (fun _ k => XS.aloadN X2.here hx rfl (hb hby own_d12_12) rfl rfl k) ?_
    obtain ⟨T3, X3, e3, st3⟩ := getF X2 hx hZ hown (host := "") (Or.inl (own_w61 hw)) Via.refl e2 (Fst.ext O0) (g := (mkF m 13 #[.val (.ref ta), .val (.ref a1), .val (.ref wk2), .val (.ref a2)] [(.ref ta), (.int en)])) rfl rfl (hb hby own_d12_13)
    refine own_st st3 ?_
    show own_Go _ _ _ _ T3 (mkF m 16 #[.val (.ref ta), .val (.ref a1), .val (.ref wk2), .val (.ref a2)] [(.int st), (.int en)])
    refine own_st (fun _ k => XS.isub X3.here hx rfl (hb hby own_d12_16) rfl k) ?_
    refine own_st (fun _ k => XS.aloadN X3.here hx rfl (hb hby own_d12_17) rfl rfl k) ?_
    obtain ⟨v4, T4, L4, hQ4, X4, st4⟩ := own_callV X3 hx hZ (y := (⟨"java/lang/String", "length", "()I"⟩ : MethodName)) hown (own_w72 hw) (own_w73 hw) (own_w75 hw) (own_w74 hw) (own_w11 hw) (own_w76 hw) (by decide) (own_len_ l hw [] a2 v2 cs (0 : Int32) k2 [] h0 n0 (Nat.le_trans Z0 O0.1) (Scs.ext O0) hcs (E2.ext O0) (Fv2.ext O0) (Fc2.ext O0) (V2.ext O0)) e3 (E2.ext O0) (g := (mkF m 18 #[.val (.ref ta), .val (.ref a1), .val (.ref wk2), .val (.ref a2)] [(.ref a2), (.int (en - st))])) rfl (by rw [hml]; rfl) (argsL := []) (rest := [(.int (en - st))]) (lenOf own_pd7 rfl) rfl rfl (W := 1) (Nat.le_of_eq rfl) (hb hby own_d12_18) (by decide) (by decide) (by decide) (by decide)
    obtain ⟨rfl, N4, e4⟩ := hQ4
    have N4' := Fr.app N0 N4
    refine own_st st4 ?_
    by_cases h2 : (en - st) = (0 : Int32)
    · refine own_st (fun _ k => XS.icmpNo X4.here hx rfl (hb hby own_d12_21) rfl (teq (h2 : (en - st) = (0 : Int32))).2 k) ?_
      refine own_st (fun _ k => XS.aloadN X4.here hx rfl (hb hby own_d12_24) rfl rfl k) ?_
      refine own_st (fun _ k => XS.iconst X4.here hx rfl (hb hby own_d12_25) k) ?_
      refine own_st (fun _ k => XS.aloadN X4.here hx rfl (hb hby own_d12_26) rfl rfl k) ?_
      obtain ⟨T5, X5, e5, st5⟩ := getF X4 hx hZ hown (host := "") (Or.inl (own_w61 hw)) Via.refl e4 (Fst.ext O0) (g := (mkF m 27 #[.val (.ref ta), .val (.ref a1), .val (.ref wk2), .val (.ref a2)] [(.ref ta), (.int 1), (.ref a1)])) rfl rfl (hb hby own_d12_27)
      refine own_st st5 ?_
      show own_Go _ _ _ _ T5 (mkF m 30 #[.val (.ref ta), .val (.ref a1), .val (.ref wk2), .val (.ref a2)] [(.int st), (.int 1), (.ref a1)])
      refine own_st (fun _ k => XS.aloadN X5.here hx rfl (hb hby own_d12_30) rfl rfl k) ?_
      refine own_st (fun _ k => XS.iconst X5.here hx rfl (hb hby own_d12_31) k) ?_
      refine own_st (fun _ k => XS.aloadN X5.here hx rfl (hb hby own_d12_32) rfl rfl k) ?_
      obtain ⟨v6, T6, L6, hQ6, X6, st6⟩ := own_callV X5 hx hZ (y := (⟨"java/lang/String", "length", "()I"⟩ : MethodName)) hown (own_w72 hw) (own_w73 hw) (own_w75 hw) (own_w74 hw) (own_w11 hw) (own_w76 hw) (by decide) (own_len_ l hw [] a2 v2 cs (0 : Int32) k2 [] h0 n0 (Nat.le_trans Z0 O0.1) (Scs.ext O0) hcs (E2.ext O0) (Fv2.ext O0) (Fc2.ext O0) (V2.ext O0)) e5 (E2.ext O0) (g := (mkF m 33 #[.val (.ref ta), .val (.ref a1), .val (.ref wk2), .val (.ref a2)] [(.ref a2), (.int 0), (.ref a2), (.int st), (.int 1), (.ref a1)])) rfl (by rw [hml]; rfl) (argsL := []) (rest := [(.int 0), (.ref a2), (.int st), (.int 1), (.ref a1)]) (lenOf own_pd7 rfl) rfl rfl (W := 5) (Nat.le_of_eq rfl) (hb hby own_d12_33) (by decide) (by decide) (by decide) (by decide)
      obtain ⟨rfl, N6, e6⟩ := hQ6
      have N6' := Fr.app N4' N6
      refine own_st st6 ?_
      obtain ⟨v7, T7, L7, hQ7, X7, st7⟩ := own_callV X6 hx hZ (y := (⟨"java/lang/String", "regionMatches", "(ZILjava/lang/String;II)Z"⟩ : MethodName)) hown (own_w82 hw) (own_w83 hw) (own_w85 hw) (own_w84 hw) (own_w11 hw) (own_w86 hw) (by decide) (own_rm0 l hw [] a1 a2 v1 v2 (1 : Int32) st (0 : Int32) (0 : Int32) z cs k1 k2 vs bf  h0 n0 (Nat.le_trans Z0 O0.1) rfl rfl rfl zb (Scs.ext O0) hcs (E1.ext O0) (Fv1.ext O0) (Fc1.ext O0) (V1.ext O0) hB (E2.ext O0) (Fv2.ext O0) (Fc2.ext O0) (V2.ext O0)) e6 (E1.ext O0) (g := (mkF m 36 #[.val (.ref ta), .val (.ref a1), .val (.ref wk2), .val (.ref a2)] [(.int 0), (.int 0), (.ref a2), (.int st), (.int 1), (.ref a1)])) rfl (by rw [hml]; rfl) (argsL := [(.int 1), (.int st), (.ref a2), (.int 0), (.int 0)]) (rest := []) (lenOf own_pd9 rfl) rfl rfl (W := 0) (Nat.le_of_eq rfl) (hb hby own_d12_36) (by decide) (by decide) (by decide) (by decide)
      obtain ⟨rfl, N7, e7⟩ := hQ7
      have N7' := Fr.app N6' N7
      refine own_st st7 ?_
      by_cases h3 : (if st < 0 then (0 : Int32) else if (0 : Int32) < lcmpW st.toInt64 (z.toInt64 - (0 : Int64)) then (0 : Int32) else (1 : Int32)) = (0 : Int32)
      · refine own_st (fun _ k => XS.ifYes X7.here hx rfl (pc0 := 39) (pc' := 46) rfl (hb hby own_d12_39) rfl ((if0 _ _).trans (teq (h3 : (if st < 0 then (0 : Int32) else if (0 : Int32) < lcmpW st.toInt64 (z.toInt64 - (0 : Int64)) then (0 : Int32) else (1 : Int32)) = (0 : Int32))).1) (by decide) (by decide) k) ?_
        refine own_st (fun _ k => XS.iconst X7.here hx rfl (hb hby own_d12_46) k) ?_
        exact own_retN X7 hx hret (by simp) hlk (hb hby own_d12_47) ⟨by simp only [h1, h2, if_true, h3]; rfl, N7', e7⟩ (by decide) (by decide)
      · refine own_st (fun _ k => XS.ifNo X7.here hx rfl (hb hby own_d12_39) rfl ((if0 _ _).trans (feq (h3 : ¬ ((if st < 0 then (0 : Int32) else if (0 : Int32) < lcmpW st.toInt64 (z.toInt64 - (0 : Int64)) then (0 : Int32) else (1 : Int32)) = (0 : Int32)))).1) k) ?_
        refine own_st (fun _ k => XS.iconst X7.here hx rfl (hb hby own_d12_42) k) ?_
        refine own_st (fun _ k => XS.goto X7.here hx rfl (pc0 := 43) (pc' := 47) rfl (hb hby own_d12_43) (by decide) (by decide) k) ?_
        show own_Go _ _ _ _ T7 (mkF m 47 #[.val (.ref ta), .val (.ref a1), .val (.ref wk2), .val (.ref a2)] [(.int 1)])
        exact own_retN X7 hx hret (by simp) hlk (hb hby own_d12_47) ⟨by simp only [h1, h2, if_true]; rw [own_r01_0 h3]; rfl, N7', e7⟩ (by decide) (by decide)
    · refine own_st (fun _ k => XS.icmpYes X4.here hx rfl (pc0 := 21) (pc' := 46) rfl (hb hby own_d12_21) rfl (feq (h2 : ¬ ((en - st) = (0 : Int32)))).2 (by decide) (by decide) k) ?_
      refine own_st (fun _ k => XS.iconst X4.here hx rfl (hb hby own_d12_46) k) ?_
      exact own_retN X4 hx hret (by simp) hlk (hb hby own_d12_47) ⟨by simp [nar, *], N4', e4⟩ (by decide) (by decide)
  · refine own_st (fun _ k => Jvm.RoadKit.acmp (g := (mkF m 5 #[.val (.ref ta), .val (.ref a1), .val (.ref wk2), .val (.ref a2)] [(.ref wk2), (.ref wk)])) X1 hx rfl rfl rfl (pc0 := 5) (pc' := 46) (same := false) rfl (hb hby own_d12_5) rfl (decide_eq_false fun q => h1 (Value.ref.inj q)) (by decide) (by decide) k) ?_
    refine own_st (fun _ k => XS.iconst X1.here hx rfl (hb hby own_d12_46) k) ?_
    exact own_retN X1 hx hret (by simp) hlk (hb hby own_d12_47) ⟨by simp [nar, *], N0, e1⟩ (by decide) (by decide)
def own_ci1_Q (Z : State) (a1 a2 : Addr) (st p1 p2 z : Int32) (k1 k2 : ClassId) (vs : List Value) (bf : Int32 → Int32) (y0 : Int32) (h0 : Heap) (n0 : Nat) (v : Option Value) (h : Heap) (L : List Loc) : Prop := v = some (.int (if own_eic (bf st) y0 = 0 then (0 : Int32) else (1 : Int32))) ∧ Fr n0 L ∧ h = h0
set_option maxRecDepth 65536 in
set_option maxHeartbeats 40000000 in
theorem own_ci1 (l : Launch) {Z : State} {a0 : Array Value} (hw : own_W Z a0) (ws : List Jvm.Cond) (a1 a2 : Addr) (st p1 p2 z : Int32) (k1 k2 : ClassId) (vs : List Value) (bf : Int32 → Int32) (y0 : Int32) (h0 : Heap) (n0 : Nat) (Z0 : n0 ≤ h0.size) (hp1 : p1 = 0) (hp2 : p2 = (1 : Int32)) (r0 : 0 ≤ st.toInt) (r1 : st.toInt + 1 ≤ z.toInt) (r2 : z.toInt ≤ 5) (V1 : Arv Z h0 a1 k1 .byte z vs (.int 0)) (hB : ∀ j : Int32, ¬ j < 0 → j < z → vs.getD j.toNatClampNeg (.int 0) = .int (bf j)) (V2 : Arv Z h0 a2 k2 .byte (1 : Int32) [(.int y0)] (.int 0)) :
    MetFree l (⟨"java/lang/StringLatin1", "regionMatchesCI", "([BI[BII)Z"⟩ : MethodName) (head1 (Jvm.Cond.code (⟨"java/lang/StringLatin1", "regionMatchesCI", "([BI[BII)Z"⟩ : MethodName) jdk_43_method_30_code 8 (some .boolean) :: ws) ({ frames := 1, cells := 0, slots := 0, locals := 14 } : Room)) (fun a U => a = #[(.ref a1), (.int st), (.ref a2), (.int p1), (.int p2)] ∧ Z.Warmed39 U.vm ∧ U.heap = h0) (fun _ _ _ _ _ => True) (fun _ U o U' => ∃ v L, o = .returned v ∧ own_ci1_Q Z a1 a2 st p1 p2 z k1 k2 vs bf y0 h0 n0 v U'.heap L ∧ FrameEnd U o U' L ({ frames := 1, cells := 0, slots := 0, locals := 14 } : Room).cells ({ frames := 1, cells := 0, slots := 0, locals := 14 } : Room).slots) := by
  refine own_enter (C := ({ frames := 1, cells := 0, slots := 0, locals := 14 } : Room).cells) (S := ({ frames := 1, cells := 0, slots := 0, locals := 14 } : Room).slots) (plainFor_of_name own_pn6) ?_
  intro p e s m below meth c T0 X0 I e0
  obtain ⟨hx, hby, hml, hown, hnm, hret, hlk, hZ⟩ := I
  have N0 := Fr.nil n0
  have O0 := own_extr h0
  refine own_cast (own_ef17 m a1 st a2 p1 p2) ?_
  show own_Go _ _ _ _ T0 (mkF m 0 #[.val (.ref a1), .val (.int st), .val (.ref a2), .val (.int p1), .val (.int p2), .unset, .unset, .unset] [])
  rw [hp1, hp2]
  show own_Go _ _ _ _ T0 (mkF m 0 #[.val (.ref a1), .val (.int st), .val (.ref a2), .val (.int 0), .val (.int 1), .unset, .unset, .unset] [])
  have z5 : ((1 : Int32)).toInt = 1 := by decide
  have i_e : (st + (1 : Int32)).toInt = st.toInt + 1 := own_plus z5 (by decide) (by decide) (by omega) (by omega)
  have z1 : (1 : Int32).toInt = 1 := by decide
  have z0 : (0 : Int32).toInt = 0 := by decide
  have i_1 : (st + (1 : Int32)).toInt = st.toInt + 1 := own_plus z1 (by decide) (by decide) (by omega) (by omega)
  refine own_st (fun _ k => XS.iloadN X0.here hx rfl (hb hby own_d17_0) rfl k) ?_
  refine own_st (fun _ k => XS.iload X0.here hx rfl (hb hby own_d17_1) rfl k) ?_
  refine own_st (fun _ k => XS.iadd X0.here hx rfl (hb hby own_d17_3) rfl k) ?_
  refine own_st (fun _ k => XS.istore X0.here hx rfl (hb hby own_d17_4) rfl (l' := #[.val (.ref a1), .val (.int st), .val (.ref a2), .val (.int 0), .val (.int 1), .val (.int (st + (1 : Int32))), .unset, .unset]) rfl k) ?_
  refine own_st (fun _ k => XS.iloadN X0.here hx rfl (hb hby own_d17_6) rfl k) ?_
  refine own_st (fun _ k => XS.iload X0.here hx rfl (hb hby own_d17_7) rfl k) ?_
  refine own_st (fun _ k => XS.icmpNo X0.here hx rfl (hb hby own_d17_9) rfl (tlt (Int32.lt_iff_toInt_lt.mpr (by omega) : st < (st + (1 : Int32)))).2.1 k) ?_
  refine own_st (fun _ k => XS.aloadN X0.here hx rfl (hb hby own_d17_12) rfl rfl k) ?_
  show own_Go _ _ _ _ T0 (mkF m 13 #[.val (.ref a1), .val (.int st), .val (.ref a2), .val (.int 0), .val (.int 1), .val (.int (st + (1 : Int32))), .unset, .unset] [(.ref a1)])
  refine own_st (fun _ k => XS.iloadN X0.here hx rfl (hb hby own_d17_13) rfl k) ?_
  refine own_st (fun _ k => XS.iinc X0.here hx rfl (hb hby own_d17_14) rfl (l' := #[.val (.ref a1), .val (.int (st + (1 : Int32))), .val (.ref a2), .val (.int 0), .val (.int 1), .val (.int (st + (1 : Int32))), .unset, .unset]) rfl k) ?_
  have hj0 : ¬ st < 0 ∧ st < z := ⟨fun q => by have := Int32.lt_iff_toInt_lt.mp q; omega, Int32.lt_iff_toInt_lt.mpr (by omega)⟩
  refine own_st (own_ldB X0 hx hZ e0 (V1.ext O0) (j := st) hj0 (v := (.int (bf st))) (hB _ hj0.1 hj0.2) (g := (mkF m 17 #[.val (.ref a1), .val (.int (st + (1 : Int32))), .val (.ref a2), .val (.int 0), .val (.int 1), .val (.int (st + (1 : Int32))), .unset, .unset] [(.int st), (.ref a1)])) rfl rfl (hb hby own_d17_17)) ?_
  refine own_st (fun _ k => XS.istore X0.here hx rfl (hb hby own_d17_18) rfl (l' := #[.val (.ref a1), .val (.int (st + (1 : Int32))), .val (.ref a2), .val (.int 0), .val (.int 1), .val (.int (st + (1 : Int32))), .val (.int (bf st)), .unset]) rfl k) ?_
  refine own_st (fun _ k => XS.aloadN X0.here hx rfl (hb hby own_d17_20) rfl rfl k) ?_
  refine own_st (fun _ k => XS.iloadN X0.here hx rfl (hb hby own_d17_21) rfl k) ?_
  refine own_st (fun _ k => XS.iinc X0.here hx rfl (hb hby own_d17_22) rfl (l' := #[.val (.ref a1), .val (.int (st + (1 : Int32))), .val (.ref a2), .val (.int ((0 : Int32) + (1 : Int32))), .val (.int 1), .val (.int (st + (1 : Int32))), .val (.int (bf st)), .unset]) rfl k) ?_
  show own_Go _ _ _ _ T0 (mkF m 25 #[.val (.ref a1), .val (.int (st + (1 : Int32))), .val (.ref a2), .val (.int ((0 : Int32) + (1 : Int32))), .val (.int 1), .val (.int (st + (1 : Int32))), .val (.int (bf st)), .unset] [(.int 0), (.ref a2)])
  rw [show ((0 : Int32) + (1 : Int32)) = (1 : Int32) from by decide]
  refine own_st (own_ldB X0 hx hZ e0 (V2.ext O0) (j := (0 : Int32)) (by decide) (v := (.int y0)) rfl (g := (mkF m 25 #[.val (.ref a1), .val (.int (st + (1 : Int32))), .val (.ref a2), .val (.int 1), .val (.int 1), .val (.int (st + (1 : Int32))), .val (.int (bf st)), .unset] [(.int 0), (.ref a2)])) rfl rfl (hb hby own_d17_25)) ?_
  refine own_st (fun _ k => XS.istore X0.here hx rfl (hb hby own_d17_26) rfl (l' := #[.val (.ref a1), .val (.int (st + (1 : Int32))), .val (.ref a2), .val (.int 1), .val (.int 1), .val (.int (st + (1 : Int32))), .val (.int (bf st)), .val (.int y0)]) rfl k) ?_
  refine own_st (fun _ k => XS.iload X0.here hx rfl (hb hby own_d17_28) rfl k) ?_
  refine own_st (fun _ k => XS.iload X0.here hx rfl (hb hby own_d17_30) rfl k) ?_
  obtain ⟨v1, T1, L1, hQ1, X1, st1⟩ := own_callS X0 hx hZ (y := (⟨"java/lang/CharacterDataLatin1", "equalsIgnoreCase", "(BB)Z"⟩ : MethodName)) hown (own_w111 hw) (own_w112 hw) (own_w113 hw) (own_w114 hw) (by decide) (own_eicc l hw [] (bf st) y0 h0 n0 (Nat.le_trans Z0 O0.1)) e0 (g := (mkF m 32 #[.val (.ref a1), .val (.int (st + (1 : Int32))), .val (.ref a2), .val (.int 1), .val (.int 1), .val (.int (st + (1 : Int32))), .val (.int (bf st)), .val (.int y0)] [(.int y0), (.int (bf st))])) rfl (by rw [hml]; rfl) (argsL := [(.int (bf st)), (.int y0)]) (rest := []) (lenOf own_pd10 rfl) rfl rfl (W := 0) (Nat.le_of_eq rfl) (hb hby own_d17_32) (by decide) (by decide) (by decide) (by decide)
  obtain ⟨rfl, N1, e1⟩ := hQ1
  have N1' := Fr.app N0 N1
  refine own_st st1 ?_
  by_cases hq0 : (own_eic (bf st) y0) = (0 : Int32)
  · refine own_st (fun _ k => XS.ifYes X1.here hx rfl (pc0 := 35) (pc' := 41) rfl (hb hby own_d17_35) rfl ((if0 _ _).trans (teq (hq0 : (own_eic (bf st) y0) = (0 : Int32))).1) (by decide) (by decide) k) ?_
    refine own_st (fun _ k => XS.iconst X1.here hx rfl (hb hby own_d17_41) k) ?_
    show own_Go _ _ _ _ T1 (mkF m 42 #[.val (.ref a1), .val (.int (st + (1 : Int32))), .val (.ref a2), .val (.int 1), .val (.int 1), .val (.int (st + (1 : Int32))), .val (.int (bf st)), .val (.int y0)] [(.int 0)])
    exact own_retN X1 hx hret (by simp) hlk (hb hby own_d17_42) ⟨by simp [nar, *], N1', e1⟩ (by decide) (by decide)
  · refine own_st (fun _ k => XS.ifNo X1.here hx rfl (hb hby own_d17_35) rfl ((if0 _ _).trans (feq (hq0 : ¬ ((own_eic (bf st) y0) = (0 : Int32)))).1) k) ?_
    refine own_st (fun _ k => XS.goto X1.here hx rfl (pc0 := 38) (pc' := 6) rfl (hb hby own_d17_38) (by decide) (by decide) k) ?_
    show own_Go _ _ _ _ T1 (mkF m 6 #[.val (.ref a1), .val (.int (st + (1 : Int32))), .val (.ref a2), .val (.int 1), .val (.int 1), .val (.int (st + (1 : Int32))), .val (.int (bf st)), .val (.int y0)] [])
    refine own_st (fun _ k => XS.iloadN X1.here hx rfl (hb hby own_d17_6) rfl k) ?_
    refine own_st (fun _ k => XS.iload X1.here hx rfl (hb hby own_d17_7) rfl k) ?_
    refine own_st (fun _ k => XS.icmpYes X1.here hx rfl (pc0 := 9) (pc' := 43) rfl (hb hby own_d17_9) rfl (flt (fun q => by have := Int32.lt_iff_toInt_lt.mp q; omega : ¬ ((st + (1 : Int32)) < (st + (1 : Int32))))).2.1 (by decide) (by decide) k) ?_
    refine own_st (fun _ k => XS.iconst X1.here hx rfl (hb hby own_d17_43) k) ?_
    exact own_retN X1 hx hret (by simp) hlk (hb hby own_d17_44) ⟨by simp [nar, *], N1', e1⟩ (by decide) (by decide)
theorem own_nzz1 (e0 : Int32) : nar .boolean (if e0 = 0 then (0 : Int32) else (1 : Int32)) = (if e0 = 0 then (0 : Int32) else (1 : Int32)) := by
  repeat' split
  all_goals decide
def own_rm1_Q (Z : State) (a1 a2 v1 v2 : Addr) (p0 st p1 p2 z cs : Int32) (k1 k2 : ClassId) (vs : List Value) (bf : Int32 → Int32) (y0 : Int32) (h0 : Heap) (n0 : Nat) (v : Option Value) (h : Heap) (L : List Loc) : Prop := v = some (.int (if st < 0 then (0 : Int32) else if (0 : Int32) < lcmpW st.toInt64 (z.toInt64 - (1 : Int64)) then (0 : Int32) else (if own_eic (bf st) y0 = 0 then (0 : Int32) else (1 : Int32)))) ∧ Fr n0 L ∧ h = h0
set_option maxRecDepth 65536 in
set_option maxHeartbeats 40000000 in
theorem own_rm1 (l : Launch) {Z : State} {a0 : Array Value} (hw : own_W Z a0) (ws : List Jvm.Cond) (a1 a2 v1 v2 : Addr) (p0 st p1 p2 z cs : Int32) (k1 k2 : ClassId) (vs : List Value) (bf : Int32 → Int32) (y0 : Int32) (h0 : Heap) (n0 : Nat) (Z0 : n0 ≤ h0.size) (hp0 : p0 = 1) (hp1 : p1 = 0) (hp2 : p2 = (1 : Int32)) (zb : z.toInt ≤ 5) (Scs : Sta Z h0 "java/lang/String" "COMPACT_STRINGS" "Z" (.int cs)) (hcs : ¬ cs = 0) (E1 : Exa Z h0 a1 "java/lang/String") (Fv1 : Fld Z h0 a1 "java/lang/String" "value" "[B" (.ref v1)) (Fc1 : Fld Z h0 a1 "java/lang/String" "coder" "B" (.int 0)) (V1 : Arv Z h0 v1 k1 .byte z vs (.int 0)) (hB : ∀ j : Int32, ¬ j < 0 → j < z → vs.getD j.toNatClampNeg (.int 0) = .int (bf j)) (E2 : Exa Z h0 a2 "java/lang/String") (Fv2 : Fld Z h0 a2 "java/lang/String" "value" "[B" (.ref v2)) (Fc2 : Fld Z h0 a2 "java/lang/String" "coder" "B" (.int 0)) (V2 : Arv Z h0 v2 k2 .byte (1 : Int32) [(.int y0)] (.int 0)) :
    MetFree l (⟨"java/lang/String", "regionMatches", "(ZILjava/lang/String;II)Z"⟩ : MethodName) (head1 (Jvm.Cond.code (⟨"java/lang/String", "regionMatches", "(ZILjava/lang/String;II)Z"⟩ : MethodName) jdk_42_method_74_code 9 (some .boolean) :: ws) ({ frames := 2, cells := 0, slots := 0, locals := 33 } : Room)) (fun a U => a = #[(.ref a1), (.int p0), (.int st), (.ref a2), (.int p1), (.int p2)] ∧ Z.Warmed39 U.vm ∧ U.heap = h0) (fun _ _ _ _ _ => True) (fun _ U o U' => ∃ v L, o = .returned v ∧ own_rm1_Q Z a1 a2 v1 v2 p0 st p1 p2 z cs k1 k2 vs bf y0 h0 n0 v U'.heap L ∧ FrameEnd U o U' L ({ frames := 2, cells := 0, slots := 0, locals := 33 } : Room).cells ({ frames := 2, cells := 0, slots := 0, locals := 33 } : Room).slots) := by
  refine own_enter (C := ({ frames := 2, cells := 0, slots := 0, locals := 33 } : Room).cells) (S := ({ frames := 2, cells := 0, slots := 0, locals := 33 } : Room).slots) (plainFor_of_name own_pn1) ?_
  intro p e s m below meth c T0 X0 I e0
  obtain ⟨hx, hby, hml, hown, hnm, hret, hlk, hZ⟩ := I
  have N0 := Fr.nil n0
  have O0 := own_extr h0
  refine own_cast (own_ef15 m a1 p0 st a2 p1 p2) ?_
  show own_Go _ _ _ _ T0 (mkF m 0 #[.val (.ref a1), .val (.int p0), .val (.int st), .val (.ref a2), .val (.int p1), .val (.int p2), .unset, .unset, .unset] [])
  rw [hp0, hp1, hp2]
  show own_Go _ _ _ _ T0 (mkF m 0 #[.val (.ref a1), .val (.int 1), .val (.int st), .val (.ref a2), .val (.int 0), .val (.int 1), .unset, .unset, .unset] [])
  refine own_st (fun _ k => XS.iloadN X0.here hx rfl (hb hby own_d15_0) rfl k) ?_
  refine own_st (fun _ k => XS.ifYes X0.here hx rfl (pc0 := 1) (pc' := 15) rfl (hb hby own_d15_1) rfl ((if0 _ _).trans (feq (by decide : ¬ ((1 : Int32) = (0 : Int32)))).2) (by decide) (by decide) k) ?_
  refine own_st (fun _ k => XS.iload X0.here hx rfl (hb hby own_d15_15) rfl k) ?_
  refine own_st (fun _ k => XS.ifNo X0.here hx rfl (hb hby own_d15_17) rfl ((if0 _ _).trans (flt (by decide : ¬ ((0 : Int32) < (0 : Int32)))).1) k) ?_
  refine own_st (fun _ k => XS.iloadN X0.here hx rfl (hb hby own_d15_20) rfl k) ?_
  by_cases h1 : st < (0 : Int32)
  · refine own_st (fun _ k => XS.ifYes X0.here hx rfl (pc0 := 21) (pc' := 55) rfl (hb hby own_d15_21) rfl ((if0 _ _).trans (tlt (h1 : st < (0 : Int32))).1) (by decide) (by decide) k) ?_
    refine own_st (fun _ k => XS.iconst X0.here hx rfl (hb hby own_d15_55) k) ?_
    exact own_retN X0 hx hret (by simp) hlk (hb hby own_d15_56) ⟨by rw [if_pos h1]; first | done | rfl, N0, e0⟩ (by decide) (by decide)
  · refine own_st (fun _ k => XS.ifNo X0.here hx rfl (hb hby own_d15_21) rfl ((if0 _ _).trans (flt (h1 : ¬ (st < (0 : Int32)))).1) k) ?_
    refine own_st (fun _ k => XS.iloadN X0.here hx rfl (hb hby own_d15_24) rfl k) ?_
    refine own_st (fun _ k => XS.i2l X0.here hx rfl (hb hby own_d15_25) rfl k) ?_
    show own_Go _ _ _ _ T0 (mkF m 26 #[.val (.ref a1), .val (.int 1), .val (.int st), .val (.ref a2), .val (.int 0), .val (.int 1), .unset, .unset, .unset] [(.long (st.toInt64))])
    refine own_st (fun _ k => XS.aloadN X0.here hx rfl (hb hby own_d15_26) rfl rfl k) ?_
    obtain ⟨v1, T1, L1, hQ1, X1, st1⟩ := own_callV X0 hx hZ (y := (⟨"java/lang/String", "length", "()I"⟩ : MethodName)) hown (own_w106 hw) (own_w73 hw) (own_w75 hw) (own_w74 hw) (own_w11 hw) (own_w76 hw) (by decide) (own_len_ l hw [] a1 v1 cs z k1 vs h0 n0 (Nat.le_trans Z0 O0.1) (Scs.ext O0) hcs (E1.ext O0) (Fv1.ext O0) (Fc1.ext O0) (V1.ext O0)) e0 (E1.ext O0) (g := (mkF m 27 #[.val (.ref a1), .val (.int 1), .val (.int st), .val (.ref a2), .val (.int 0), .val (.int 1), .unset, .unset, .unset] [(.ref a1), (.long (st.toInt64))])) rfl (by rw [hml]; rfl) (argsL := []) (rest := [(.long (st.toInt64))]) (lenOf own_pd7 rfl) rfl rfl (W := 2) (Nat.le_of_eq rfl) (hb hby own_d15_27) (by decide) (by decide) (by decide) (by decide)
    obtain ⟨rfl, N1, e1⟩ := hQ1
    have N1' := Fr.app N0 N1
    refine own_st st1 ?_
    refine own_st (fun _ k => XS.i2l X1.here hx rfl (hb hby own_d15_30) rfl k) ?_
    refine own_st (fun _ k => XS.iload X1.here hx rfl (hb hby own_d15_31) rfl k) ?_
    refine own_st (fun _ k => XS.i2l X1.here hx rfl (hb hby own_d15_33) rfl k) ?_
    show own_Go _ _ _ _ T1 (mkF m 34 #[.val (.ref a1), .val (.int 1), .val (.int st), .val (.ref a2), .val (.int 0), .val (.int 1), .unset, .unset, .unset] [(.long ((1 : Int32).toInt64)), (.long (z.toInt64)), (.long (st.toInt64))])
    rw [show ((1 : Int32).toInt64) = (1 : Int64) from by decide]
    refine own_st (fun _ k => XS.lsub X1.here hx rfl (hb hby own_d15_34) rfl k) ?_
    refine own_st (fun _ k => XS.lcmp X1.here hx rfl (hb hby own_d15_35) rfl k) ?_
    by_cases h2 : (0 : Int32) < (lcmpW (st.toInt64) ((z.toInt64) - (1 : Int64)))
    · refine own_st (fun _ k => XS.ifYes X1.here hx rfl (pc0 := 36) (pc' := 55) rfl (hb hby own_d15_36) rfl ((if0 _ _).trans (tlt (h2 : (0 : Int32) < (lcmpW (st.toInt64) ((z.toInt64) - (1 : Int64))))).2.2.1) (by decide) (by decide) k) ?_
      refine own_st (fun _ k => XS.iconst X1.here hx rfl (hb hby own_d15_55) k) ?_
      exact own_retN X1 hx hret (by simp) hlk (hb hby own_d15_56) ⟨by rw [if_neg h1, if_pos h2]; first | done | rfl, N1', e1⟩ (by decide) (by decide)
    · refine own_st (fun _ k => XS.ifNo X1.here hx rfl (hb hby own_d15_36) rfl ((if0 _ _).trans (flt (h2 : ¬ ((0 : Int32) < (lcmpW (st.toInt64) ((z.toInt64) - (1 : Int64)))))).2.2.1) k) ?_
      refine own_st (fun _ k => XS.iload X1.here hx rfl (hb hby own_d15_39) rfl k) ?_
      refine own_st (fun _ k => XS.i2l X1.here hx rfl (hb hby own_d15_41) rfl k) ?_
      show own_Go _ _ _ _ T1 (mkF m 42 #[.val (.ref a1), .val (.int 1), .val (.int st), .val (.ref a2), .val (.int 0), .val (.int 1), .unset, .unset, .unset] [(.long ((0 : Int32).toInt64))])
      rw [show ((0 : Int32).toInt64) = (0 : Int64) from by decide]
      refine own_st (fun _ k => XS.aloadN X1.here hx rfl (hb hby own_d15_42) rfl rfl k) ?_
      obtain ⟨v2, T2, L2, hQ2, X2, st2⟩ := own_callV X1 hx hZ (y := (⟨"java/lang/String", "length", "()I"⟩ : MethodName)) hown (own_w106 hw) (own_w73 hw) (own_w75 hw) (own_w74 hw) (own_w11 hw) (own_w76 hw) (by decide) (own_len_ l hw [] a2 v2 cs (1 : Int32) k2 [(.int y0)] h0 n0 (Nat.le_trans Z0 O0.1) (Scs.ext O0) hcs (E2.ext O0) (Fv2.ext O0) (Fc2.ext O0) (V2.ext O0)) e1 (E2.ext O0) (g := (mkF m 43 #[.val (.ref a1), .val (.int 1), .val (.int st), .val (.ref a2), .val (.int 0), .val (.int 1), .unset, .unset, .unset] [(.ref a2), (.long (0 : Int64))])) rfl (by rw [hml]; rfl) (argsL := []) (rest := [(.long (0 : Int64))]) (lenOf own_pd7 rfl) rfl rfl (W := 2) (Nat.le_of_eq rfl) (hb hby own_d15_43) (by decide) (by decide) (by decide) (by decide)
      obtain ⟨rfl, N2, e2⟩ := hQ2
      have N2' := Fr.app N1' N2
      refine own_st st2 ?_
      refine own_st (fun _ k => XS.i2l X2.here hx rfl (hb hby own_d15_46) rfl k) ?_
      show own_Go _ _ _ _ T2 (mkF m 47 #[.val (.ref a1), .val (.int 1), .val (.int st), .val (.ref a2), .val (.int 0), .val (.int 1), .unset, .unset, .unset] [(.long ((1 : Int32).toInt64)), (.long (0 : Int64))])
      rw [show ((1 : Int32).toInt64) = (1 : Int64) from by decide]
      refine own_st (fun _ k => XS.iload X2.here hx rfl (hb hby own_d15_47) rfl k) ?_
      refine own_st (fun _ k => XS.i2l X2.here hx rfl (hb hby own_d15_49) rfl k) ?_
      show own_Go _ _ _ _ T2 (mkF m 50 #[.val (.ref a1), .val (.int 1), .val (.int st), .val (.ref a2), .val (.int 0), .val (.int 1), .unset, .unset, .unset] [(.long ((1 : Int32).toInt64)), (.long (1 : Int64)), (.long (0 : Int64))])
      rw [show ((1 : Int32).toInt64) = (1 : Int64) from by decide]
      refine own_st (fun _ k => XS.lsub X2.here hx rfl (hb hby own_d15_50) rfl k) ?_
      show own_Go _ _ _ _ T2 (mkF m 51 #[.val (.ref a1), .val (.int 1), .val (.int st), .val (.ref a2), .val (.int 0), .val (.int 1), .unset, .unset, .unset] [(.long ((1 : Int64) - (1 : Int64))), (.long (0 : Int64))])
      rw [show ((1 : Int64) - (1 : Int64)) = (0 : Int64) from by decide]
      refine own_st (fun _ k => XS.lcmp X2.here hx rfl (hb hby own_d15_51) rfl k) ?_
      refine own_st (fun _ k => XS.ifYes X2.here hx rfl (pc0 := 52) (pc' := 57) rfl (hb hby own_d15_52) rfl ((if0 _ _).trans (flt (by decide : ¬ ((0 : Int32) < (lcmpW (0 : Int64) (0 : Int64))))).2.2.2) (by decide) (by decide) k) ?_
      refine own_st (fun _ k => XS.aloadN X2.here hx rfl (hb hby own_d15_57) rfl rfl k) ?_
      obtain ⟨T3, X3, e3, st3⟩ := getF X2 hx hZ hown (host := "") (Or.inl (own_w36 hw)) Via.refl e2 (Fv1.ext O0) (g := (mkF m 58 #[.val (.ref a1), .val (.int 1), .val (.int st), .val (.ref a2), .val (.int 0), .val (.int 1), .unset, .unset, .unset] [(.ref a1)])) rfl rfl (hb hby own_d15_58)
      refine own_st st3 ?_
      refine own_st (fun _ k => XS.astore X3.here hx rfl (hb hby own_d15_61) rfl rfl (l' := #[.val (.ref a1), .val (.int 1), .val (.int st), .val (.ref a2), .val (.int 0), .val (.int 1), .val (.ref v1), .unset, .unset]) rfl k) ?_
      refine own_st (fun _ k => XS.aloadN X3.here hx rfl (hb hby own_d15_63) rfl rfl k) ?_
      obtain ⟨T4, X4, e4, st4⟩ := getF X3 hx hZ hown (host := "") (Or.inl (own_w36 hw)) Via.refl e3 (Fv2.ext O0) (g := (mkF m 64 #[.val (.ref a1), .val (.int 1), .val (.int st), .val (.ref a2), .val (.int 0), .val (.int 1), .val (.ref v1), .unset, .unset] [(.ref a2)])) rfl rfl (hb hby own_d15_64)
      refine own_st st4 ?_
      show own_Go _ _ _ _ T4 (mkF m 67 #[.val (.ref a1), .val (.int 1), .val (.int st), .val (.ref a2), .val (.int 0), .val (.int 1), .val (.ref v1), .unset, .unset] [(.ref v2)])
      refine own_st (fun _ k => XS.astore X4.here hx rfl (hb hby own_d15_67) rfl rfl (l' := #[.val (.ref a1), .val (.int 1), .val (.int st), .val (.ref a2), .val (.int 0), .val (.int 1), .val (.ref v1), .val (.ref v2), .unset]) rfl k) ?_
      refine own_st (fun _ k => XS.aloadN X4.here hx rfl (hb hby own_d15_69) rfl rfl k) ?_
      obtain ⟨v5, T5, L5, hQ5, X5, st5⟩ := own_callV X4 hx hZ (y := (⟨"java/lang/String", "coder", "()B"⟩ : MethodName)) hown (own_w77 hw) (own_w78 hw) (own_w80 hw) (own_w79 hw) (own_w11 hw) (own_w81 hw) (by decide) (own_co l hw [] a1 cs h0 n0 (Nat.le_trans Z0 O0.1) (Scs.ext O0) hcs (Fc1.ext O0)) e4 (E1.ext O0) (g := (mkF m 70 #[.val (.ref a1), .val (.int 1), .val (.int st), .val (.ref a2), .val (.int 0), .val (.int 1), .val (.ref v1), .val (.ref v2), .unset] [(.ref a1)])) rfl (by rw [hml]; rfl) (argsL := []) (rest := []) (lenOf own_pd6 rfl) rfl rfl (W := 0) (Nat.le_of_eq rfl) (hb hby own_d15_70) (by decide) (by decide) (by decide) (by decide)
      obtain ⟨rfl, N5, e5⟩ := hQ5
      have N5' := Fr.app N2' N5
      refine own_st st5 ?_
      refine own_st (fun _ k => XS.istore X5.here hx rfl (hb hby own_d15_73) rfl (l' := #[.val (.ref a1), .val (.int 1), .val (.int st), .val (.ref a2), .val (.int 0), .val (.int 1), .val (.ref v1), .val (.ref v2), .val (.int 0)]) rfl k) ?_
      refine own_st (fun _ k => XS.iload X5.here hx rfl (hb hby own_d15_75) rfl k) ?_
      refine own_st (fun _ k => XS.aloadN X5.here hx rfl (hb hby own_d15_77) rfl rfl k) ?_
      obtain ⟨v6, T6, L6, hQ6, X6, st6⟩ := own_callV X5 hx hZ (y := (⟨"java/lang/String", "coder", "()B"⟩ : MethodName)) hown (own_w77 hw) (own_w78 hw) (own_w80 hw) (own_w79 hw) (own_w11 hw) (own_w81 hw) (by decide) (own_co l hw [] a2 cs h0 n0 (Nat.le_trans Z0 O0.1) (Scs.ext O0) hcs (Fc2.ext O0)) e5 (E2.ext O0) (g := (mkF m 78 #[.val (.ref a1), .val (.int 1), .val (.int st), .val (.ref a2), .val (.int 0), .val (.int 1), .val (.ref v1), .val (.ref v2), .val (.int 0)] [(.ref a2), (.int 0)])) rfl (by rw [hml]; rfl) (argsL := []) (rest := [(.int 0)]) (lenOf own_pd6 rfl) rfl rfl (W := 1) (Nat.le_of_eq rfl) (hb hby own_d15_78) (by decide) (by decide) (by decide) (by decide)
      obtain ⟨rfl, N6, e6⟩ := hQ6
      have N6' := Fr.app N5' N6
      refine own_st st6 ?_
      refine own_st (fun _ k => XS.icmpNo X6.here hx rfl (hb hby own_d15_81) rfl (teq (by decide : (0 : Int32) = (0 : Int32))).2 k) ?_
      show own_Go _ _ _ _ T6 (mkF m 84 #[.val (.ref a1), .val (.int 1), .val (.int st), .val (.ref a2), .val (.int 0), .val (.int 1), .val (.ref v1), .val (.ref v2), .val (.int 0)] [])
      refine own_st (fun _ k => XS.iload X6.here hx rfl (hb hby own_d15_84) rfl k) ?_
      refine own_st (fun _ k => XS.ifNo X6.here hx rfl (hb hby own_d15_86) rfl ((if0 _ _).trans (teq (by decide : (0 : Int32) = (0 : Int32))).2) k) ?_
      refine own_st (fun _ k => XS.aload X6.here hx rfl (hb hby own_d15_89) rfl rfl k) ?_
      refine own_st (fun _ k => XS.iloadN X6.here hx rfl (hb hby own_d15_91) rfl k) ?_
      refine own_st (fun _ k => XS.aload X6.here hx rfl (hb hby own_d15_92) rfl rfl k) ?_
      refine own_st (fun _ k => XS.iload X6.here hx rfl (hb hby own_d15_94) rfl k) ?_
      refine own_st (fun _ k => XS.iload X6.here hx rfl (hb hby own_d15_96) rfl k) ?_
      have b0 : 0 ≤ st.toInt := by
        have z0 : (0 : Int32).toInt = 0 := by decide
        have : ¬ st.toInt < (0 : Int32).toInt := fun q => h1 (Int32.lt_iff_toInt_lt.mpr q)
        omega
      have b1 : st.toInt + 1 ≤ z.toInt := by
        have q : ¬ (z.toInt64 - (1 : Int64)).toInt < st.toInt64.toInt := fun q => h2 ((lw_gt _ _).mpr (Int64.lt_iff_toInt_lt.mpr q))
        have q1 := c_lsub z.toInt64 (1 : Int64)
        have q2 := rng64 (z.toInt64 - (1 : Int64))
        have q3 := rng32 z
        have q4 : ((1 : Int64)).toInt = 1 := by decide
        rw [c_i2l] at q q1
        omega
      obtain ⟨v7, T7, L7, hQ7, X7, st7⟩ := own_callS X6 hx hZ (y := (⟨"java/lang/StringLatin1", "regionMatchesCI", "([BI[BII)Z"⟩ : MethodName)) hown (own_w107 hw) (own_w108 hw) (own_w109 hw) (own_w110 hw) (by decide) (own_ci1 l hw [] v1 v2 st (0 : Int32) (1 : Int32) z k1 k2 vs bf y0 h0 n0 (Nat.le_trans Z0 O0.1) rfl rfl b0 b1 zb (V1.ext O0) hB (V2.ext O0)) e6 (g := (mkF m 98 #[.val (.ref a1), .val (.int 1), .val (.int st), .val (.ref a2), .val (.int 0), .val (.int 1), .val (.ref v1), .val (.ref v2), .val (.int 0)] [(.int 1), (.int 0), (.ref v2), (.int st), (.ref v1)])) rfl (by rw [hml]; rfl) (argsL := [(.ref v1), (.int st), (.ref v2), (.int 0), (.int 1)]) (rest := []) (lenOf own_pd8 rfl) rfl rfl (W := 0) (Nat.le_of_eq rfl) (hb hby own_d15_98) (by decide) (by decide) (by decide) (by decide)
      obtain ⟨rfl, N7, e7⟩ := hQ7
      have N7' := Fr.app N6' N7
      refine own_st st7 ?_
      show own_Go _ _ _ _ T7 (mkF m 101 #[.val (.ref a1), .val (.int 1), .val (.int st), .val (.ref a2), .val (.int 0), .val (.int 1), .val (.ref v1), .val (.ref v2), .val (.int 0)] [(.int (if own_eic (bf st) y0 = 0 then (0 : Int32) else (1 : Int32)))])
      refine own_st (fun _ k => XS.goto X7.here hx rfl (pc0 := 101) (pc' := 116) rfl (hb hby own_d15_101) (by decide) (by decide) k) ?_
      exact own_retN X7 hx hret (by simp) hlk (hb hby own_d15_116) ⟨by rw [if_neg h1, if_neg h2]; exact congrArg (fun q => some (Value.int q)) (own_nzz1 _), N7', e7⟩ (by decide) (by decide)
theorem own_r01_1 {P Q : Prop} [Decidable P] [Decidable Q] {e0 : Int32} (h : ¬ (if P then (0 : Int32) else if Q then (0 : Int32) else (if e0 = 0 then (0 : Int32) else (1 : Int32))) = 0) : (if P then (0 : Int32) else if Q then (0 : Int32) else (if e0 = 0 then (0 : Int32) else (1 : Int32))) = 1 := by
  revert h
  repeat' split
  all_goals simp
def own_is1_Q (Z : State) (ta a1 wk2 a2 wk v1 v2 : Addr) (st en z cs : Int32) (k1 k2 : ClassId) (vs : List Value) (bf : Int32 → Int32) (y0 : Int32) (h0 : Heap) (n0 : Nat) (v : Option Value) (h : Heap) (L : List Loc) : Prop := v = some (.int (if wk = wk2 then (if en - st = (1 : Int32) then (if st < 0 then (0 : Int32) else if (0 : Int32) < lcmpW st.toInt64 (z.toInt64 - (1 : Int64)) then (0 : Int32) else (if own_eic (bf st) y0 = 0 then (0 : Int32) else (1 : Int32))) else (0 : Int32)) else (0 : Int32))) ∧ Fr n0 L ∧ h = h0
set_option maxRecDepth 65536 in
set_option maxHeartbeats 40000000 in
theorem own_is1 (l : Launch) {Z : State} {a0 : Array Value} (hw : own_W Z a0) (ws : List Jvm.Cond) (ta a1 wk2 a2 wk v1 v2 : Addr) (st en z cs : Int32) (k1 k2 : ClassId) (vs : List Value) (bf : Int32 → Int32) (y0 : Int32) (h0 : Heap) (n0 : Nat) (Z0 : n0 ≤ h0.size) (zb : z.toInt ≤ 5) (Fk : Fld Z h0 ta "com/example/isoscope/isoscope/SqlLexer$Token" "kind" "Lcom/example/isoscope/isoscope/SqlLexer$Kind;" (.ref wk)) (Fst : Fld Z h0 ta "com/example/isoscope/isoscope/SqlLexer$Token" "start" "I" (.int st)) (Fen : Fld Z h0 ta "com/example/isoscope/isoscope/SqlLexer$Token" "end" "I" (.int en)) (Scs : Sta Z h0 "java/lang/String" "COMPACT_STRINGS" "Z" (.int cs)) (hcs : ¬ cs = 0) (E1 : Exa Z h0 a1 "java/lang/String") (Fv1 : Fld Z h0 a1 "java/lang/String" "value" "[B" (.ref v1)) (Fc1 : Fld Z h0 a1 "java/lang/String" "coder" "B" (.int 0)) (V1 : Arv Z h0 v1 k1 .byte z vs (.int 0)) (hB : ∀ j : Int32, ¬ j < 0 → j < z → vs.getD j.toNatClampNeg (.int 0) = .int (bf j)) (E2 : Exa Z h0 a2 "java/lang/String") (Fv2 : Fld Z h0 a2 "java/lang/String" "value" "[B" (.ref v2)) (Fc2 : Fld Z h0 a2 "java/lang/String" "coder" "B" (.int 0)) (V2 : Arv Z h0 v2 k2 .byte (1 : Int32) [(.int y0)] (.int 0)) :
    MetFree l (⟨"com/example/isoscope/isoscope/SqlLexer$Token", "is", "(Ljava/lang/String;Lcom/example/isoscope/isoscope/SqlLexer$Kind;Ljava/lang/String;)Z"⟩ : MethodName) (head1 (Jvm.Cond.code (⟨"com/example/isoscope/isoscope/SqlLexer$Token", "is", "(Ljava/lang/String;Lcom/example/isoscope/isoscope/SqlLexer$Kind;Ljava/lang/String;)Z"⟩ : MethodName) prog_29_method_2_code 4 (some .boolean) :: ws) ({ frames := 3, cells := 0, slots := 0, locals := 53 } : Room)) (fun a U => a = #[(.ref ta), (.ref a1), (.ref wk2), (.ref a2)] ∧ Z.Warmed39 U.vm ∧ U.heap = h0) (fun _ _ _ _ _ => True) (fun _ U o U' => ∃ v L, o = .returned v ∧ own_is1_Q Z ta a1 wk2 a2 wk v1 v2 st en z cs k1 k2 vs bf y0 h0 n0 v U'.heap L ∧ FrameEnd U o U' L ({ frames := 3, cells := 0, slots := 0, locals := 53 } : Room).cells ({ frames := 3, cells := 0, slots := 0, locals := 53 } : Room).slots) := by
  refine own_enter (C := ({ frames := 3, cells := 0, slots := 0, locals := 53 } : Room).cells) (S := ({ frames := 3, cells := 0, slots := 0, locals := 53 } : Room).slots) (plainFor_of_name own_pn4) ?_
  intro p e s m below meth c T0 X0 I e0
  obtain ⟨hx, hby, hml, hown, hnm, hret, hlk, hZ⟩ := I
  have N0 := Fr.nil n0
  have O0 := own_extr h0
  refine own_cast (own_ef12 m ta a1 wk2 a2) ?_
  show own_Go _ _ _ _ T0 (mkF m 0 #[.val (.ref ta), .val (.ref a1), .val (.ref wk2), .val (.ref a2)] [])
  refine own_st (fun _ k => XS.aloadN X0.here hx rfl (hb hby own_d12_0) rfl rfl k) ?_
  obtain ⟨T1, X1, e1, st1⟩ := getF X0 hx hZ hown (host := "") (Or.inl (own_w59 hw)) Via.refl e0 (Fk.ext O0) (g := (mkF m 1 #[.val (.ref ta), .val (.ref a1), .val (.ref wk2), .val (.ref a2)] [(.ref ta)])) rfl rfl (hb hby own_d12_1)
  refine own_st st1 ?_
  refine own_st (fun _ k => XS.aloadN X1.here hx rfl (hb hby own_d12_4) rfl rfl k) ?_
  by_cases h1 : wk = wk2
  · refine own_st (fun _ k => Jvm.RoadKit.acmp (g := (mkF m 5 #[.val (.ref ta), .val (.ref a1), .val (.ref wk2), .val (.ref a2)] [(.ref wk2), (.ref wk)])) X1 hx rfl rfl rfl (pc0 := 5) (pc' := 8) (same := true) rfl (hb hby own_d12_5) rfl (decide_eq_true (congrArg Value.ref h1)) (by decide) (by decide) k) ?_
    refine own_st (fun _ k => XS.aloadN X1.here hx rfl (hb hby own_d12_8) rfl rfl k) ?_
    obtain ⟨T2, X2, e2, st2⟩ := getF X1 hx hZ hown (host := "") (Or.inl (own_w63 hw)) Via.refl e1 (Fen.ext O0) (g := (mkF m 9 #[.val (.ref ta), .val (.ref a1), .val (.ref wk2), .val (.ref a2)] [(.ref ta)])) rfl rfl (hb hby own_d12_9)
    refine own_st st2 ?_
    refine own_st (fun _ k => XS.aloadN X2.here hx rfl (hb hby own_d12_12) rfl rfl k) ?_
    obtain ⟨T3, X3, e3, st3⟩ := getF X2 hx hZ hown (host := "") (Or.inl (own_w61 hw)) Via.refl e2 (Fst.ext O0) (g := (mkF m 13 #[.val (.ref ta), .val (.ref a1), .val (.ref wk2), .val (.ref a2)] [(.ref ta), (.int en)])) rfl rfl (hb hby own_d12_13)
    refine own_st st3 ?_
    show own_Go _ _ _ _ T3 (mkF m 16 #[.val (.ref ta), .val (.ref a1), .val (.ref wk2), .val (.ref a2)] [(.int st), (.int en)])
    refine own_st (fun _ k => XS.isub X3.here hx rfl (hb hby own_d12_16) rfl k) ?_
    refine own_st (fun _ k => XS.aloadN X3.here hx rfl (hb hby own_d12_17) rfl rfl k) ?_
    obtain ⟨v4, T4, L4, hQ4, X4, st4⟩ := own_callV X3 hx hZ (y := (⟨"java/lang/String", "length", "()I"⟩ : MethodName)) hown (own_w72 hw) (own_w73 hw) (own_w75 hw) (own_w74 hw) (own_w11 hw) (own_w76 hw) (by decide) (own_len_ l hw [] a2 v2 cs (1 : Int32) k2 [(.int y0)] h0 n0 (Nat.le_trans Z0 O0.1) (Scs.ext O0) hcs (E2.ext O0) (Fv2.ext O0) (Fc2.ext O0) (V2.ext O0)) e3 (E2.ext O0) (g := (mkF m 18 #[.val (.ref ta), .val (.ref a1), .val (.ref wk2), .val (.ref a2)] [(.ref a2), (.int (en - st))])) rfl (by rw [hml]; rfl) (argsL := []) (rest := [(.int (en - st))]) (lenOf own_pd7 rfl) rfl rfl (W := 1) (Nat.le_of_eq rfl) (hb hby own_d12_18) (by decide) (by decide) (by decide) (by decide)
    obtain ⟨rfl, N4, e4⟩ := hQ4
    have N4' := Fr.app N0 N4
    refine own_st st4 ?_
    by_cases h2 : (en - st) = (1 : Int32)
    · refine own_st (fun _ k => XS.icmpNo X4.here hx rfl (hb hby own_d12_21) rfl (teq (h2 : (en - st) = (1 : Int32))).2 k) ?_
      refine own_st (fun _ k => XS.aloadN X4.here hx rfl (hb hby own_d12_24) rfl rfl k) ?_
      refine own_st (fun _ k => XS.iconst X4.here hx rfl (hb hby own_d12_25) k) ?_
      refine own_st (fun _ k => XS.aloadN X4.here hx rfl (hb hby own_d12_26) rfl rfl k) ?_
      obtain ⟨T5, X5, e5, st5⟩ := getF X4 hx hZ hown (host := "") (Or.inl (own_w61 hw)) Via.refl e4 (Fst.ext O0) (g := (mkF m 27 #[.val (.ref ta), .val (.ref a1), .val (.ref wk2), .val (.ref a2)] [(.ref ta), (.int 1), (.ref a1)])) rfl rfl (hb hby own_d12_27)
      refine own_st st5 ?_
      show own_Go _ _ _ _ T5 (mkF m 30 #[.val (.ref ta), .val (.ref a1), .val (.ref wk2), .val (.ref a2)] [(.int st), (.int 1), (.ref a1)])
      refine own_st (fun _ k => XS.aloadN X5.here hx rfl (hb hby own_d12_30) rfl rfl k) ?_
      refine own_st (fun _ k => XS.iconst X5.here hx rfl (hb hby own_d12_31) k) ?_
      refine own_st (fun _ k => XS.aloadN X5.here hx rfl (hb hby own_d12_32) rfl rfl k) ?_
      obtain ⟨v6, T6, L6, hQ6, X6, st6⟩ := own_callV X5 hx hZ (y := (⟨"java/lang/String", "length", "()I"⟩ : MethodName)) hown (own_w72 hw) (own_w73 hw) (own_w75 hw) (own_w74 hw) (own_w11 hw) (own_w76 hw) (by decide) (own_len_ l hw [] a2 v2 cs (1 : Int32) k2 [(.int y0)] h0 n0 (Nat.le_trans Z0 O0.1) (Scs.ext O0) hcs (E2.ext O0) (Fv2.ext O0) (Fc2.ext O0) (V2.ext O0)) e5 (E2.ext O0) (g := (mkF m 33 #[.val (.ref ta), .val (.ref a1), .val (.ref wk2), .val (.ref a2)] [(.ref a2), (.int 0), (.ref a2), (.int st), (.int 1), (.ref a1)])) rfl (by rw [hml]; rfl) (argsL := []) (rest := [(.int 0), (.ref a2), (.int st), (.int 1), (.ref a1)]) (lenOf own_pd7 rfl) rfl rfl (W := 5) (Nat.le_of_eq rfl) (hb hby own_d12_33) (by decide) (by decide) (by decide) (by decide)
      obtain ⟨rfl, N6, e6⟩ := hQ6
      have N6' := Fr.app N4' N6
      refine own_st st6 ?_
      obtain ⟨v7, T7, L7, hQ7, X7, st7⟩ := own_callV X6 hx hZ (y := (⟨"java/lang/String", "regionMatches", "(ZILjava/lang/String;II)Z"⟩ : MethodName)) hown (own_w82 hw) (own_w83 hw) (own_w85 hw) (own_w84 hw) (own_w11 hw) (own_w86 hw) (by decide) (own_rm1 l hw [] a1 a2 v1 v2 (1 : Int32) st (0 : Int32) (1 : Int32) z cs k1 k2 vs bf y0 h0 n0 (Nat.le_trans Z0 O0.1) rfl rfl rfl zb (Scs.ext O0) hcs (E1.ext O0) (Fv1.ext O0) (Fc1.ext O0) (V1.ext O0) hB (E2.ext O0) (Fv2.ext O0) (Fc2.ext O0) (V2.ext O0)) e6 (E1.ext O0) (g := (mkF m 36 #[.val (.ref ta), .val (.ref a1), .val (.ref wk2), .val (.ref a2)] [(.int 1), (.int 0), (.ref a2), (.int st), (.int 1), (.ref a1)])) rfl (by rw [hml]; rfl) (argsL := [(.int 1), (.int st), (.ref a2), (.int 0), (.int 1)]) (rest := []) (lenOf own_pd9 rfl) rfl rfl (W := 0) (Nat.le_of_eq rfl) (hb hby own_d12_36) (by decide) (by decide) (by decide) (by decide)
      obtain ⟨rfl, N7, e7⟩ := hQ7
      have N7' := Fr.app N6' N7
      refine own_st st7 ?_
      by_cases h3 : (if st < 0 then (0 : Int32) else if (0 : Int32) < lcmpW st.toInt64 (z.toInt64 - (1 : Int64)) then (0 : Int32) else (if own_eic (bf st) y0 = 0 then (0 : Int32) else (1 : Int32))) = (0 : Int32)
      · refine own_st (fun _ k => XS.ifYes X7.here hx rfl (pc0 := 39) (pc' := 46) rfl (hb hby own_d12_39) rfl ((if0 _ _).trans (teq (h3 : (if st < 0 then (0 : Int32) else if (0 : Int32) < lcmpW st.toInt64 (z.toInt64 - (1 : Int64)) then (0 : Int32) else (if own_eic (bf st) y0 = 0 then (0 : Int32) else (1 : Int32))) = (0 : Int32))).1) (by decide) (by decide) k) ?_
        refine own_st (fun _ k => XS.iconst X7.here hx rfl (hb hby own_d12_46) k) ?_
        exact own_retN X7 hx hret (by simp) hlk (hb hby own_d12_47) ⟨by simp only [h1, h2, if_true, h3]; rfl, N7', e7⟩ (by decide) (by decide)
      · refine own_st (fun _ k => XS.ifNo X7.here hx rfl (hb hby own_d12_39) rfl ((if0 _ _).trans (feq (h3 : ¬ ((if st < 0 then (0 : Int32) else if (0 : Int32) < lcmpW st.toInt64 (z.toInt64 - (1 : Int64)) then (0 : Int32) else (if own_eic (bf st) y0 = 0 then (0 : Int32) else (1 : Int32))) = (0 : Int32)))).1) k) ?_
        refine own_st (fun _ k => XS.iconst X7.here hx rfl (hb hby own_d12_42) k) ?_
        refine own_st (fun _ k => XS.goto X7.here hx rfl (pc0 := 43) (pc' := 47) rfl (hb hby own_d12_43) (by decide) (by decide) k) ?_
        show own_Go _ _ _ _ T7 (mkF m 47 #[.val (.ref ta), .val (.ref a1), .val (.ref wk2), .val (.ref a2)] [(.int 1)])
        exact own_retN X7 hx hret (by simp) hlk (hb hby own_d12_47) ⟨by simp only [h1, h2, if_true]; rw [own_r01_1 h3]; rfl, N7', e7⟩ (by decide) (by decide)
    · refine own_st (fun _ k => XS.icmpYes X4.here hx rfl (pc0 := 21) (pc' := 46) rfl (hb hby own_d12_21) rfl (feq (h2 : ¬ ((en - st) = (1 : Int32)))).2 (by decide) (by decide) k) ?_
      refine own_st (fun _ k => XS.iconst X4.here hx rfl (hb hby own_d12_46) k) ?_
      exact own_retN X4 hx hret (by simp) hlk (hb hby own_d12_47) ⟨by simp [nar, *], N4', e4⟩ (by decide) (by decide)
  · refine own_st (fun _ k => Jvm.RoadKit.acmp (g := (mkF m 5 #[.val (.ref ta), .val (.ref a1), .val (.ref wk2), .val (.ref a2)] [(.ref wk2), (.ref wk)])) X1 hx rfl rfl rfl (pc0 := 5) (pc' := 46) (same := false) rfl (hb hby own_d12_5) rfl (decide_eq_false fun q => h1 (Value.ref.inj q)) (by decide) (by decide) k) ?_
    refine own_st (fun _ k => XS.iconst X1.here hx rfl (hb hby own_d12_46) k) ?_
    exact own_retN X1 hx hret (by simp) hlk (hb hby own_d12_47) ⟨by simp [nar, *], N0, e1⟩ (by decide) (by decide)
def own_ci2_Q (Z : State) (a1 a2 : Addr) (st p1 p2 z : Int32) (k1 k2 : ClassId) (vs : List Value) (bf : Int32 → Int32) (y0 y1 : Int32) (h0 : Heap) (n0 : Nat) (v : Option Value) (h : Heap) (L : List Loc) : Prop := v = some (.int (if own_eic (bf st) y0 = 0 then (0 : Int32) else (if own_eic (bf (st + (1 : Int32))) y1 = 0 then (0 : Int32) else (1 : Int32)))) ∧ Fr n0 L ∧ h = h0
set_option maxRecDepth 65536 in
set_option maxHeartbeats 40000000 in
theorem own_ci2 (l : Launch) {Z : State} {a0 : Array Value} (hw : own_W Z a0) (ws : List Jvm.Cond) (a1 a2 : Addr) (st p1 p2 z : Int32) (k1 k2 : ClassId) (vs : List Value) (bf : Int32 → Int32) (y0 y1 : Int32) (h0 : Heap) (n0 : Nat) (Z0 : n0 ≤ h0.size) (hp1 : p1 = 0) (hp2 : p2 = (2 : Int32)) (r0 : 0 ≤ st.toInt) (r1 : st.toInt + 2 ≤ z.toInt) (r2 : z.toInt ≤ 5) (V1 : Arv Z h0 a1 k1 .byte z vs (.int 0)) (hB : ∀ j : Int32, ¬ j < 0 → j < z → vs.getD j.toNatClampNeg (.int 0) = .int (bf j)) (V2 : Arv Z h0 a2 k2 .byte (2 : Int32) [(.int y0), (.int y1)] (.int 0)) :
    MetFree l (⟨"java/lang/StringLatin1", "regionMatchesCI", "([BI[BII)Z"⟩ : MethodName) (head1 (Jvm.Cond.code (⟨"java/lang/StringLatin1", "regionMatchesCI", "([BI[BII)Z"⟩ : MethodName) jdk_43_method_30_code 8 (some .boolean) :: ws) ({ frames := 1, cells := 0, slots := 0, locals := 14 } : Room)) (fun a U => a = #[(.ref a1), (.int st), (.ref a2), (.int p1), (.int p2)] ∧ Z.Warmed39 U.vm ∧ U.heap = h0) (fun _ _ _ _ _ => True) (fun _ U o U' => ∃ v L, o = .returned v ∧ own_ci2_Q Z a1 a2 st p1 p2 z k1 k2 vs bf y0 y1 h0 n0 v U'.heap L ∧ FrameEnd U o U' L ({ frames := 1, cells := 0, slots := 0, locals := 14 } : Room).cells ({ frames := 1, cells := 0, slots := 0, locals := 14 } : Room).slots) := by
  refine own_enter (C := ({ frames := 1, cells := 0, slots := 0, locals := 14 } : Room).cells) (S := ({ frames := 1, cells := 0, slots := 0, locals := 14 } : Room).slots) (plainFor_of_name own_pn6) ?_
  intro p e s m below meth c T0 X0 I e0
  obtain ⟨hx, hby, hml, hown, hnm, hret, hlk, hZ⟩ := I
  have N0 := Fr.nil n0
  have O0 := own_extr h0
  refine own_cast (own_ef17 m a1 st a2 p1 p2) ?_
  show own_Go _ _ _ _ T0 (mkF m 0 #[.val (.ref a1), .val (.int st), .val (.ref a2), .val (.int p1), .val (.int p2), .unset, .unset, .unset] [])
  rw [hp1, hp2]
  show own_Go _ _ _ _ T0 (mkF m 0 #[.val (.ref a1), .val (.int st), .val (.ref a2), .val (.int 0), .val (.int 2), .unset, .unset, .unset] [])
  have z5 : ((2 : Int32)).toInt = 2 := by decide
  have i_e : (st + (2 : Int32)).toInt = st.toInt + 2 := own_plus z5 (by decide) (by decide) (by omega) (by omega)
  have z1 : (1 : Int32).toInt = 1 := by decide
  have z0 : (0 : Int32).toInt = 0 := by decide
  have i_1 : (st + (1 : Int32)).toInt = st.toInt + 1 := own_plus z1 (by decide) (by decide) (by omega) (by omega)
  have i_2 : ((st + (1 : Int32)) + (1 : Int32)).toInt = (st + (1 : Int32)).toInt + 1 := own_plus z1 (by decide) (by decide) (by omega) (by omega)
  refine own_st (fun _ k => XS.iloadN X0.here hx rfl (hb hby own_d17_0) rfl k) ?_
  refine own_st (fun _ k => XS.iload X0.here hx rfl (hb hby own_d17_1) rfl k) ?_
  refine own_st (fun _ k => XS.iadd X0.here hx rfl (hb hby own_d17_3) rfl k) ?_
  refine own_st (fun _ k => XS.istore X0.here hx rfl (hb hby own_d17_4) rfl (l' := #[.val (.ref a1), .val (.int st), .val (.ref a2), .val (.int 0), .val (.int 2), .val (.int (st + (2 : Int32))), .unset, .unset]) rfl k) ?_
  refine own_st (fun _ k => XS.iloadN X0.here hx rfl (hb hby own_d17_6) rfl k) ?_
  refine own_st (fun _ k => XS.iload X0.here hx rfl (hb hby own_d17_7) rfl k) ?_
  refine own_st (fun _ k => XS.icmpNo X0.here hx rfl (hb hby own_d17_9) rfl (tlt (Int32.lt_iff_toInt_lt.mpr (by omega) : st < (st + (2 : Int32)))).2.1 k) ?_
  refine own_st (fun _ k => XS.aloadN X0.here hx rfl (hb hby own_d17_12) rfl rfl k) ?_
  show own_Go _ _ _ _ T0 (mkF m 13 #[.val (.ref a1), .val (.int st), .val (.ref a2), .val (.int 0), .val (.int 2), .val (.int (st + (2 : Int32))), .unset, .unset] [(.ref a1)])
  refine own_st (fun _ k => XS.iloadN X0.here hx rfl (hb hby own_d17_13) rfl k) ?_
  refine own_st (fun _ k => XS.iinc X0.here hx rfl (hb hby own_d17_14) rfl (l' := #[.val (.ref a1), .val (.int (st + (1 : Int32))), .val (.ref a2), .val (.int 0), .val (.int 2), .val (.int (st + (2 : Int32))), .unset, .unset]) rfl k) ?_
  have hj0 : ¬ st < 0 ∧ st < z := ⟨fun q => by have := Int32.lt_iff_toInt_lt.mp q; omega, Int32.lt_iff_toInt_lt.mpr (by omega)⟩
  refine own_st (own_ldB X0 hx hZ e0 (V1.ext O0) (j := st) hj0 (v := (.int (bf st))) (hB _ hj0.1 hj0.2) (g := (mkF m 17 #[.val (.ref a1), .val (.int (st + (1 : Int32))), .val (.ref a2), .val (.int 0), .val (.int 2), .val (.int (st + (2 : Int32))), .unset, .unset] [(.int st), (.ref a1)])) rfl rfl (hb hby own_d17_17)) ?_
  refine own_st (fun _ k => XS.istore X0.here hx rfl (hb hby own_d17_18) rfl (l' := #[.val (.ref a1), .val (.int (st + (1 : Int32))), .val (.ref a2), .val (.int 0), .val (.int 2), .val (.int (st + (2 : Int32))), .val (.int (bf st)), .unset]) rfl k) ?_
  refine own_st (fun _ k => XS.aloadN X0.here hx rfl (hb hby own_d17_20) rfl rfl k) ?_
  refine own_st (fun _ k => XS.iloadN X0.here hx rfl (hb hby own_d17_21) rfl k) ?_
  refine own_st (fun _ k => XS.iinc X0.here hx rfl (hb hby own_d17_22) rfl (l' := #[.val (.ref a1), .val (.int (st + (1 : Int32))), .val (.ref a2), .val (.int ((0 : Int32) + (1 : Int32))), .val (.int 2), .val (.int (st + (2 : Int32))), .val (.int (bf st)), .unset]) rfl k) ?_
  show own_Go _ _ _ _ T0 (mkF m 25 #[.val (.ref a1), .val (.int (st + (1 : Int32))), .val (.ref a2), .val (.int ((0 : Int32) + (1 : Int32))), .val (.int 2), .val (.int (st + (2 : Int32))), .val (.int (bf st)), .unset] [(.int 0), (.ref a2)])
  rw [show ((0 : Int32) + (1 : Int32)) = (1 : Int32) from by decide]
  refine own_st (own_ldB X0 hx hZ e0 (V2.ext O0) (j := (0 : Int32)) (by decide) (v := (.int y0)) rfl (g := (mkF m 25 #[.val (.ref a1), .val (.int (st + (1 : Int32))), .val (.ref a2), .val (.int 1), .val (.int 2), .val (.int (st + (2 : Int32))), .val (.int (bf st)), .unset] [(.int 0), (.ref a2)])) rfl rfl (hb hby own_d17_25)) ?_
  refine own_st (fun _ k => XS.istore X0.here hx rfl (hb hby own_d17_26) rfl (l' := #[.val (.ref a1), .val (.int (st + (1 : Int32))), .val (.ref a2), .val (.int 1), .val (.int 2), .val (.int (st + (2 : Int32))), .val (.int (bf st)), .val (.int y0)]) rfl k) ?_
  refine own_st (fun _ k => XS.iload X0.here hx rfl (hb hby own_d17_28) rfl k) ?_
  refine own_st (fun _ k => XS.iload X0.here hx rfl (hb hby own_d17_30) rfl k) ?_
  obtain ⟨v1, T1, L1, hQ1, X1, st1⟩ := own_callS X0 hx hZ (y := (⟨"java/lang/CharacterDataLatin1", "equalsIgnoreCase", "(BB)Z"⟩ : MethodName)) hown (own_w111 hw) (own_w112 hw) (own_w113 hw) (own_w114 hw) (by decide) (own_eicc l hw [] (bf st) y0 h0 n0 (Nat.le_trans Z0 O0.1)) e0 (g := (mkF m 32 #[.val (.ref a1), .val (.int (st + (1 : Int32))), .val (.ref a2), .val (.int 1), .val (.int 2), .val (.int (st + (2 : Int32))), .val (.int (bf st)), .val (.int y0)] [(.int y0), (.int (bf st))])) rfl (by rw [hml]; rfl) (argsL := [(.int (bf st)), (.int y0)]) (rest := []) (lenOf own_pd10 rfl) rfl rfl (W := 0) (Nat.le_of_eq rfl) (hb hby own_d17_32) (by decide) (by decide) (by decide) (by decide)
  obtain ⟨rfl, N1, e1⟩ := hQ1
  have N1' := Fr.app N0 N1
  refine own_st st1 ?_
  by_cases hq0 : (own_eic (bf st) y0) = (0 : Int32)
  · refine own_st (fun _ k => XS.ifYes X1.here hx rfl (pc0 := 35) (pc' := 41) rfl (hb hby own_d17_35) rfl ((if0 _ _).trans (teq (hq0 : (own_eic (bf st) y0) = (0 : Int32))).1) (by decide) (by decide) k) ?_
    refine own_st (fun _ k => XS.iconst X1.here hx rfl (hb hby own_d17_41) k) ?_
    show own_Go _ _ _ _ T1 (mkF m 42 #[.val (.ref a1), .val (.int (st + (1 : Int32))), .val (.ref a2), .val (.int 1), .val (.int 2), .val (.int (st + (2 : Int32))), .val (.int (bf st)), .val (.int y0)] [(.int 0)])
    exact own_retN X1 hx hret (by simp) hlk (hb hby own_d17_42) ⟨by simp [nar, *], N1', e1⟩ (by decide) (by decide)
  · refine own_st (fun _ k => XS.ifNo X1.here hx rfl (hb hby own_d17_35) rfl ((if0 _ _).trans (feq (hq0 : ¬ ((own_eic (bf st) y0) = (0 : Int32)))).1) k) ?_
    refine own_st (fun _ k => XS.goto X1.here hx rfl (pc0 := 38) (pc' := 6) rfl (hb hby own_d17_38) (by decide) (by decide) k) ?_
    show own_Go _ _ _ _ T1 (mkF m 6 #[.val (.ref a1), .val (.int (st + (1 : Int32))), .val (.ref a2), .val (.int 1), .val (.int 2), .val (.int (st + (2 : Int32))), .val (.int (bf st)), .val (.int y0)] [])
    refine own_st (fun _ k => XS.iloadN X1.here hx rfl (hb hby own_d17_6) rfl k) ?_
    refine own_st (fun _ k => XS.iload X1.here hx rfl (hb hby own_d17_7) rfl k) ?_
    refine own_st (fun _ k => XS.icmpNo X1.here hx rfl (hb hby own_d17_9) rfl (tlt (Int32.lt_iff_toInt_lt.mpr (by omega) : (st + (1 : Int32)) < (st + (2 : Int32)))).2.1 k) ?_
    refine own_st (fun _ k => XS.aloadN X1.here hx rfl (hb hby own_d17_12) rfl rfl k) ?_
    refine own_st (fun _ k => XS.iloadN X1.here hx rfl (hb hby own_d17_13) rfl k) ?_
    refine own_st (fun _ k => XS.iinc X1.here hx rfl (hb hby own_d17_14) rfl (l' := #[.val (.ref a1), .val (.int ((st + (1 : Int32)) + (1 : Int32))), .val (.ref a2), .val (.int 1), .val (.int 2), .val (.int (st + (2 : Int32))), .val (.int (bf st)), .val (.int y0)]) rfl k) ?_
    have hj1 : ¬ (st + (1 : Int32)) < 0 ∧ (st + (1 : Int32)) < z := ⟨fun q => by have := Int32.lt_iff_toInt_lt.mp q; omega, Int32.lt_iff_toInt_lt.mpr (by omega)⟩
    refine own_st (own_ldB X1 hx hZ e1 (V1.ext O0) (j := (st + (1 : Int32))) hj1 (v := (.int (bf (st + (1 : Int32))))) (hB _ hj1.1 hj1.2) (g := (mkF m 17 #[.val (.ref a1), .val (.int ((st + (1 : Int32)) + (1 : Int32))), .val (.ref a2), .val (.int 1), .val (.int 2), .val (.int (st + (2 : Int32))), .val (.int (bf st)), .val (.int y0)] [(.int (st + (1 : Int32))), (.ref a1)])) rfl rfl (hb hby own_d17_17)) ?_
    refine own_st (fun _ k => XS.istore X1.here hx rfl (hb hby own_d17_18) rfl (l' := #[.val (.ref a1), .val (.int ((st + (1 : Int32)) + (1 : Int32))), .val (.ref a2), .val (.int 1), .val (.int 2), .val (.int (st + (2 : Int32))), .val (.int (bf (st + (1 : Int32)))), .val (.int y0)]) rfl k) ?_
    show own_Go _ _ _ _ T1 (mkF m 20 #[.val (.ref a1), .val (.int ((st + (1 : Int32)) + (1 : Int32))), .val (.ref a2), .val (.int 1), .val (.int 2), .val (.int (st + (2 : Int32))), .val (.int (bf (st + (1 : Int32)))), .val (.int y0)] [])
    refine own_st (fun _ k => XS.aloadN X1.here hx rfl (hb hby own_d17_20) rfl rfl k) ?_
    refine own_st (fun _ k => XS.iloadN X1.here hx rfl (hb hby own_d17_21) rfl k) ?_
    refine own_st (fun _ k => XS.iinc X1.here hx rfl (hb hby own_d17_22) rfl (l' := #[.val (.ref a1), .val (.int ((st + (1 : Int32)) + (1 : Int32))), .val (.ref a2), .val (.int ((1 : Int32) + (1 : Int32))), .val (.int 2), .val (.int (st + (2 : Int32))), .val (.int (bf (st + (1 : Int32)))), .val (.int y0)]) rfl k) ?_
    show own_Go _ _ _ _ T1 (mkF m 25 #[.val (.ref a1), .val (.int ((st + (1 : Int32)) + (1 : Int32))), .val (.ref a2), .val (.int ((1 : Int32) + (1 : Int32))), .val (.int 2), .val (.int (st + (2 : Int32))), .val (.int (bf (st + (1 : Int32)))), .val (.int y0)] [(.int 1), (.ref a2)])
    rw [show ((1 : Int32) + (1 : Int32)) = (2 : Int32) from by decide]
    refine own_st (own_ldB X1 hx hZ e1 (V2.ext O0) (j := (1 : Int32)) (by decide) (v := (.int y1)) rfl (g := (mkF m 25 #[.val (.ref a1), .val (.int ((st + (1 : Int32)) + (1 : Int32))), .val (.ref a2), .val (.int 2), .val (.int 2), .val (.int (st + (2 : Int32))), .val (.int (bf (st + (1 : Int32)))), .val (.int y0)] [(.int 1), (.ref a2)])) rfl rfl (hb hby own_d17_25)) ?_
    refine own_st (fun _ k => XS.istore X1.here hx rfl (hb hby own_d17_26) rfl (l' := #[.val (.ref a1), .val (.int ((st + (1 : Int32)) + (1 : Int32))), .val (.ref a2), .val (.int 2), .val (.int 2), .val (.int (st + (2 : Int32))), .val (.int (bf (st + (1 : Int32)))), .val (.int y1)]) rfl k) ?_
    refine own_st (fun _ k => XS.iload X1.here hx rfl (hb hby own_d17_28) rfl k) ?_
    refine own_st (fun _ k => XS.iload X1.here hx rfl (hb hby own_d17_30) rfl k) ?_
    obtain ⟨v2, T2, L2, hQ2, X2, st2⟩ := own_callS X1 hx hZ (y := (⟨"java/lang/CharacterDataLatin1", "equalsIgnoreCase", "(BB)Z"⟩ : MethodName)) hown (own_w111 hw) (own_w112 hw) (own_w113 hw) (own_w114 hw) (by decide) (own_eicc l hw [] (bf (st + (1 : Int32))) y1 h0 n0 (Nat.le_trans Z0 O0.1)) e1 (g := (mkF m 32 #[.val (.ref a1), .val (.int ((st + (1 : Int32)) + (1 : Int32))), .val (.ref a2), .val (.int 2), .val (.int 2), .val (.int (st + (2 : Int32))), .val (.int (bf (st + (1 : Int32)))), .val (.int y1)] [(.int y1), (.int (bf (st + (1 : Int32))))])) rfl (by rw [hml]; rfl) (argsL := [(.int (bf (st + (1 : Int32)))), (.int y1)]) (rest := []) (lenOf own_pd10 rfl) rfl rfl (W := 0) (Nat.le_of_eq rfl) (hb hby own_d17_32) (by decide) (by decide) (by decide) (by decide)
    obtain ⟨rfl, N2, e2⟩ := hQ2
    have N2' := Fr.app N1' N2
    refine own_st st2 ?_
    by_cases hq1 : (own_eic (bf (st + (1 : Int32))) y1) = (0 : Int32)
    · refine own_st (fun _ k => XS.ifYes X2.here hx rfl (pc0 := 35) (pc' := 41) rfl (hb hby own_d17_35) rfl ((if0 _ _).trans (teq (hq1 : (own_eic (bf (st + (1 : Int32))) y1) = (0 : Int32))).1) (by decide) (by decide) k) ?_
      refine own_st (fun _ k => XS.iconst X2.here hx rfl (hb hby own_d17_41) k) ?_
      show own_Go _ _ _ _ T2 (mkF m 42 #[.val (.ref a1), .val (.int ((st + (1 : Int32)) + (1 : Int32))), .val (.ref a2), .val (.int 2), .val (.int 2), .val (.int (st + (2 : Int32))), .val (.int (bf (st + (1 : Int32)))), .val (.int y1)] [(.int 0)])
      exact own_retN X2 hx hret (by simp) hlk (hb hby own_d17_42) ⟨by simp [nar, *], N2', e2⟩ (by decide) (by decide)
    · refine own_st (fun _ k => XS.ifNo X2.here hx rfl (hb hby own_d17_35) rfl ((if0 _ _).trans (feq (hq1 : ¬ ((own_eic (bf (st + (1 : Int32))) y1) = (0 : Int32)))).1) k) ?_
      refine own_st (fun _ k => XS.goto X2.here hx rfl (pc0 := 38) (pc' := 6) rfl (hb hby own_d17_38) (by decide) (by decide) k) ?_
      show own_Go _ _ _ _ T2 (mkF m 6 #[.val (.ref a1), .val (.int ((st + (1 : Int32)) + (1 : Int32))), .val (.ref a2), .val (.int 2), .val (.int 2), .val (.int (st + (2 : Int32))), .val (.int (bf (st + (1 : Int32)))), .val (.int y1)] [])
      refine own_st (fun _ k => XS.iloadN X2.here hx rfl (hb hby own_d17_6) rfl k) ?_
      refine own_st (fun _ k => XS.iload X2.here hx rfl (hb hby own_d17_7) rfl k) ?_
      refine own_st (fun _ k => XS.icmpYes X2.here hx rfl (pc0 := 9) (pc' := 43) rfl (hb hby own_d17_9) rfl (flt (fun q => by have := Int32.lt_iff_toInt_lt.mp q; omega : ¬ (((st + (1 : Int32)) + (1 : Int32)) < (st + (2 : Int32))))).2.1 (by decide) (by decide) k) ?_
      refine own_st (fun _ k => XS.iconst X2.here hx rfl (hb hby own_d17_43) k) ?_
      exact own_retN X2 hx hret (by simp) hlk (hb hby own_d17_44) ⟨by simp [nar, *], N2', e2⟩ (by decide) (by decide)
theorem own_nzz2 (e0 e1 : Int32) : nar .boolean (if e0 = 0 then (0 : Int32) else (if e1 = 0 then (0 : Int32) else (1 : Int32))) = (if e0 = 0 then (0 : Int32) else (if e1 = 0 then (0 : Int32) else (1 : Int32))) := by
  repeat' split
  all_goals decide
def own_rm2_Q (Z : State) (a1 a2 v1 v2 : Addr) (p0 st p1 p2 z cs : Int32) (k1 k2 : ClassId) (vs : List Value) (bf : Int32 → Int32) (y0 y1 : Int32) (h0 : Heap) (n0 : Nat) (v : Option Value) (h : Heap) (L : List Loc) : Prop := v = some (.int (if st < 0 then (0 : Int32) else if (0 : Int32) < lcmpW st.toInt64 (z.toInt64 - (2 : Int64)) then (0 : Int32) else (if own_eic (bf st) y0 = 0 then (0 : Int32) else (if own_eic (bf (st + (1 : Int32))) y1 = 0 then (0 : Int32) else (1 : Int32))))) ∧ Fr n0 L ∧ h = h0
set_option maxRecDepth 65536 in
set_option maxHeartbeats 40000000 in
theorem own_rm2 (l : Launch) {Z : State} {a0 : Array Value} (hw : own_W Z a0) (ws : List Jvm.Cond) (a1 a2 v1 v2 : Addr) (p0 st p1 p2 z cs : Int32) (k1 k2 : ClassId) (vs : List Value) (bf : Int32 → Int32) (y0 y1 : Int32) (h0 : Heap) (n0 : Nat) (Z0 : n0 ≤ h0.size) (hp0 : p0 = 1) (hp1 : p1 = 0) (hp2 : p2 = (2 : Int32)) (zb : z.toInt ≤ 5) (Scs : Sta Z h0 "java/lang/String" "COMPACT_STRINGS" "Z" (.int cs)) (hcs : ¬ cs = 0) (E1 : Exa Z h0 a1 "java/lang/String") (Fv1 : Fld Z h0 a1 "java/lang/String" "value" "[B" (.ref v1)) (Fc1 : Fld Z h0 a1 "java/lang/String" "coder" "B" (.int 0)) (V1 : Arv Z h0 v1 k1 .byte z vs (.int 0)) (hB : ∀ j : Int32, ¬ j < 0 → j < z → vs.getD j.toNatClampNeg (.int 0) = .int (bf j)) (E2 : Exa Z h0 a2 "java/lang/String") (Fv2 : Fld Z h0 a2 "java/lang/String" "value" "[B" (.ref v2)) (Fc2 : Fld Z h0 a2 "java/lang/String" "coder" "B" (.int 0)) (V2 : Arv Z h0 v2 k2 .byte (2 : Int32) [(.int y0), (.int y1)] (.int 0)) :
    MetFree l (⟨"java/lang/String", "regionMatches", "(ZILjava/lang/String;II)Z"⟩ : MethodName) (head1 (Jvm.Cond.code (⟨"java/lang/String", "regionMatches", "(ZILjava/lang/String;II)Z"⟩ : MethodName) jdk_42_method_74_code 9 (some .boolean) :: ws) ({ frames := 2, cells := 0, slots := 0, locals := 33 } : Room)) (fun a U => a = #[(.ref a1), (.int p0), (.int st), (.ref a2), (.int p1), (.int p2)] ∧ Z.Warmed39 U.vm ∧ U.heap = h0) (fun _ _ _ _ _ => True) (fun _ U o U' => ∃ v L, o = .returned v ∧ own_rm2_Q Z a1 a2 v1 v2 p0 st p1 p2 z cs k1 k2 vs bf y0 y1 h0 n0 v U'.heap L ∧ FrameEnd U o U' L ({ frames := 2, cells := 0, slots := 0, locals := 33 } : Room).cells ({ frames := 2, cells := 0, slots := 0, locals := 33 } : Room).slots) := by
  refine own_enter (C := ({ frames := 2, cells := 0, slots := 0, locals := 33 } : Room).cells) (S := ({ frames := 2, cells := 0, slots := 0, locals := 33 } : Room).slots) (plainFor_of_name own_pn1) ?_
  intro p e s m below meth c T0 X0 I e0
  obtain ⟨hx, hby, hml, hown, hnm, hret, hlk, hZ⟩ := I
  have N0 := Fr.nil n0
  have O0 := own_extr h0
  refine own_cast (own_ef15 m a1 p0 st a2 p1 p2) ?_
  show own_Go _ _ _ _ T0 (mkF m 0 #[.val (.ref a1), .val (.int p0), .val (.int st), .val (.ref a2), .val (.int p1), .val (.int p2), .unset, .unset, .unset] [])
  rw [hp0, hp1, hp2]
  show own_Go _ _ _ _ T0 (mkF m 0 #[.val (.ref a1), .val (.int 1), .val (.int st), .val (.ref a2), .val (.int 0), .val (.int 2), .unset, .unset, .unset] [])
  refine own_st (fun _ k => XS.iloadN X0.here hx rfl (hb hby own_d15_0) rfl k) ?_
  refine own_st (fun _ k => XS.ifYes X0.here hx rfl (pc0 := 1) (pc' := 15) rfl (hb hby own_d15_1) rfl ((if0 _ _).trans (feq (by decide : ¬ ((1 : Int32) = (0 : Int32)))).2) (by decide) (by decide) k) ?_
  refine own_st (fun _ k => XS.iload X0.here hx rfl (hb hby own_d15_15) rfl k) ?_
  refine own_st (fun _ k => XS.ifNo X0.here hx rfl (hb hby own_d15_17) rfl ((if0 _ _).trans (flt (by decide : ¬ ((0 : Int32) < (0 : Int32)))).1) k) ?_
  refine own_st (fun _ k => XS.iloadN X0.here hx rfl (hb hby own_d15_20) rfl k) ?_
  by_cases h1 : st < (0 : Int32)
  · refine own_st (fun _ k => XS.ifYes X0.here hx rfl (pc0 := 21) (pc' := 55) rfl (hb hby own_d15_21) rfl ((if0 _ _).trans (tlt (h1 : st < (0 : Int32))).1) (by decide) (by decide) k) ?_
    refine own_st (fun _ k => XS.iconst X0.here hx rfl (hb hby own_d15_55) k) ?_
    exact own_retN X0 hx hret (by simp) hlk (hb hby own_d15_56) ⟨by rw [if_pos h1]; first | done | rfl, N0, e0⟩ (by decide) (by decide)
  · refine own_st (fun _ k => XS.ifNo X0.here hx rfl (hb hby own_d15_21) rfl ((if0 _ _).trans (flt (h1 : ¬ (st < (0 : Int32)))).1) k) ?_
    refine own_st (fun _ k => XS.iloadN X0.here hx rfl (hb hby own_d15_24) rfl k) ?_
    refine own_st (fun _ k => XS.i2l X0.here hx rfl (hb hby own_d15_25) rfl k) ?_
    show own_Go _ _ _ _ T0 (mkF m 26 #[.val (.ref a1), .val (.int 1), .val (.int st), .val (.ref a2), .val (.int 0), .val (.int 2), .unset, .unset, .unset] [(.long (st.toInt64))])
    refine own_st (fun _ k => XS.aloadN X0.here hx rfl (hb hby own_d15_26) rfl rfl k) ?_
    obtain ⟨v1, T1, L1, hQ1, X1, st1⟩ := own_callV X0 hx hZ (y := (⟨"java/lang/String", "length", "()I"⟩ : MethodName)) hown (own_w106 hw) (own_w73 hw) (own_w75 hw) (own_w74 hw) (own_w11 hw) (own_w76 hw) (by decide) (own_len_ l hw [] a1 v1 cs z k1 vs h0 n0 (Nat.le_trans Z0 O0.1) (Scs.ext O0) hcs (E1.ext O0) (Fv1.ext O0) (Fc1.ext O0) (V1.ext O0)) e0 (E1.ext O0) (g := (mkF m 27 #[.val (.ref a1), .val (.int 1), .val (.int st), .val (.ref a2), .val (.int 0), .val (.int 2), .unset, .unset, .unset] [(.ref a1), (.long (st.toInt64))])) rfl (by rw [hml]; rfl) (argsL := []) (rest := [(.long (st.toInt64))]) (lenOf own_pd7 rfl) rfl rfl (W := 2) (Nat.le_of_eq rfl) (hb hby own_d15_27) (by decide) (by decide) (by decide) (by decide)
    obtain ⟨rfl, N1, e1⟩ := hQ1
    have N1' := Fr.app N0 N1
    refine own_st st1 ?_
    refine own_st (fun _ k => XS.i2l X1.here hx rfl (hb hby own_d15_30) rfl k) ?_
    refine own_st (fun _ k => XS.iload X1.here hx rfl (hb hby own_d15_31) rfl k) ?_
    refine own_st (fun _ k => XS.i2l X1.here hx rfl (hb hby own_d15_33) rfl k) ?_
    show own_Go _ _ _ _ T1 (mkF m 34 #[.val (.ref a1), .val (.int 1), .val (.int st), .val (.ref a2), .val (.int 0), .val (.int 2), .unset, .unset, .unset] [(.long ((2 : Int32).toInt64)), (.long (z.toInt64)), (.long (st.toInt64))])
    rw [show ((2 : Int32).toInt64) = (2 : Int64) from by decide]
    refine own_st (fun _ k => XS.lsub X1.here hx rfl (hb hby own_d15_34) rfl k) ?_
    refine own_st (fun _ k => XS.lcmp X1.here hx rfl (hb hby own_d15_35) rfl k) ?_
    by_cases h2 : (0 : Int32) < (lcmpW (st.toInt64) ((z.toInt64) - (2 : Int64)))
    · refine own_st (fun _ k => XS.ifYes X1.here hx rfl (pc0 := 36) (pc' := 55) rfl (hb hby own_d15_36) rfl ((if0 _ _).trans (tlt (h2 : (0 : Int32) < (lcmpW (st.toInt64) ((z.toInt64) - (2 : Int64))))).2.2.1) (by decide) (by decide) k) ?_
      refine own_st (fun _ k => XS.iconst X1.here hx rfl (hb hby own_d15_55) k) ?_
      exact own_retN X1 hx hret (by simp) hlk (hb hby own_d15_56) ⟨by rw [if_neg h1, if_pos h2]; first | done | rfl, N1', e1⟩ (by decide) (by decide)
    · refine own_st (fun _ k => XS.ifNo X1.here hx rfl (hb hby own_d15_36) rfl ((if0 _ _).trans (flt (h2 : ¬ ((0 : Int32) < (lcmpW (st.toInt64) ((z.toInt64) - (2 : Int64)))))).2.2.1) k) ?_
      refine own_st (fun _ k => XS.iload X1.here hx rfl (hb hby own_d15_39) rfl k) ?_
      refine own_st (fun _ k => XS.i2l X1.here hx rfl (hb hby own_d15_41) rfl k) ?_
      show own_Go _ _ _ _ T1 (mkF m 42 #[.val (.ref a1), .val (.int 1), .val (.int st), .val (.ref a2), .val (.int 0), .val (.int 2), .unset, .unset, .unset] [(.long ((0 : Int32).toInt64))])
      rw [show ((0 : Int32).toInt64) = (0 : Int64) from by decide]
      refine own_st (fun _ k => XS.aloadN X1.here hx rfl (hb hby own_d15_42) rfl rfl k) ?_
      obtain ⟨v2, T2, L2, hQ2, X2, st2⟩ := own_callV X1 hx hZ (y := (⟨"java/lang/String", "length", "()I"⟩ : MethodName)) hown (own_w106 hw) (own_w73 hw) (own_w75 hw) (own_w74 hw) (own_w11 hw) (own_w76 hw) (by decide) (own_len_ l hw [] a2 v2 cs (2 : Int32) k2 [(.int y0), (.int y1)] h0 n0 (Nat.le_trans Z0 O0.1) (Scs.ext O0) hcs (E2.ext O0) (Fv2.ext O0) (Fc2.ext O0) (V2.ext O0)) e1 (E2.ext O0) (g := (mkF m 43 #[.val (.ref a1), .val (.int 1), .val (.int st), .val (.ref a2), .val (.int 0), .val (.int 2), .unset, .unset, .unset] [(.ref a2), (.long (0 : Int64))])) rfl (by rw [hml]; rfl) (argsL := []) (rest := [(.long (0 : Int64))]) (lenOf own_pd7 rfl) rfl rfl (W := 2) (Nat.le_of_eq rfl) (hb hby own_d15_43) (by decide) (by decide) (by decide) (by decide)
      obtain ⟨rfl, N2, e2⟩ := hQ2
      have N2' := Fr.app N1' N2
      refine own_st st2 ?_
      refine own_st (fun _ k => XS.i2l X2.here hx rfl (hb hby own_d15_46) rfl k) ?_
      show own_Go _ _ _ _ T2 (mkF m 47 #[.val (.ref a1), .val (.int 1), .val (.int st), .val (.ref a2), .val (.int 0), .val (.int 2), .unset, .unset, .unset] [(.long ((2 : Int32).toInt64)), (.long (0 : Int64))])
      rw [show ((2 : Int32).toInt64) = (2 : Int64) from by decide]
      refine own_st (fun _ k => XS.iload X2.here hx rfl (hb hby own_d15_47) rfl k) ?_
      refine own_st (fun _ k => XS.i2l X2.here hx rfl (hb hby own_d15_49) rfl k) ?_
      show own_Go _ _ _ _ T2 (mkF m 50 #[.val (.ref a1), .val (.int 1), .val (.int st), .val (.ref a2), .val (.int 0), .val (.int 2), .unset, .unset, .unset] [(.long ((2 : Int32).toInt64)), (.long (2 : Int64)), (.long (0 : Int64))])
      rw [show ((2 : Int32).toInt64) = (2 : Int64) from by decide]
      refine own_st (fun _ k => XS.lsub X2.here hx rfl (hb hby own_d15_50) rfl k) ?_
      show own_Go _ _ _ _ T2 (mkF m 51 #[.val (.ref a1), .val (.int 1), .val (.int st), .val (.ref a2), .val (.int 0), .val (.int 2), .unset, .unset, .unset] [(.long ((2 : Int64) - (2 : Int64))), (.long (0 : Int64))])
      rw [show ((2 : Int64) - (2 : Int64)) = (0 : Int64) from by decide]
      refine own_st (fun _ k => XS.lcmp X2.here hx rfl (hb hby own_d15_51) rfl k) ?_
      refine own_st (fun _ k => XS.ifYes X2.here hx rfl (pc0 := 52) (pc' := 57) rfl (hb hby own_d15_52) rfl ((if0 _ _).trans (flt (by decide : ¬ ((0 : Int32) < (lcmpW (0 : Int64) (0 : Int64))))).2.2.2) (by decide) (by decide) k) ?_
      refine own_st (fun _ k => XS.aloadN X2.here hx rfl (hb hby own_d15_57) rfl rfl k) ?_
      obtain ⟨T3, X3, e3, st3⟩ := getF X2 hx hZ hown (host := "") (Or.inl (own_w36 hw)) Via.refl e2 (Fv1.ext O0) (g := (mkF m 58 #[.val (.ref a1), .val (.int 1), .val (.int st), .val (.ref a2), .val (.int 0), .val (.int 2), .unset, .unset, .unset] [(.ref a1)])) rfl rfl (hb hby own_d15_58)
      refine own_st st3 ?_
      refine own_st (fun _ k => XS.astore X3.here hx rfl (hb hby own_d15_61) rfl rfl (l' := #[.val (.ref a1), .val (.int 1), .val (.int st), .val (.ref a2), .val (.int 0), .val (.int 2), .val (.ref v1), .unset, .unset]) rfl k) ?_
      refine own_st (fun _ k => XS.aloadN X3.here hx rfl (hb hby own_d15_63) rfl rfl k) ?_
      obtain ⟨T4, X4, e4, st4⟩ := getF X3 hx hZ hown (host := "") (Or.inl (own_w36 hw)) Via.refl e3 (Fv2.ext O0) (g := (mkF m 64 #[.val (.ref a1), .val (.int 1), .val (.int st), .val (.ref a2), .val (.int 0), .val (.int 2), .val (.ref v1), .unset, .unset] [(.ref a2)])) rfl rfl (hb hby own_d15_64)
      refine own_st st4 ?_
      show own_Go _ _ _ _ T4 (mkF m 67 #[.val (.ref a1), .val (.int 1), .val (.int st), .val (.ref a2), .val (.int 0), .val (.int 2), .val (.ref v1), .unset, .unset] [(.ref v2)])
      refine own_st (fun _ k => XS.astore X4.here hx rfl (hb hby own_d15_67) rfl rfl (l' := #[.val (.ref a1), .val (.int 1), .val (.int st), .val (.ref a2), .val (.int 0), .val (.int 2), .val (.ref v1), .val (.ref v2), .unset]) rfl k) ?_
      refine own_st (fun _ k => XS.aloadN X4.here hx rfl (hb hby own_d15_69) rfl rfl k) ?_
      obtain ⟨v5, T5, L5, hQ5, X5, st5⟩ := own_callV X4 hx hZ (y := (⟨"java/lang/String", "coder", "()B"⟩ : MethodName)) hown (own_w77 hw) (own_w78 hw) (own_w80 hw) (own_w79 hw) (own_w11 hw) (own_w81 hw) (by decide) (own_co l hw [] a1 cs h0 n0 (Nat.le_trans Z0 O0.1) (Scs.ext O0) hcs (Fc1.ext O0)) e4 (E1.ext O0) (g := (mkF m 70 #[.val (.ref a1), .val (.int 1), .val (.int st), .val (.ref a2), .val (.int 0), .val (.int 2), .val (.ref v1), .val (.ref v2), .unset] [(.ref a1)])) rfl (by rw [hml]; rfl) (argsL := []) (rest := []) (lenOf own_pd6 rfl) rfl rfl (W := 0) (Nat.le_of_eq rfl) (hb hby own_d15_70) (by decide) (by decide) (by decide) (by decide)
      obtain ⟨rfl, N5, e5⟩ := hQ5
      have N5' := Fr.app N2' N5
      refine own_st st5 ?_
      refine own_st (fun _ k => XS.istore X5.here hx rfl (hb hby own_d15_73) rfl (l' := #[.val (.ref a1), .val (.int 1), .val (.int st), .val (.ref a2), .val (.int 0), .val (.int 2), .val (.ref v1), .val (.ref v2), .val (.int 0)]) rfl k) ?_
      refine own_st (fun _ k => XS.iload X5.here hx rfl (hb hby own_d15_75) rfl k) ?_
      refine own_st (fun _ k => XS.aloadN X5.here hx rfl (hb hby own_d15_77) rfl rfl k) ?_
      obtain ⟨v6, T6, L6, hQ6, X6, st6⟩ := own_callV X5 hx hZ (y := (⟨"java/lang/String", "coder", "()B"⟩ : MethodName)) hown (own_w77 hw) (own_w78 hw) (own_w80 hw) (own_w79 hw) (own_w11 hw) (own_w81 hw) (by decide) (own_co l hw [] a2 cs h0 n0 (Nat.le_trans Z0 O0.1) (Scs.ext O0) hcs (Fc2.ext O0)) e5 (E2.ext O0) (g := (mkF m 78 #[.val (.ref a1), .val (.int 1), .val (.int st), .val (.ref a2), .val (.int 0), .val (.int 2), .val (.ref v1), .val (.ref v2), .val (.int 0)] [(.ref a2), (.int 0)])) rfl (by rw [hml]; rfl) (argsL := []) (rest := [(.int 0)]) (lenOf own_pd6 rfl) rfl rfl (W := 1) (Nat.le_of_eq rfl) (hb hby own_d15_78) (by decide) (by decide) (by decide) (by decide)
      obtain ⟨rfl, N6, e6⟩ := hQ6
      have N6' := Fr.app N5' N6
      refine own_st st6 ?_
      refine own_st (fun _ k => XS.icmpNo X6.here hx rfl (hb hby own_d15_81) rfl (teq (by decide : (0 : Int32) = (0 : Int32))).2 k) ?_
      show own_Go _ _ _ _ T6 (mkF m 84 #[.val (.ref a1), .val (.int 1), .val (.int st), .val (.ref a2), .val (.int 0), .val (.int 2), .val (.ref v1), .val (.ref v2), .val (.int 0)] [])
      refine own_st (fun _ k => XS.iload X6.here hx rfl (hb hby own_d15_84) rfl k) ?_
      refine own_st (fun _ k => XS.ifNo X6.here hx rfl (hb hby own_d15_86) rfl ((if0 _ _).trans (teq (by decide : (0 : Int32) = (0 : Int32))).2) k) ?_
      refine own_st (fun _ k => XS.aload X6.here hx rfl (hb hby own_d15_89) rfl rfl k) ?_
      refine own_st (fun _ k => XS.iloadN X6.here hx rfl (hb hby own_d15_91) rfl k) ?_
      refine own_st (fun _ k => XS.aload X6.here hx rfl (hb hby own_d15_92) rfl rfl k) ?_
      refine own_st (fun _ k => XS.iload X6.here hx rfl (hb hby own_d15_94) rfl k) ?_
      refine own_st (fun _ k => XS.iload X6.here hx rfl (hb hby own_d15_96) rfl k) ?_
      have b0 : 0 ≤ st.toInt := by
        have z0 : (0 : Int32).toInt = 0 := by decide
        have : ¬ st.toInt < (0 : Int32).toInt := fun q => h1 (Int32.lt_iff_toInt_lt.mpr q)
        omega
      have b1 : st.toInt + 2 ≤ z.toInt := by
        have q : ¬ (z.toInt64 - (2 : Int64)).toInt < st.toInt64.toInt := fun q => h2 ((lw_gt _ _).mpr (Int64.lt_iff_toInt_lt.mpr q))
        have q1 := c_lsub z.toInt64 (2 : Int64)
        have q2 := rng64 (z.toInt64 - (2 : Int64))
        have q3 := rng32 z
        have q4 : ((2 : Int64)).toInt = 2 := by decide
        rw [c_i2l] at q q1
        omega
      obtain ⟨v7, T7, L7, hQ7, X7, st7⟩ := own_callS X6 hx hZ (y := (⟨"java/lang/StringLatin1", "regionMatchesCI", "([BI[BII)Z"⟩ : MethodName)) hown (own_w107 hw) (own_w108 hw) (own_w109 hw) (own_w110 hw) (by decide) (own_ci2 l hw [] v1 v2 st (0 : Int32) (2 : Int32) z k1 k2 vs bf y0 y1 h0 n0 (Nat.le_trans Z0 O0.1) rfl rfl b0 b1 zb (V1.ext O0) hB (V2.ext O0)) e6 (g := (mkF m 98 #[.val (.ref a1), .val (.int 1), .val (.int st), .val (.ref a2), .val (.int 0), .val (.int 2), .val (.ref v1), .val (.ref v2), .val (.int 0)] [(.int 2), (.int 0), (.ref v2), (.int st), (.ref v1)])) rfl (by rw [hml]; rfl) (argsL := [(.ref v1), (.int st), (.ref v2), (.int 0), (.int 2)]) (rest := []) (lenOf own_pd8 rfl) rfl rfl (W := 0) (Nat.le_of_eq rfl) (hb hby own_d15_98) (by decide) (by decide) (by decide) (by decide)
      obtain ⟨rfl, N7, e7⟩ := hQ7
      have N7' := Fr.app N6' N7
      refine own_st st7 ?_
      show own_Go _ _ _ _ T7 (mkF m 101 #[.val (.ref a1), .val (.int 1), .val (.int st), .val (.ref a2), .val (.int 0), .val (.int 2), .val (.ref v1), .val (.ref v2), .val (.int 0)] [(.int (if own_eic (bf st) y0 = 0 then (0 : Int32) else (if own_eic (bf (st + (1 : Int32))) y1 = 0 then (0 : Int32) else (1 : Int32))))])
      refine own_st (fun _ k => XS.goto X7.here hx rfl (pc0 := 101) (pc' := 116) rfl (hb hby own_d15_101) (by decide) (by decide) k) ?_
      exact own_retN X7 hx hret (by simp) hlk (hb hby own_d15_116) ⟨by rw [if_neg h1, if_neg h2]; exact congrArg (fun q => some (Value.int q)) (own_nzz2 _ _), N7', e7⟩ (by decide) (by decide)
theorem own_r01_2 {P Q : Prop} [Decidable P] [Decidable Q] {e0 e1 : Int32} (h : ¬ (if P then (0 : Int32) else if Q then (0 : Int32) else (if e0 = 0 then (0 : Int32) else (if e1 = 0 then (0 : Int32) else (1 : Int32)))) = 0) : (if P then (0 : Int32) else if Q then (0 : Int32) else (if e0 = 0 then (0 : Int32) else (if e1 = 0 then (0 : Int32) else (1 : Int32)))) = 1 := by
  revert h
  repeat' split
  all_goals simp
def own_is2_Q (Z : State) (ta a1 wk2 a2 wk v1 v2 : Addr) (st en z cs : Int32) (k1 k2 : ClassId) (vs : List Value) (bf : Int32 → Int32) (y0 y1 : Int32) (h0 : Heap) (n0 : Nat) (v : Option Value) (h : Heap) (L : List Loc) : Prop := v = some (.int (if wk = wk2 then (if en - st = (2 : Int32) then (if st < 0 then (0 : Int32) else if (0 : Int32) < lcmpW st.toInt64 (z.toInt64 - (2 : Int64)) then (0 : Int32) else (if own_eic (bf st) y0 = 0 then (0 : Int32) else (if own_eic (bf (st + (1 : Int32))) y1 = 0 then (0 : Int32) else (1 : Int32)))) else (0 : Int32)) else (0 : Int32))) ∧ Fr n0 L ∧ h = h0
set_option maxRecDepth 65536 in
set_option maxHeartbeats 40000000 in
theorem own_is2 (l : Launch) {Z : State} {a0 : Array Value} (hw : own_W Z a0) (ws : List Jvm.Cond) (ta a1 wk2 a2 wk v1 v2 : Addr) (st en z cs : Int32) (k1 k2 : ClassId) (vs : List Value) (bf : Int32 → Int32) (y0 y1 : Int32) (h0 : Heap) (n0 : Nat) (Z0 : n0 ≤ h0.size) (zb : z.toInt ≤ 5) (Fk : Fld Z h0 ta "com/example/isoscope/isoscope/SqlLexer$Token" "kind" "Lcom/example/isoscope/isoscope/SqlLexer$Kind;" (.ref wk)) (Fst : Fld Z h0 ta "com/example/isoscope/isoscope/SqlLexer$Token" "start" "I" (.int st)) (Fen : Fld Z h0 ta "com/example/isoscope/isoscope/SqlLexer$Token" "end" "I" (.int en)) (Scs : Sta Z h0 "java/lang/String" "COMPACT_STRINGS" "Z" (.int cs)) (hcs : ¬ cs = 0) (E1 : Exa Z h0 a1 "java/lang/String") (Fv1 : Fld Z h0 a1 "java/lang/String" "value" "[B" (.ref v1)) (Fc1 : Fld Z h0 a1 "java/lang/String" "coder" "B" (.int 0)) (V1 : Arv Z h0 v1 k1 .byte z vs (.int 0)) (hB : ∀ j : Int32, ¬ j < 0 → j < z → vs.getD j.toNatClampNeg (.int 0) = .int (bf j)) (E2 : Exa Z h0 a2 "java/lang/String") (Fv2 : Fld Z h0 a2 "java/lang/String" "value" "[B" (.ref v2)) (Fc2 : Fld Z h0 a2 "java/lang/String" "coder" "B" (.int 0)) (V2 : Arv Z h0 v2 k2 .byte (2 : Int32) [(.int y0), (.int y1)] (.int 0)) :
    MetFree l (⟨"com/example/isoscope/isoscope/SqlLexer$Token", "is", "(Ljava/lang/String;Lcom/example/isoscope/isoscope/SqlLexer$Kind;Ljava/lang/String;)Z"⟩ : MethodName) (head1 (Jvm.Cond.code (⟨"com/example/isoscope/isoscope/SqlLexer$Token", "is", "(Ljava/lang/String;Lcom/example/isoscope/isoscope/SqlLexer$Kind;Ljava/lang/String;)Z"⟩ : MethodName) prog_29_method_2_code 4 (some .boolean) :: ws) ({ frames := 3, cells := 0, slots := 0, locals := 53 } : Room)) (fun a U => a = #[(.ref ta), (.ref a1), (.ref wk2), (.ref a2)] ∧ Z.Warmed39 U.vm ∧ U.heap = h0) (fun _ _ _ _ _ => True) (fun _ U o U' => ∃ v L, o = .returned v ∧ own_is2_Q Z ta a1 wk2 a2 wk v1 v2 st en z cs k1 k2 vs bf y0 y1 h0 n0 v U'.heap L ∧ FrameEnd U o U' L ({ frames := 3, cells := 0, slots := 0, locals := 53 } : Room).cells ({ frames := 3, cells := 0, slots := 0, locals := 53 } : Room).slots) := by
  refine own_enter (C := ({ frames := 3, cells := 0, slots := 0, locals := 53 } : Room).cells) (S := ({ frames := 3, cells := 0, slots := 0, locals := 53 } : Room).slots) (plainFor_of_name own_pn4) ?_
  intro p e s m below meth c T0 X0 I e0
  obtain ⟨hx, hby, hml, hown, hnm, hret, hlk, hZ⟩ := I
  have N0 := Fr.nil n0
  have O0 := own_extr h0
  refine own_cast (own_ef12 m ta a1 wk2 a2) ?_
  show own_Go _ _ _ _ T0 (mkF m 0 #[.val (.ref ta), .val (.ref a1), .val (.ref wk2), .val (.ref a2)] [])
  refine own_st (fun _ k => XS.aloadN X0.here hx rfl (hb hby own_d12_0) rfl rfl k) ?_
  obtain ⟨T1, X1, e1, st1⟩ := getF X0 hx hZ hown (host := "") (Or.inl (own_w59 hw)) Via.refl e0 (Fk.ext O0) (g := (mkF m 1 #[.val (.ref ta), .val (.ref a1), .val (.ref wk2), .val (.ref a2)] [(.ref ta)])) rfl rfl (hb hby own_d12_1)
  refine own_st st1 ?_
  refine own_st (fun _ k => XS.aloadN X1.here hx rfl (hb hby own_d12_4) rfl rfl k) ?_
  by_cases h1 : wk = wk2
  · refine own_st (fun _ k => Jvm.RoadKit.acmp (g := (mkF m 5 #[.val (.ref ta), .val (.ref a1), .val (.ref wk2), .val (.ref a2)] [(.ref wk2), (.ref wk)])) X1 hx rfl rfl rfl (pc0 := 5) (pc' := 8) (same := true) rfl (hb hby own_d12_5) rfl (decide_eq_true (congrArg Value.ref h1)) (by decide) (by decide) k) ?_
    refine own_st (fun _ k => XS.aloadN X1.here hx rfl (hb hby own_d12_8) rfl rfl k) ?_
    obtain ⟨T2, X2, e2, st2⟩ := getF X1 hx hZ hown (host := "") (Or.inl (own_w63 hw)) Via.refl e1 (Fen.ext O0) (g := (mkF m 9 #[.val (.ref ta), .val (.ref a1), .val (.ref wk2), .val (.ref a2)] [(.ref ta)])) rfl rfl (hb hby own_d12_9)
    refine own_st st2 ?_
    refine own_st (fun _ k => XS.aloadN X2.here hx rfl (hb hby own_d12_12) rfl rfl k) ?_
    obtain ⟨T3, X3, e3, st3⟩ := getF X2 hx hZ hown (host := "") (Or.inl (own_w61 hw)) Via.refl e2 (Fst.ext O0) (g := (mkF m 13 #[.val (.ref ta), .val (.ref a1), .val (.ref wk2), .val (.ref a2)] [(.ref ta), (.int en)])) rfl rfl (hb hby own_d12_13)
    refine own_st st3 ?_
    show own_Go _ _ _ _ T3 (mkF m 16 #[.val (.ref ta), .val (.ref a1), .val (.ref wk2), .val (.ref a2)] [(.int st), (.int en)])
    refine own_st (fun _ k => XS.isub X3.here hx rfl (hb hby own_d12_16) rfl k) ?_
    refine own_st (fun _ k => XS.aloadN X3.here hx rfl (hb hby own_d12_17) rfl rfl k) ?_
    obtain ⟨v4, T4, L4, hQ4, X4, st4⟩ := own_callV X3 hx hZ (y := (⟨"java/lang/String", "length", "()I"⟩ : MethodName)) hown (own_w72 hw) (own_w73 hw) (own_w75 hw) (own_w74 hw) (own_w11 hw) (own_w76 hw) (by decide) (own_len_ l hw [] a2 v2 cs (2 : Int32) k2 [(.int y0), (.int y1)] h0 n0 (Nat.le_trans Z0 O0.1) (Scs.ext O0) hcs (E2.ext O0) (Fv2.ext O0) (Fc2.ext O0) (V2.ext O0)) e3 (E2.ext O0) (g := (mkF m 18 #[.val (.ref ta), .val (.ref a1), .val (.ref wk2), .val (.ref a2)] [(.ref a2), (.int (en - st))])) rfl (by rw [hml]; rfl) (argsL := []) (rest := [(.int (en - st))]) (lenOf own_pd7 rfl) rfl rfl (W := 1) (Nat.le_of_eq rfl) (hb hby own_d12_18) (by decide) (by decide) (by decide) (by decide)
    obtain ⟨rfl, N4, e4⟩ := hQ4
    have N4' := Fr.app N0 N4
    refine own_st st4 ?_
    by_cases h2 : (en - st) = (2 : Int32)
    · refine own_st (fun _ k => XS.icmpNo X4.here hx rfl (hb hby own_d12_21) rfl (teq (h2 : (en - st) = (2 : Int32))).2 k) ?_
      refine own_st (fun _ k => XS.aloadN X4.here hx rfl (hb hby own_d12_24) rfl rfl k) ?_
      refine own_st (fun _ k => XS.iconst X4.here hx rfl (hb hby own_d12_25) k) ?_
      refine own_st (fun _ k => XS.aloadN X4.here hx rfl (hb hby own_d12_26) rfl rfl k) ?_
      obtain ⟨T5, X5, e5, st5⟩ := getF X4 hx hZ hown (host := "") (Or.inl (own_w61 hw)) Via.refl e4 (Fst.ext O0) (g := (mkF m 27 #[.val (.ref ta), .val (.ref a1), .val (.ref wk2), .val (.ref a2)] [(.ref ta), (.int 1), (.ref a1)])) rfl rfl (hb hby own_d12_27)
      refine own_st st5 ?_
      show own_Go _ _ _ _ T5 (mkF m 30 #[.val (.ref ta), .val (.ref a1), .val (.ref wk2), .val (.ref a2)] [(.int st), (.int 1), (.ref a1)])
      refine own_st (fun _ k => XS.aloadN X5.here hx rfl (hb hby own_d12_30) rfl rfl k) ?_
      refine own_st (fun _ k => XS.iconst X5.here hx rfl (hb hby own_d12_31) k) ?_
      refine own_st (fun _ k => XS.aloadN X5.here hx rfl (hb hby own_d12_32) rfl rfl k) ?_
      obtain ⟨v6, T6, L6, hQ6, X6, st6⟩ := own_callV X5 hx hZ (y := (⟨"java/lang/String", "length", "()I"⟩ : MethodName)) hown (own_w72 hw) (own_w73 hw) (own_w75 hw) (own_w74 hw) (own_w11 hw) (own_w76 hw) (by decide) (own_len_ l hw [] a2 v2 cs (2 : Int32) k2 [(.int y0), (.int y1)] h0 n0 (Nat.le_trans Z0 O0.1) (Scs.ext O0) hcs (E2.ext O0) (Fv2.ext O0) (Fc2.ext O0) (V2.ext O0)) e5 (E2.ext O0) (g := (mkF m 33 #[.val (.ref ta), .val (.ref a1), .val (.ref wk2), .val (.ref a2)] [(.ref a2), (.int 0), (.ref a2), (.int st), (.int 1), (.ref a1)])) rfl (by rw [hml]; rfl) (argsL := []) (rest := [(.int 0), (.ref a2), (.int st), (.int 1), (.ref a1)]) (lenOf own_pd7 rfl) rfl rfl (W := 5) (Nat.le_of_eq rfl) (hb hby own_d12_33) (by decide) (by decide) (by decide) (by decide)
      obtain ⟨rfl, N6, e6⟩ := hQ6
      have N6' := Fr.app N4' N6
      refine own_st st6 ?_
      obtain ⟨v7, T7, L7, hQ7, X7, st7⟩ := own_callV X6 hx hZ (y := (⟨"java/lang/String", "regionMatches", "(ZILjava/lang/String;II)Z"⟩ : MethodName)) hown (own_w82 hw) (own_w83 hw) (own_w85 hw) (own_w84 hw) (own_w11 hw) (own_w86 hw) (by decide) (own_rm2 l hw [] a1 a2 v1 v2 (1 : Int32) st (0 : Int32) (2 : Int32) z cs k1 k2 vs bf y0 y1 h0 n0 (Nat.le_trans Z0 O0.1) rfl rfl rfl zb (Scs.ext O0) hcs (E1.ext O0) (Fv1.ext O0) (Fc1.ext O0) (V1.ext O0) hB (E2.ext O0) (Fv2.ext O0) (Fc2.ext O0) (V2.ext O0)) e6 (E1.ext O0) (g := (mkF m 36 #[.val (.ref ta), .val (.ref a1), .val (.ref wk2), .val (.ref a2)] [(.int 2), (.int 0), (.ref a2), (.int st), (.int 1), (.ref a1)])) rfl (by rw [hml]; rfl) (argsL := [(.int 1), (.int st), (.ref a2), (.int 0), (.int 2)]) (rest := []) (lenOf own_pd9 rfl) rfl rfl (W := 0) (Nat.le_of_eq rfl) (hb hby own_d12_36) (by decide) (by decide) (by decide) (by decide)
      obtain ⟨rfl, N7, e7⟩ := hQ7
      have N7' := Fr.app N6' N7
      refine own_st st7 ?_
      by_cases h3 : (if st < 0 then (0 : Int32) else if (0 : Int32) < lcmpW st.toInt64 (z.toInt64 - (2 : Int64)) then (0 : Int32) else (if own_eic (bf st) y0 = 0 then (0 : Int32) else (if own_eic (bf (st + (1 : Int32))) y1 = 0 then (0 : Int32) else (1 : Int32)))) = (0 : Int32)
      · refine own_st (fun _ k => XS.ifYes X7.here hx rfl (pc0 := 39) (pc' := 46) rfl (hb hby own_d12_39) rfl ((if0 _ _).trans (teq (h3 : (if st < 0 then (0 : Int32) else if (0 : Int32) < lcmpW st.toInt64 (z.toInt64 - (2 : Int64)) then (0 : Int32) else (if own_eic (bf st) y0 = 0 then (0 : Int32) else (if own_eic (bf (st + (1 : Int32))) y1 = 0 then (0 : Int32) else (1 : Int32)))) = (0 : Int32))).1) (by decide) (by decide) k) ?_
        refine own_st (fun _ k => XS.iconst X7.here hx rfl (hb hby own_d12_46) k) ?_
        exact own_retN X7 hx hret (by simp) hlk (hb hby own_d12_47) ⟨by simp only [h1, h2, if_true, h3]; rfl, N7', e7⟩ (by decide) (by decide)
      · refine own_st (fun _ k => XS.ifNo X7.here hx rfl (hb hby own_d12_39) rfl ((if0 _ _).trans (feq (h3 : ¬ ((if st < 0 then (0 : Int32) else if (0 : Int32) < lcmpW st.toInt64 (z.toInt64 - (2 : Int64)) then (0 : Int32) else (if own_eic (bf st) y0 = 0 then (0 : Int32) else (if own_eic (bf (st + (1 : Int32))) y1 = 0 then (0 : Int32) else (1 : Int32)))) = (0 : Int32)))).1) k) ?_
        refine own_st (fun _ k => XS.iconst X7.here hx rfl (hb hby own_d12_42) k) ?_
        refine own_st (fun _ k => XS.goto X7.here hx rfl (pc0 := 43) (pc' := 47) rfl (hb hby own_d12_43) (by decide) (by decide) k) ?_
        show own_Go _ _ _ _ T7 (mkF m 47 #[.val (.ref ta), .val (.ref a1), .val (.ref wk2), .val (.ref a2)] [(.int 1)])
        exact own_retN X7 hx hret (by simp) hlk (hb hby own_d12_47) ⟨by simp only [h1, h2, if_true]; rw [own_r01_2 h3]; rfl, N7', e7⟩ (by decide) (by decide)
    · refine own_st (fun _ k => XS.icmpYes X4.here hx rfl (pc0 := 21) (pc' := 46) rfl (hb hby own_d12_21) rfl (feq (h2 : ¬ ((en - st) = (2 : Int32)))).2 (by decide) (by decide) k) ?_
      refine own_st (fun _ k => XS.iconst X4.here hx rfl (hb hby own_d12_46) k) ?_
      exact own_retN X4 hx hret (by simp) hlk (hb hby own_d12_47) ⟨by simp [nar, *], N4', e4⟩ (by decide) (by decide)
  · refine own_st (fun _ k => Jvm.RoadKit.acmp (g := (mkF m 5 #[.val (.ref ta), .val (.ref a1), .val (.ref wk2), .val (.ref a2)] [(.ref wk2), (.ref wk)])) X1 hx rfl rfl rfl (pc0 := 5) (pc' := 46) (same := false) rfl (hb hby own_d12_5) rfl (decide_eq_false fun q => h1 (Value.ref.inj q)) (by decide) (by decide) k) ?_
    refine own_st (fun _ k => XS.iconst X1.here hx rfl (hb hby own_d12_46) k) ?_
    exact own_retN X1 hx hret (by simp) hlk (hb hby own_d12_47) ⟨by simp [nar, *], N0, e1⟩ (by decide) (by decide)
def own_ci3_Q (Z : State) (a1 a2 : Addr) (st p1 p2 z : Int32) (k1 k2 : ClassId) (vs : List Value) (bf : Int32 → Int32) (y0 y1 y2 : Int32) (h0 : Heap) (n0 : Nat) (v : Option Value) (h : Heap) (L : List Loc) : Prop := v = some (.int (if own_eic (bf st) y0 = 0 then (0 : Int32) else (if own_eic (bf (st + (1 : Int32))) y1 = 0 then (0 : Int32) else (if own_eic (bf ((st + (1 : Int32)) + (1 : Int32))) y2 = 0 then (0 : Int32) else (1 : Int32))))) ∧ Fr n0 L ∧ h = h0
set_option maxRecDepth 65536 in
set_option maxHeartbeats 40000000 in
theorem own_ci3 (l : Launch) {Z : State} {a0 : Array Value} (hw : own_W Z a0) (ws : List Jvm.Cond) (a1 a2 : Addr) (st p1 p2 z : Int32) (k1 k2 : ClassId) (vs : List Value) (bf : Int32 → Int32) (y0 y1 y2 : Int32) (h0 : Heap) (n0 : Nat) (Z0 : n0 ≤ h0.size) (hp1 : p1 = 0) (hp2 : p2 = (3 : Int32)) (r0 : 0 ≤ st.toInt) (r1 : st.toInt + 3 ≤ z.toInt) (r2 : z.toInt ≤ 5) (V1 : Arv Z h0 a1 k1 .byte z vs (.int 0)) (hB : ∀ j : Int32, ¬ j < 0 → j < z → vs.getD j.toNatClampNeg (.int 0) = .int (bf j)) (V2 : Arv Z h0 a2 k2 .byte (3 : Int32) [(.int y0), (.int y1), (.int y2)] (.int 0)) :
    MetFree l (⟨"java/lang/StringLatin1", "regionMatchesCI", "([BI[BII)Z"⟩ : MethodName) (head1 (Jvm.Cond.code (⟨"java/lang/StringLatin1", "regionMatchesCI", "([BI[BII)Z"⟩ : MethodName) jdk_43_method_30_code 8 (some .boolean) :: ws) ({ frames := 1, cells := 0, slots := 0, locals := 14 } : Room)) (fun a U => a = #[(.ref a1), (.int st), (.ref a2), (.int p1), (.int p2)] ∧ Z.Warmed39 U.vm ∧ U.heap = h0) (fun _ _ _ _ _ => True) (fun _ U o U' => ∃ v L, o = .returned v ∧ own_ci3_Q Z a1 a2 st p1 p2 z k1 k2 vs bf y0 y1 y2 h0 n0 v U'.heap L ∧ FrameEnd U o U' L ({ frames := 1, cells := 0, slots := 0, locals := 14 } : Room).cells ({ frames := 1, cells := 0, slots := 0, locals := 14 } : Room).slots) := by
  refine own_enter (C := ({ frames := 1, cells := 0, slots := 0, locals := 14 } : Room).cells) (S := ({ frames := 1, cells := 0, slots := 0, locals := 14 } : Room).slots) (plainFor_of_name own_pn6) ?_
  intro p e s m below meth c T0 X0 I e0
  obtain ⟨hx, hby, hml, hown, hnm, hret, hlk, hZ⟩ := I
  have N0 := Fr.nil n0
  have O0 := own_extr h0
  refine own_cast (own_ef17 m a1 st a2 p1 p2) ?_
  show own_Go _ _ _ _ T0 (mkF m 0 #[.val (.ref a1), .val (.int st), .val (.ref a2), .val (.int p1), .val (.int p2), .unset, .unset, .unset] [])
  rw [hp1, hp2]
  show own_Go _ _ _ _ T0 (mkF m 0 #[.val (.ref a1), .val (.int st), .val (.ref a2), .val (.int 0), .val (.int 3), .unset, .unset, .unset] [])
  have z5 : ((3 : Int32)).toInt = 3 := by decide
  have i_e : (st + (3 : Int32)).toInt = st.toInt + 3 := own_plus z5 (by decide) (by decide) (by omega) (by omega)
  have z1 : (1 : Int32).toInt = 1 := by decide
  have z0 : (0 : Int32).toInt = 0 := by decide
  have i_1 : (st + (1 : Int32)).toInt = st.toInt + 1 := own_plus z1 (by decide) (by decide) (by omega) (by omega)
  have i_2 : ((st + (1 : Int32)) + (1 : Int32)).toInt = (st + (1 : Int32)).toInt + 1 := own_plus z1 (by decide) (by decide) (by omega) (by omega)
  have i_3 : (((st + (1 : Int32)) + (1 : Int32)) + (1 : Int32)).toInt = ((st + (1 : Int32)) + (1 : Int32)).toInt + 1 := own_plus z1 (by decide) (by decide) (by omega) (by omega)
  refine own_st (fun _ k => XS.iloadN X0.here hx rfl (hb hby own_d17_0) rfl k) ?_
  refine own_st (fun _ k => XS.iload X0.here hx rfl (hb hby own_d17_1) rfl k) ?_
  refine own_st (fun _ k => XS.iadd X0.here hx rfl (hb hby own_d17_3) rfl k) ?_
  refine own_st (fun _ k => XS.istore X0.here hx rfl (hb hby own_d17_4) rfl (l' := #[.val (.ref a1), .val (.int st), .val (.ref a2), .val (.int 0), .val (.int 3), .val (.int (st + (3 : Int32))), .unset, .unset]) rfl k) ?_
  refine own_st (fun _ k => XS.iloadN X0.here hx rfl (hb hby own_d17_6) rfl k) ?_
  refine own_st (fun _ k => XS.iload X0.here hx rfl (hb hby own_d17_7) rfl k) ?_
  refine own_st (fun _ k => XS.icmpNo X0.here hx rfl (hb hby own_d17_9) rfl (tlt (Int32.lt_iff_toInt_lt.mpr (by omega) : st < (st + (3 : Int32)))).2.1 k) ?_
  refine own_st (fun _ k => XS.aloadN X0.here hx rfl (hb hby own_d17_12) rfl rfl k) ?_
  show own_Go _ _ _ _ T0 (mkF m 13 #[.val (.ref a1), .val (.int st), .val (.ref a2), .val (.int 0), .val (.int 3), .val (.int (st + (3 : Int32))), .unset, .unset] [(.ref a1)])
  refine own_st (fun _ k => XS.iloadN X0.here hx rfl (hb hby own_d17_13) rfl k) ?_
  refine own_st (fun _ k => XS.iinc X0.here hx rfl (hb hby own_d17_14) rfl (l' := #[.val (.ref a1), .val (.int (st + (1 : Int32))), .val (.ref a2), .val (.int 0), .val (.int 3), .val (.int (st + (3 : Int32))), .unset, .unset]) rfl k) ?_
  have hj0 : ¬ st < 0 ∧ st < z := ⟨fun q => by have := Int32.lt_iff_toInt_lt.mp q; omega, Int32.lt_iff_toInt_lt.mpr (by omega)⟩
  refine own_st (own_ldB X0 hx hZ e0 (V1.ext O0) (j := st) hj0 (v := (.int (bf st))) (hB _ hj0.1 hj0.2) (g := (mkF m 17 #[.val (.ref a1), .val (.int (st + (1 : Int32))), .val (.ref a2), .val (.int 0), .val (.int 3), .val (.int (st + (3 : Int32))), .unset, .unset] [(.int st), (.ref a1)])) rfl rfl (hb hby own_d17_17)) ?_
  refine own_st (fun _ k => XS.istore X0.here hx rfl (hb hby own_d17_18) rfl (l' := #[.val (.ref a1), .val (.int (st + (1 : Int32))), .val (.ref a2), .val (.int 0), .val (.int 3), .val (.int (st + (3 : Int32))), .val (.int (bf st)), .unset]) rfl k) ?_
  refine own_st (fun _ k => XS.aloadN X0.here hx rfl (hb hby own_d17_20) rfl rfl k) ?_
  refine own_st (fun _ k => XS.iloadN X0.here hx rfl (hb hby own_d17_21) rfl k) ?_
  refine own_st (fun _ k => XS.iinc X0.here hx rfl (hb hby own_d17_22) rfl (l' := #[.val (.ref a1), .val (.int (st + (1 : Int32))), .val (.ref a2), .val (.int ((0 : Int32) + (1 : Int32))), .val (.int 3), .val (.int (st + (3 : Int32))), .val (.int (bf st)), .unset]) rfl k) ?_
  show own_Go _ _ _ _ T0 (mkF m 25 #[.val (.ref a1), .val (.int (st + (1 : Int32))), .val (.ref a2), .val (.int ((0 : Int32) + (1 : Int32))), .val (.int 3), .val (.int (st + (3 : Int32))), .val (.int (bf st)), .unset] [(.int 0), (.ref a2)])
  rw [show ((0 : Int32) + (1 : Int32)) = (1 : Int32) from by decide]
  refine own_st (own_ldB X0 hx hZ e0 (V2.ext O0) (j := (0 : Int32)) (by decide) (v := (.int y0)) rfl (g := (mkF m 25 #[.val (.ref a1), .val (.int (st + (1 : Int32))), .val (.ref a2), .val (.int 1), .val (.int 3), .val (.int (st + (3 : Int32))), .val (.int (bf st)), .unset] [(.int 0), (.ref a2)])) rfl rfl (hb hby own_d17_25)) ?_
  refine own_st (fun _ k => XS.istore X0.here hx rfl (hb hby own_d17_26) rfl (l' := #[.val (.ref a1), .val (.int (st + (1 : Int32))), .val (.ref a2), .val (.int 1), .val (.int 3), .val (.int (st + (3 : Int32))), .val (.int (bf st)), .val (.int y0)]) rfl k) ?_
  refine own_st (fun _ k => XS.iload X0.here hx rfl (hb hby own_d17_28) rfl k) ?_
  refine own_st (fun _ k => XS.iload X0.here hx rfl (hb hby own_d17_30) rfl k) ?_
  obtain ⟨v1, T1, L1, hQ1, X1, st1⟩ := own_callS X0 hx hZ (y := (⟨"java/lang/CharacterDataLatin1", "equalsIgnoreCase", "(BB)Z"⟩ : MethodName)) hown (own_w111 hw) (own_w112 hw) (own_w113 hw) (own_w114 hw) (by decide) (own_eicc l hw [] (bf st) y0 h0 n0 (Nat.le_trans Z0 O0.1)) e0 (g := (mkF m 32 #[.val (.ref a1), .val (.int (st + (1 : Int32))), .val (.ref a2), .val (.int 1), .val (.int 3), .val (.int (st + (3 : Int32))), .val (.int (bf st)), .val (.int y0)] [(.int y0), (.int (bf st))])) rfl (by rw [hml]; rfl) (argsL := [(.int (bf st)), (.int y0)]) (rest := []) (lenOf own_pd10 rfl) rfl rfl (W := 0) (Nat.le_of_eq rfl) (hb hby own_d17_32) (by decide) (by decide) (by decide) (by decide)
  obtain ⟨rfl, N1, e1⟩ := hQ1
  have N1' := Fr.app N0 N1
  refine own_st st1 ?_
  by_cases hq0 : (own_eic (bf st) y0) = (0 : Int32)
  · refine own_st (fun _ k => XS.ifYes X1.here hx rfl (pc0 := 35) (pc' := 41) rfl (hb hby own_d17_35) rfl ((if0 _ _).trans (teq (hq0 : (own_eic (bf st) y0) = (0 : Int32))).1) (by decide) (by decide) k) ?_
    refine own_st (fun _ k => XS.iconst X1.here hx rfl (hb hby own_d17_41) k) ?_
    show own_Go _ _ _ _ T1 (mkF m 42 #[.val (.ref a1), .val (.int (st + (1 : Int32))), .val (.ref a2), .val (.int 1), .val (.int 3), .val (.int (st + (3 : Int32))), .val (.int (bf st)), .val (.int y0)] [(.int 0)])
    exact own_retN X1 hx hret (by simp) hlk (hb hby own_d17_42) ⟨by simp [nar, *], N1', e1⟩ (by decide) (by decide)
  · refine own_st (fun _ k => XS.ifNo X1.here hx rfl (hb hby own_d17_35) rfl ((if0 _ _).trans (feq (hq0 : ¬ ((own_eic (bf st) y0) = (0 : Int32)))).1) k) ?_
    refine own_st (fun _ k => XS.goto X1.here hx rfl (pc0 := 38) (pc' := 6) rfl (hb hby own_d17_38) (by decide) (by decide) k) ?_
    show own_Go _ _ _ _ T1 (mkF m 6 #[.val (.ref a1), .val (.int (st + (1 : Int32))), .val (.ref a2), .val (.int 1), .val (.int 3), .val (.int (st + (3 : Int32))), .val (.int (bf st)), .val (.int y0)] [])
    refine own_st (fun _ k => XS.iloadN X1.here hx rfl (hb hby own_d17_6) rfl k) ?_
    refine own_st (fun _ k => XS.iload X1.here hx rfl (hb hby own_d17_7) rfl k) ?_
    refine own_st (fun _ k => XS.icmpNo X1.here hx rfl (hb hby own_d17_9) rfl (tlt (Int32.lt_iff_toInt_lt.mpr (by omega) : (st + (1 : Int32)) < (st + (3 : Int32)))).2.1 k) ?_
    refine own_st (fun _ k => XS.aloadN X1.here hx rfl (hb hby own_d17_12) rfl rfl k) ?_
    refine own_st (fun _ k => XS.iloadN X1.here hx rfl (hb hby own_d17_13) rfl k) ?_
    refine own_st (fun _ k => XS.iinc X1.here hx rfl (hb hby own_d17_14) rfl (l' := #[.val (.ref a1), .val (.int ((st + (1 : Int32)) + (1 : Int32))), .val (.ref a2), .val (.int 1), .val (.int 3), .val (.int (st + (3 : Int32))), .val (.int (bf st)), .val (.int y0)]) rfl k) ?_
    have hj1 : ¬ (st + (1 : Int32)) < 0 ∧ (st + (1 : Int32)) < z := ⟨fun q => by have := Int32.lt_iff_toInt_lt.mp q; omega, Int32.lt_iff_toInt_lt.mpr (by omega)⟩
    refine own_st (own_ldB X1 hx hZ e1 (V1.ext O0) (j := (st + (1 : Int32))) hj1 (v := (.int (bf (st + (1 : Int32))))) (hB _ hj1.1 hj1.2) (g := (mkF m 17 #[.val (.ref a1), .val (.int ((st + (1 : Int32)) + (1 : Int32))), .val (.ref a2), .val (.int 1), .val (.int 3), .val (.int (st + (3 : Int32))), .val (.int (bf st)), .val (.int y0)] [(.int (st + (1 : Int32))), (.ref a1)])) rfl rfl (hb hby own_d17_17)) ?_
    refine own_st (fun _ k => XS.istore X1.here hx rfl (hb hby own_d17_18) rfl (l' := #[.val (.ref a1), .val (.int ((st + (1 : Int32)) + (1 : Int32))), .val (.ref a2), .val (.int 1), .val (.int 3), .val (.int (st + (3 : Int32))), .val (.int (bf (st + (1 : Int32)))), .val (.int y0)]) rfl k) ?_
    show own_Go _ _ _ _ T1 (mkF m 20 #[.val (.ref a1), .val (.int ((st + (1 : Int32)) + (1 : Int32))), .val (.ref a2), .val (.int 1), .val (.int 3), .val (.int (st + (3 : Int32))), .val (.int (bf (st + (1 : Int32)))), .val (.int y0)] [])
    refine own_st (fun _ k => XS.aloadN X1.here hx rfl (hb hby own_d17_20) rfl rfl k) ?_
    refine own_st (fun _ k => XS.iloadN X1.here hx rfl (hb hby own_d17_21) rfl k) ?_
    refine own_st (fun _ k => XS.iinc X1.here hx rfl (hb hby own_d17_22) rfl (l' := #[.val (.ref a1), .val (.int ((st + (1 : Int32)) + (1 : Int32))), .val (.ref a2), .val (.int ((1 : Int32) + (1 : Int32))), .val (.int 3), .val (.int (st + (3 : Int32))), .val (.int (bf (st + (1 : Int32)))), .val (.int y0)]) rfl k) ?_
    show own_Go _ _ _ _ T1 (mkF m 25 #[.val (.ref a1), .val (.int ((st + (1 : Int32)) + (1 : Int32))), .val (.ref a2), .val (.int ((1 : Int32) + (1 : Int32))), .val (.int 3), .val (.int (st + (3 : Int32))), .val (.int (bf (st + (1 : Int32)))), .val (.int y0)] [(.int 1), (.ref a2)])
    rw [show ((1 : Int32) + (1 : Int32)) = (2 : Int32) from by decide]
    refine own_st (own_ldB X1 hx hZ e1 (V2.ext O0) (j := (1 : Int32)) (by decide) (v := (.int y1)) rfl (g := (mkF m 25 #[.val (.ref a1), .val (.int ((st + (1 : Int32)) + (1 : Int32))), .val (.ref a2), .val (.int 2), .val (.int 3), .val (.int (st + (3 : Int32))), .val (.int (bf (st + (1 : Int32)))), .val (.int y0)] [(.int 1), (.ref a2)])) rfl rfl (hb hby own_d17_25)) ?_
    refine own_st (fun _ k => XS.istore X1.here hx rfl (hb hby own_d17_26) rfl (l' := #[.val (.ref a1), .val (.int ((st + (1 : Int32)) + (1 : Int32))), .val (.ref a2), .val (.int 2), .val (.int 3), .val (.int (st + (3 : Int32))), .val (.int (bf (st + (1 : Int32)))), .val (.int y1)]) rfl k) ?_
    refine own_st (fun _ k => XS.iload X1.here hx rfl (hb hby own_d17_28) rfl k) ?_
    refine own_st (fun _ k => XS.iload X1.here hx rfl (hb hby own_d17_30) rfl k) ?_
    obtain ⟨v2, T2, L2, hQ2, X2, st2⟩ := own_callS X1 hx hZ (y := (⟨"java/lang/CharacterDataLatin1", "equalsIgnoreCase", "(BB)Z"⟩ : MethodName)) hown (own_w111 hw) (own_w112 hw) (own_w113 hw) (own_w114 hw) (by decide) (own_eicc l hw [] (bf (st + (1 : Int32))) y1 h0 n0 (Nat.le_trans Z0 O0.1)) e1 (g := (mkF m 32 #[.val (.ref a1), .val (.int ((st + (1 : Int32)) + (1 : Int32))), .val (.ref a2), .val (.int 2), .val (.int 3), .val (.int (st + (3 : Int32))), .val (.int (bf (st + (1 : Int32)))), .val (.int y1)] [(.int y1), (.int (bf (st + (1 : Int32))))])) rfl (by rw [hml]; rfl) (argsL := [(.int (bf (st + (1 : Int32)))), (.int y1)]) (rest := []) (lenOf own_pd10 rfl) rfl rfl (W := 0) (Nat.le_of_eq rfl) (hb hby own_d17_32) (by decide) (by decide) (by decide) (by decide)
    obtain ⟨rfl, N2, e2⟩ := hQ2
    have N2' := Fr.app N1' N2
    refine own_st st2 ?_
    by_cases hq1 : (own_eic (bf (st + (1 : Int32))) y1) = (0 : Int32)
    · refine own_st (fun _ k => XS.ifYes X2.here hx rfl (pc0 := 35) (pc' := 41) rfl (hb hby own_d17_35) rfl ((if0 _ _).trans (teq (hq1 : (own_eic (bf (st + (1 : Int32))) y1) = (0 : Int32))).1) (by decide) (by decide) k) ?_
      refine own_st (fun _ k => XS.iconst X2.here hx rfl (hb hby own_d17_41) k) ?_
      show own_Go _ _ _ _ T2 (mkF m 42 #[.val (.ref a1), .val (.int ((st + (1 : Int32)) + (1 : Int32))), .val (.ref a2), .val (.int 2), .val (.int 3), .val (.int (st + (3 : Int32))), .val (.int (bf (st + (1 : Int32)))), .val (.int y1)] [(.int 0)])
      exact own_retN X2 hx hret (by simp) hlk (hb hby own_d17_42) ⟨by simp [nar, *], N2', e2⟩ (by decide) (by decide)
    · refine own_st (fun _ k => XS.ifNo X2.here hx rfl (hb hby own_d17_35) rfl ((if0 _ _).trans (feq (hq1 : ¬ ((own_eic (bf (st + (1 : Int32))) y1) = (0 : Int32)))).1) k) ?_
      refine own_st (fun _ k => XS.goto X2.here hx rfl (pc0 := 38) (pc' := 6) rfl (hb hby own_d17_38) (by decide) (by decide) k) ?_
      show own_Go _ _ _ _ T2 (mkF m 6 #[.val (.ref a1), .val (.int ((st + (1 : Int32)) + (1 : Int32))), .val (.ref a2), .val (.int 2), .val (.int 3), .val (.int (st + (3 : Int32))), .val (.int (bf (st + (1 : Int32)))), .val (.int y1)] [])
      refine own_st (fun _ k => XS.iloadN X2.here hx rfl (hb hby own_d17_6) rfl k) ?_
      refine own_st (fun _ k => XS.iload X2.here hx rfl (hb hby own_d17_7) rfl k) ?_
      refine own_st (fun _ k => XS.icmpNo X2.here hx rfl (hb hby own_d17_9) rfl (tlt (Int32.lt_iff_toInt_lt.mpr (by omega) : ((st + (1 : Int32)) + (1 : Int32)) < (st + (3 : Int32)))).2.1 k) ?_
      refine own_st (fun _ k => XS.aloadN X2.here hx rfl (hb hby own_d17_12) rfl rfl k) ?_
      refine own_st (fun _ k => XS.iloadN X2.here hx rfl (hb hby own_d17_13) rfl k) ?_
      refine own_st (fun _ k => XS.iinc X2.here hx rfl (hb hby own_d17_14) rfl (l' := #[.val (.ref a1), .val (.int (((st + (1 : Int32)) + (1 : Int32)) + (1 : Int32))), .val (.ref a2), .val (.int 2), .val (.int 3), .val (.int (st + (3 : Int32))), .val (.int (bf (st + (1 : Int32)))), .val (.int y1)]) rfl k) ?_
      have hj2 : ¬ ((st + (1 : Int32)) + (1 : Int32)) < 0 ∧ ((st + (1 : Int32)) + (1 : Int32)) < z := ⟨fun q => by have := Int32.lt_iff_toInt_lt.mp q; omega, Int32.lt_iff_toInt_lt.mpr (by omega)⟩
      refine own_st (own_ldB X2 hx hZ e2 (V1.ext O0) (j := ((st + (1 : Int32)) + (1 : Int32))) hj2 (v := (.int (bf ((st + (1 : Int32)) + (1 : Int32))))) (hB _ hj2.1 hj2.2) (g := (mkF m 17 #[.val (.ref a1), .val (.int (((st + (1 : Int32)) + (1 : Int32)) + (1 : Int32))), .val (.ref a2), .val (.int 2), .val (.int 3), .val (.int (st + (3 : Int32))), .val (.int (bf (st + (1 : Int32)))), .val (.int y1)] [(.int ((st + (1 : Int32)) + (1 : Int32))), (.ref a1)])) rfl rfl (hb hby own_d17_17)) ?_
      refine own_st (fun _ k => XS.istore X2.here hx rfl (hb hby own_d17_18) rfl (l' := #[.val (.ref a1), .val (.int (((st + (1 : Int32)) + (1 : Int32)) + (1 : Int32))), .val (.ref a2), .val (.int 2), .val (.int 3), .val (.int (st + (3 : Int32))), .val (.int (bf ((st + (1 : Int32)) + (1 : Int32)))), .val (.int y1)]) rfl k) ?_
      show own_Go _ _ _ _ T2 (mkF m 20 #[.val (.ref a1), .val (.int (((st + (1 : Int32)) + (1 : Int32)) + (1 : Int32))), .val (.ref a2), .val (.int 2), .val (.int 3), .val (.int (st + (3 : Int32))), .val (.int (bf ((st + (1 : Int32)) + (1 : Int32)))), .val (.int y1)] [])
      refine own_st (fun _ k => XS.aloadN X2.here hx rfl (hb hby own_d17_20) rfl rfl k) ?_
      refine own_st (fun _ k => XS.iloadN X2.here hx rfl (hb hby own_d17_21) rfl k) ?_
      refine own_st (fun _ k => XS.iinc X2.here hx rfl (hb hby own_d17_22) rfl (l' := #[.val (.ref a1), .val (.int (((st + (1 : Int32)) + (1 : Int32)) + (1 : Int32))), .val (.ref a2), .val (.int ((2 : Int32) + (1 : Int32))), .val (.int 3), .val (.int (st + (3 : Int32))), .val (.int (bf ((st + (1 : Int32)) + (1 : Int32)))), .val (.int y1)]) rfl k) ?_
      show own_Go _ _ _ _ T2 (mkF m 25 #[.val (.ref a1), .val (.int (((st + (1 : Int32)) + (1 : Int32)) + (1 : Int32))), .val (.ref a2), .val (.int ((2 : Int32) + (1 : Int32))), .val (.int 3), .val (.int (st + (3 : Int32))), .val (.int (bf ((st + (1 : Int32)) + (1 : Int32)))), .val (.int y1)] [(.int 2), (.ref a2)])
      rw [show ((2 : Int32) + (1 : Int32)) = (3 : Int32) from by decide]
      refine own_st (own_ldB X2 hx hZ e2 (V2.ext O0) (j := (2 : Int32)) (by decide) (v := (.int y2)) rfl (g := (mkF m 25 #[.val (.ref a1), .val (.int (((st + (1 : Int32)) + (1 : Int32)) + (1 : Int32))), .val (.ref a2), .val (.int 3), .val (.int 3), .val (.int (st + (3 : Int32))), .val (.int (bf ((st + (1 : Int32)) + (1 : Int32)))), .val (.int y1)] [(.int 2), (.ref a2)])) rfl rfl (hb hby own_d17_25)) ?_
      refine own_st (fun _ k => XS.istore X2.here hx rfl (hb hby own_d17_26) rfl (l' := #[.val (.ref a1), .val (.int (((st + (1 : Int32)) + (1 : Int32)) + (1 : Int32))), .val (.ref a2), .val (.int 3), .val (.int 3), .val (.int (st + (3 : Int32))), .val (.int (bf ((st + (1 : Int32)) + (1 : Int32)))), .val (.int y2)]) rfl k) ?_
      refine own_st (fun _ k => XS.iload X2.here hx rfl (hb hby own_d17_28) rfl k) ?_
      refine own_st (fun _ k => XS.iload X2.here hx rfl (hb hby own_d17_30) rfl k) ?_
      obtain ⟨v3, T3, L3, hQ3, X3, st3⟩ := own_callS X2 hx hZ (y := (⟨"java/lang/CharacterDataLatin1", "equalsIgnoreCase", "(BB)Z"⟩ : MethodName)) hown (own_w111 hw) (own_w112 hw) (own_w113 hw) (own_w114 hw) (by decide) (own_eicc l hw [] (bf ((st + (1 : Int32)) + (1 : Int32))) y2 h0 n0 (Nat.le_trans Z0 O0.1)) e2 (g := (mkF m 32 #[.val (.ref a1), .val (.int (((st + (1 : Int32)) + (1 : Int32)) + (1 : Int32))), .val (.ref a2), .val (.int 3), .val (.int 3), .val (.int (st + (3 : Int32))), .val (.int (bf ((st + (1 : Int32)) + (1 : Int32)))), .val (.int y2)] [(.int y2), (.int (bf ((st + (1 : Int32)) + (1 : Int32))))])) rfl (by rw [hml]; rfl) (argsL := [(.int (bf ((st + (1 : Int32)) + (1 : Int32)))), (.int y2)]) (rest := []) (lenOf own_pd10 rfl) rfl rfl (W := 0) (Nat.le_of_eq rfl) (hb hby own_d17_32) (by decide) (by decide) (by decide) (by decide)
      obtain ⟨rfl, N3, e3⟩ := hQ3
      have N3' := Fr.app N2' N3
      refine own_st st3 ?_
      by_cases hq2 : (own_eic (bf ((st + (1 : Int32)) + (1 : Int32))) y2) = (0 : Int32)
      · refine own_st (fun _ k => XS.ifYes X3.here hx rfl (pc0 := 35) (pc' := 41) rfl (hb hby own_d17_35) rfl ((if0 _ _).trans (teq (hq2 : (own_eic (bf ((st + (1 : Int32)) + (1 : Int32))) y2) = (0 : Int32))).1) (by decide) (by decide) k) ?_
        refine own_st (fun _ k => XS.iconst X3.here hx rfl (hb hby own_d17_41) k) ?_
        show own_Go _ _ _ _ T3 (mkF m 42 #[.val (.ref a1), .val (.int (((st + (1 : Int32)) + (1 : Int32)) + (1 : Int32))), .val (.ref a2), .val (.int 3), .val (.int 3), .val (.int (st + (3 : Int32))), .val (.int (bf ((st + (1 : Int32)) + (1 : Int32)))), .val (.int y2)] [(.int 0)])
        exact own_retN X3 hx hret (by simp) hlk (hb hby own_d17_42) ⟨by simp [nar, *], N3', e3⟩ (by decide) (by decide)
      · refine own_st (fun _ k => XS.ifNo X3.here hx rfl (hb hby own_d17_35) rfl ((if0 _ _).trans (feq (hq2 : ¬ ((own_eic (bf ((st + (1 : Int32)) + (1 : Int32))) y2) = (0 : Int32)))).1) k) ?_
        refine own_st (fun _ k => XS.goto X3.here hx rfl (pc0 := 38) (pc' := 6) rfl (hb hby own_d17_38) (by decide) (by decide) k) ?_
        show own_Go _ _ _ _ T3 (mkF m 6 #[.val (.ref a1), .val (.int (((st + (1 : Int32)) + (1 : Int32)) + (1 : Int32))), .val (.ref a2), .val (.int 3), .val (.int 3), .val (.int (st + (3 : Int32))), .val (.int (bf ((st + (1 : Int32)) + (1 : Int32)))), .val (.int y2)] [])
        refine own_st (fun _ k => XS.iloadN X3.here hx rfl (hb hby own_d17_6) rfl k) ?_
        refine own_st (fun _ k => XS.iload X3.here hx rfl (hb hby own_d17_7) rfl k) ?_
        refine own_st (fun _ k => XS.icmpYes X3.here hx rfl (pc0 := 9) (pc' := 43) rfl (hb hby own_d17_9) rfl (flt (fun q => by have := Int32.lt_iff_toInt_lt.mp q; omega : ¬ ((((st + (1 : Int32)) + (1 : Int32)) + (1 : Int32)) < (st + (3 : Int32))))).2.1 (by decide) (by decide) k) ?_
        refine own_st (fun _ k => XS.iconst X3.here hx rfl (hb hby own_d17_43) k) ?_
        exact own_retN X3 hx hret (by simp) hlk (hb hby own_d17_44) ⟨by simp [nar, *], N3', e3⟩ (by decide) (by decide)
theorem own_nzz3 (e0 e1 e2 : Int32) : nar .boolean (if e0 = 0 then (0 : Int32) else (if e1 = 0 then (0 : Int32) else (if e2 = 0 then (0 : Int32) else (1 : Int32)))) = (if e0 = 0 then (0 : Int32) else (if e1 = 0 then (0 : Int32) else (if e2 = 0 then (0 : Int32) else (1 : Int32)))) := by
  repeat' split
  all_goals decide
def own_rm3_Q (Z : State) (a1 a2 v1 v2 : Addr) (p0 st p1 p2 z cs : Int32) (k1 k2 : ClassId) (vs : List Value) (bf : Int32 → Int32) (y0 y1 y2 : Int32) (h0 : Heap) (n0 : Nat) (v : Option Value) (h : Heap) (L : List Loc) : Prop := v = some (.int (if st < 0 then (0 : Int32) else if (0 : Int32) < lcmpW st.toInt64 (z.toInt64 - (3 : Int64)) then (0 : Int32) else (if own_eic (bf st) y0 = 0 then (0 : Int32) else (if own_eic (bf (st + (1 : Int32))) y1 = 0 then (0 : Int32) else (if own_eic (bf ((st + (1 : Int32)) + (1 : Int32))) y2 = 0 then (0 : Int32) else (1 : Int32)))))) ∧ Fr n0 L ∧ h = h0
set_option maxRecDepth 65536 in
set_option maxHeartbeats 40000000 in
theorem own_rm3 (l : Launch) {Z : State} {a0 : Array Value} (hw : own_W Z a0) (ws : List Jvm.Cond) (a1 a2 v1 v2 : Addr) (p0 st p1 p2 z cs : Int32) (k1 k2 : ClassId) (vs : List Value) (bf : Int32 → Int32) (y0 y1 y2 : Int32) (h0 : Heap) (n0 : Nat) (Z0 : n0 ≤ h0.size) (hp0 : p0 = 1) (hp1 : p1 = 0) (hp2 : p2 = (3 : Int32)) (zb : z.toInt ≤ 5) (Scs : Sta Z h0 "java/lang/String" "COMPACT_STRINGS" "Z" (.int cs)) (hcs : ¬ cs = 0) (E1 : Exa Z h0 a1 "java/lang/String") (Fv1 : Fld Z h0 a1 "java/lang/String" "value" "[B" (.ref v1)) (Fc1 : Fld Z h0 a1 "java/lang/String" "coder" "B" (.int 0)) (V1 : Arv Z h0 v1 k1 .byte z vs (.int 0)) (hB : ∀ j : Int32, ¬ j < 0 → j < z → vs.getD j.toNatClampNeg (.int 0) = .int (bf j)) (E2 : Exa Z h0 a2 "java/lang/String") (Fv2 : Fld Z h0 a2 "java/lang/String" "value" "[B" (.ref v2)) (Fc2 : Fld Z h0 a2 "java/lang/String" "coder" "B" (.int 0)) (V2 : Arv Z h0 v2 k2 .byte (3 : Int32) [(.int y0), (.int y1), (.int y2)] (.int 0)) :
    MetFree l (⟨"java/lang/String", "regionMatches", "(ZILjava/lang/String;II)Z"⟩ : MethodName) (head1 (Jvm.Cond.code (⟨"java/lang/String", "regionMatches", "(ZILjava/lang/String;II)Z"⟩ : MethodName) jdk_42_method_74_code 9 (some .boolean) :: ws) ({ frames := 2, cells := 0, slots := 0, locals := 33 } : Room)) (fun a U => a = #[(.ref a1), (.int p0), (.int st), (.ref a2), (.int p1), (.int p2)] ∧ Z.Warmed39 U.vm ∧ U.heap = h0) (fun _ _ _ _ _ => True) (fun _ U o U' => ∃ v L, o = .returned v ∧ own_rm3_Q Z a1 a2 v1 v2 p0 st p1 p2 z cs k1 k2 vs bf y0 y1 y2 h0 n0 v U'.heap L ∧ FrameEnd U o U' L ({ frames := 2, cells := 0, slots := 0, locals := 33 } : Room).cells ({ frames := 2, cells := 0, slots := 0, locals := 33 } : Room).slots) := by
  refine own_enter (C := ({ frames := 2, cells := 0, slots := 0, locals := 33 } : Room).cells) (S := ({ frames := 2, cells := 0, slots := 0, locals := 33 } : Room).slots) (plainFor_of_name own_pn1) ?_
  intro p e s m below meth c T0 X0 I e0
  obtain ⟨hx, hby, hml, hown, hnm, hret, hlk, hZ⟩ := I
  have N0 := Fr.nil n0
  have O0 := own_extr h0
  refine own_cast (own_ef15 m a1 p0 st a2 p1 p2) ?_
  show own_Go _ _ _ _ T0 (mkF m 0 #[.val (.ref a1), .val (.int p0), .val (.int st), .val (.ref a2), .val (.int p1), .val (.int p2), .unset, .unset, .unset] [])
  rw [hp0, hp1, hp2]
  show own_Go _ _ _ _ T0 (mkF m 0 #[.val (.ref a1), .val (.int 1), .val (.int st), .val (.ref a2), .val (.int 0), .val (.int 3), .unset, .unset, .unset] [])
  refine own_st (fun _ k => XS.iloadN X0.here hx rfl (hb hby own_d15_0) rfl k) ?_
  refine own_st (fun _ k => XS.ifYes X0.here hx rfl (pc0 := 1) (pc' := 15) rfl (hb hby own_d15_1) rfl ((if0 _ _).trans (feq (by decide : ¬ ((1 : Int32) = (0 : Int32)))).2) (by decide) (by decide) k) ?_
  refine own_st (fun _ k => XS.iload X0.here hx rfl (hb hby own_d15_15) rfl k) ?_
  refine own_st (fun _ k => XS.ifNo X0.here hx rfl (hb hby own_d15_17) rfl ((if0 _ _).trans (flt (by decide : ¬ ((0 : Int32) < (0 : Int32)))).1) k) ?_
  refine own_st (fun _ k => XS.iloadN X0.here hx rfl (hb hby own_d15_20) rfl k) ?_
  by_cases h1 : st < (0 : Int32)
  · refine own_st (fun _ k => XS.ifYes X0.here hx rfl (pc0 := 21) (pc' := 55) rfl (hb hby own_d15_21) rfl ((if0 _ _).trans (tlt (h1 : st < (0 : Int32))).1) (by decide) (by decide) k) ?_
    refine own_st (fun _ k => XS.iconst X0.here hx rfl (hb hby own_d15_55) k) ?_
    exact own_retN X0 hx hret (by simp) hlk (hb hby own_d15_56) ⟨by rw [if_pos h1]; first | done | rfl, N0, e0⟩ (by decide) (by decide)
  · refine own_st (fun _ k => XS.ifNo X0.here hx rfl (hb hby own_d15_21) rfl ((if0 _ _).trans (flt (h1 : ¬ (st < (0 : Int32)))).1) k) ?_
    refine own_st (fun _ k => XS.iloadN X0.here hx rfl (hb hby own_d15_24) rfl k) ?_
    refine own_st (fun _ k => XS.i2l X0.here hx rfl (hb hby own_d15_25) rfl k) ?_
    show own_Go _ _ _ _ T0 (mkF m 26 #[.val (.ref a1), .val (.int 1), .val (.int st), .val (.ref a2), .val (.int 0), .val (.int 3), .unset, .unset, .unset] [(.long (st.toInt64))])
    refine own_st (fun _ k => XS.aloadN X0.here hx rfl (hb hby own_d15_26) rfl rfl k) ?_
    obtain ⟨v1, T1, L1, hQ1, X1, st1⟩ := own_callV X0 hx hZ (y := (⟨"java/lang/String", "length", "()I"⟩ : MethodName)) hown (own_w106 hw) (own_w73 hw) (own_w75 hw) (own_w74 hw) (own_w11 hw) (own_w76 hw) (by decide) (own_len_ l hw [] a1 v1 cs z k1 vs h0 n0 (Nat.le_trans Z0 O0.1) (Scs.ext O0) hcs (E1.ext O0) (Fv1.ext O0) (Fc1.ext O0) (V1.ext O0)) e0 (E1.ext O0) (g := (mkF m 27 #[.val (.ref a1), .val (.int 1), .val (.int st), .val (.ref a2), .val (.int 0), .val (.int 3), .unset, .unset, .unset] [(.ref a1), (.long (st.toInt64))])) rfl (by rw [hml]; rfl) (argsL := []) (rest := [(.long (st.toInt64))]) (lenOf own_pd7 rfl) rfl rfl (W := 2) (Nat.le_of_eq rfl) (hb hby own_d15_27) (by decide) (by decide) (by decide) (by decide)
    obtain ⟨rfl, N1, e1⟩ := hQ1
    have N1' := Fr.app N0 N1
    refine own_st st1 ?_
    refine own_st (fun _ k => XS.i2l X1.here hx rfl (hb hby own_d15_30) rfl k) ?_
    refine own_st (fun _ k => XS.iload X1.here hx rfl (hb hby own_d15_31) rfl k) ?_
    refine own_st (fun _ k => XS.i2l X1.here hx rfl (hb hby own_d15_33) rfl k) ?_
    show own_Go _ _ _ _ T1 (mkF m 34 #[.val (.ref a1), .val (.int 1), .val (.int st), .val (.ref a2), .val (.int 0), .val (.int 3), .unset, .unset, .unset] [(.long ((3 : Int32).toInt64)), (.long (z.toInt64)), (.long (st.toInt64))])
    rw [show ((3 : Int32).toInt64) = (3 : Int64) from by decide]
    refine own_st (fun _ k => XS.lsub X1.here hx rfl (hb hby own_d15_34) rfl k) ?_
    refine own_st (fun _ k => XS.lcmp X1.here hx rfl (hb hby own_d15_35) rfl k) ?_
    by_cases h2 : (0 : Int32) < (lcmpW (st.toInt64) ((z.toInt64) - (3 : Int64)))
    · refine own_st (fun _ k => XS.ifYes X1.here hx rfl (pc0 := 36) (pc' := 55) rfl (hb hby own_d15_36) rfl ((if0 _ _).trans (tlt (h2 : (0 : Int32) < (lcmpW (st.toInt64) ((z.toInt64) - (3 : Int64))))).2.2.1) (by decide) (by decide) k) ?_
      refine own_st (fun _ k => XS.iconst X1.here hx rfl (hb hby own_d15_55) k) ?_
      exact own_retN X1 hx hret (by simp) hlk (hb hby own_d15_56) ⟨by rw [if_neg h1, if_pos h2]; first | done | rfl, N1', e1⟩ (by decide) (by decide)
    · refine own_st (fun _ k => XS.ifNo X1.here hx rfl (hb hby own_d15_36) rfl ((if0 _ _).trans (flt (h2 : ¬ ((0 : Int32) < (lcmpW (st.toInt64) ((z.toInt64) - (3 : Int64)))))).2.2.1) k) ?_
      refine own_st (fun _ k => XS.iload X1.here hx rfl (hb hby own_d15_39) rfl k) ?_
      refine own_st (fun _ k => XS.i2l X1.here hx rfl (hb hby own_d15_41) rfl k) ?_
      show own_Go _ _ _ _ T1 (mkF m 42 #[.val (.ref a1), .val (.int 1), .val (.int st), .val (.ref a2), .val (.int 0), .val (.int 3), .unset, .unset, .unset] [(.long ((0 : Int32).toInt64))])
      rw [show ((0 : Int32).toInt64) = (0 : Int64) from by decide]
      refine own_st (fun _ k => XS.aloadN X1.here hx rfl (hb hby own_d15_42) rfl rfl k) ?_
      obtain ⟨v2, T2, L2, hQ2, X2, st2⟩ := own_callV X1 hx hZ (y := (⟨"java/lang/String", "length", "()I"⟩ : MethodName)) hown (own_w106 hw) (own_w73 hw) (own_w75 hw) (own_w74 hw) (own_w11 hw) (own_w76 hw) (by decide) (own_len_ l hw [] a2 v2 cs (3 : Int32) k2 [(.int y0), (.int y1), (.int y2)] h0 n0 (Nat.le_trans Z0 O0.1) (Scs.ext O0) hcs (E2.ext O0) (Fv2.ext O0) (Fc2.ext O0) (V2.ext O0)) e1 (E2.ext O0) (g := (mkF m 43 #[.val (.ref a1), .val (.int 1), .val (.int st), .val (.ref a2), .val (.int 0), .val (.int 3), .unset, .unset, .unset] [(.ref a2), (.long (0 : Int64))])) rfl (by rw [hml]; rfl) (argsL := []) (rest := [(.long (0 : Int64))]) (lenOf own_pd7 rfl) rfl rfl (W := 2) (Nat.le_of_eq rfl) (hb hby own_d15_43) (by decide) (by decide) (by decide) (by decide)
      obtain ⟨rfl, N2, e2⟩ := hQ2
      have N2' := Fr.app N1' N2
      refine own_st st2 ?_
      refine own_st (fun _ k => XS.i2l X2.here hx rfl (hb hby own_d15_46) rfl k) ?_
      show own_Go _ _ _ _ T2 (mkF m 47 #[.val (.ref a1), .val (.int 1), .val (.int st), .val (.ref a2), .val (.int 0), .val (.int 3), .unset, .unset, .unset] [(.long ((3 : Int32).toInt64)), (.long (0 : Int64))])
      rw [show ((3 : Int32).toInt64) = (3 : Int64) from by decide]
      refine own_st (fun _ k => XS.iload X2.here hx rfl (hb hby own_d15_47) rfl k) ?_
      refine own_st (fun _ k => XS.i2l X2.here hx rfl (hb hby own_d15_49) rfl k) ?_
      show own_Go _ _ _ _ T2 (mkF m 50 #[.val (.ref a1), .val (.int 1), .val (.int st), .val (.ref a2), .val (.int 0), .val (.int 3), .unset, .unset, .unset] [(.long ((3 : Int32).toInt64)), (.long (3 : Int64)), (.long (0 : Int64))])
      rw [show ((3 : Int32).toInt64) = (3 : Int64) from by decide]
      refine own_st (fun _ k => XS.lsub X2.here hx rfl (hb hby own_d15_50) rfl k) ?_
      show own_Go _ _ _ _ T2 (mkF m 51 #[.val (.ref a1), .val (.int 1), .val (.int st), .val (.ref a2), .val (.int 0), .val (.int 3), .unset, .unset, .unset] [(.long ((3 : Int64) - (3 : Int64))), (.long (0 : Int64))])
      rw [show ((3 : Int64) - (3 : Int64)) = (0 : Int64) from by decide]
      refine own_st (fun _ k => XS.lcmp X2.here hx rfl (hb hby own_d15_51) rfl k) ?_
      refine own_st (fun _ k => XS.ifYes X2.here hx rfl (pc0 := 52) (pc' := 57) rfl (hb hby own_d15_52) rfl ((if0 _ _).trans (flt (by decide : ¬ ((0 : Int32) < (lcmpW (0 : Int64) (0 : Int64))))).2.2.2) (by decide) (by decide) k) ?_
      refine own_st (fun _ k => XS.aloadN X2.here hx rfl (hb hby own_d15_57) rfl rfl k) ?_
      obtain ⟨T3, X3, e3, st3⟩ := getF X2 hx hZ hown (host := "") (Or.inl (own_w36 hw)) Via.refl e2 (Fv1.ext O0) (g := (mkF m 58 #[.val (.ref a1), .val (.int 1), .val (.int st), .val (.ref a2), .val (.int 0), .val (.int 3), .unset, .unset, .unset] [(.ref a1)])) rfl rfl (hb hby own_d15_58)
      refine own_st st3 ?_
      refine own_st (fun _ k => XS.astore X3.here hx rfl (hb hby own_d15_61) rfl rfl (l' := #[.val (.ref a1), .val (.int 1), .val (.int st), .val (.ref a2), .val (.int 0), .val (.int 3), .val (.ref v1), .unset, .unset]) rfl k) ?_
      refine own_st (fun _ k => XS.aloadN X3.here hx rfl (hb hby own_d15_63) rfl rfl k) ?_
      obtain ⟨T4, X4, e4, st4⟩ := getF X3 hx hZ hown (host := "") (Or.inl (own_w36 hw)) Via.refl e3 (Fv2.ext O0) (g := (mkF m 64 #[.val (.ref a1), .val (.int 1), .val (.int st), .val (.ref a2), .val (.int 0), .val (.int 3), .val (.ref v1), .unset, .unset] [(.ref a2)])) rfl rfl (hb hby own_d15_64)
      refine own_st st4 ?_
      show own_Go _ _ _ _ T4 (mkF m 67 #[.val (.ref a1), .val (.int 1), .val (.int st), .val (.ref a2), .val (.int 0), .val (.int 3), .val (.ref v1), .unset, .unset] [(.ref v2)])
      refine own_st (fun _ k => XS.astore X4.here hx rfl (hb hby own_d15_67) rfl rfl (l' := #[.val (.ref a1), .val (.int 1), .val (.int st), .val (.ref a2), .val (.int 0), .val (.int 3), .val (.ref v1), .val (.ref v2), .unset]) rfl k) ?_
      refine own_st (fun _ k => XS.aloadN X4.here hx rfl (hb hby own_d15_69) rfl rfl k) ?_
      obtain ⟨v5, T5, L5, hQ5, X5, st5⟩ := own_callV X4 hx hZ (y := (⟨"java/lang/String", "coder", "()B"⟩ : MethodName)) hown (own_w77 hw) (own_w78 hw) (own_w80 hw) (own_w79 hw) (own_w11 hw) (own_w81 hw) (by decide) (own_co l hw [] a1 cs h0 n0 (Nat.le_trans Z0 O0.1) (Scs.ext O0) hcs (Fc1.ext O0)) e4 (E1.ext O0) (g := (mkF m 70 #[.val (.ref a1), .val (.int 1), .val (.int st), .val (.ref a2), .val (.int 0), .val (.int 3), .val (.ref v1), .val (.ref v2), .unset] [(.ref a1)])) rfl (by rw [hml]; rfl) (argsL := []) (rest := []) (lenOf own_pd6 rfl) rfl rfl (W := 0) (Nat.le_of_eq rfl) (hb hby own_d15_70) (by decide) (by decide) (by decide) (by decide)
      obtain ⟨rfl, N5, e5⟩ := hQ5
      have N5' := Fr.app N2' N5
      refine own_st st5 ?_
      refine own_st (fun _ k => XS.istore X5.here hx rfl (hb hby own_d15_73) rfl (l' := #[.val (.ref a1), .val (.int 1), .val (.int st), .val (.ref a2), .val (.int 0), .val (.int 3), .val (.ref v1), .val (.ref v2), .val (.int 0)]) rfl k) ?_
      refine own_st (fun _ k => XS.iload X5.here hx rfl (hb hby own_d15_75) rfl k) ?_
      refine own_st (fun _ k => XS.aloadN X5.here hx rfl (hb hby own_d15_77) rfl rfl k) ?_
      obtain ⟨v6, T6, L6, hQ6, X6, st6⟩ := own_callV X5 hx hZ (y := (⟨"java/lang/String", "coder", "()B"⟩ : MethodName)) hown (own_w77 hw) (own_w78 hw) (own_w80 hw) (own_w79 hw) (own_w11 hw) (own_w81 hw) (by decide) (own_co l hw [] a2 cs h0 n0 (Nat.le_trans Z0 O0.1) (Scs.ext O0) hcs (Fc2.ext O0)) e5 (E2.ext O0) (g := (mkF m 78 #[.val (.ref a1), .val (.int 1), .val (.int st), .val (.ref a2), .val (.int 0), .val (.int 3), .val (.ref v1), .val (.ref v2), .val (.int 0)] [(.ref a2), (.int 0)])) rfl (by rw [hml]; rfl) (argsL := []) (rest := [(.int 0)]) (lenOf own_pd6 rfl) rfl rfl (W := 1) (Nat.le_of_eq rfl) (hb hby own_d15_78) (by decide) (by decide) (by decide) (by decide)
      obtain ⟨rfl, N6, e6⟩ := hQ6
      have N6' := Fr.app N5' N6
      refine own_st st6 ?_
      refine own_st (fun _ k => XS.icmpNo X6.here hx rfl (hb hby own_d15_81) rfl (teq (by decide : (0 : Int32) = (0 : Int32))).2 k) ?_
      show own_Go _ _ _ _ T6 (mkF m 84 #[.val (.ref a1), .val (.int 1), .val (.int st), .val (.ref a2), .val (.int 0), .val (.int 3), .val (.ref v1), .val (.ref v2), .val (.int 0)] [])
      refine own_st (fun _ k => XS.iload X6.here hx rfl (hb hby own_d15_84) rfl k) ?_
      refine own_st (fun _ k => XS.ifNo X6.here hx rfl (hb hby own_d15_86) rfl ((if0 _ _).trans (teq (by decide : (0 : Int32) = (0 : Int32))).2) k) ?_
      refine own_st (fun _ k => XS.aload X6.here hx rfl (hb hby own_d15_89) rfl rfl k) ?_
      refine own_st (fun _ k => XS.iloadN X6.here hx rfl (hb hby own_d15_91) rfl k) ?_
      refine own_st (fun _ k => XS.aload X6.here hx rfl (hb hby own_d15_92) rfl rfl k) ?_
      refine own_st (fun _ k => XS.iload X6.here hx rfl (hb hby own_d15_94) rfl k) ?_
      refine own_st (fun _ k => XS.iload X6.here hx rfl (hb hby own_d15_96) rfl k) ?_
      have b0 : 0 ≤ st.toInt := by
        have z0 : (0 : Int32).toInt = 0 := by decide
        have : ¬ st.toInt < (0 : Int32).toInt := fun q => h1 (Int32.lt_iff_toInt_lt.mpr q)
        omega
      have b1 : st.toInt + 3 ≤ z.toInt := by
        have q : ¬ (z.toInt64 - (3 : Int64)).toInt < st.toInt64.toInt := fun q => h2 ((lw_gt _ _).mpr (Int64.lt_iff_toInt_lt.mpr q))
        have q1 := c_lsub z.toInt64 (3 : Int64)
        have q2 := rng64 (z.toInt64 - (3 : Int64))
        have q3 := rng32 z
        have q4 : ((3 : Int64)).toInt = 3 := by decide
        rw [c_i2l] at q q1
        omega
      obtain ⟨v7, T7, L7, hQ7, X7, st7⟩ := own_callS X6 hx hZ (y := (⟨"java/lang/StringLatin1", "regionMatchesCI", "([BI[BII)Z"⟩ : MethodName)) hown (own_w107 hw) (own_w108 hw) (own_w109 hw) (own_w110 hw) (by decide) (own_ci3 l hw [] v1 v2 st (0 : Int32) (3 : Int32) z k1 k2 vs bf y0 y1 y2 h0 n0 (Nat.le_trans Z0 O0.1) rfl rfl b0 b1 zb (V1.ext O0) hB (V2.ext O0)) e6 (g := (mkF m 98 #[.val (.ref a1), .val (.int 1), .val (.int st), .val (.ref a2), .val (.int 0), .val (.int 3), .val (.ref v1), .val (.ref v2), .val (.int 0)] [(.int 3), (.int 0), (.ref v2), (.int st), (.ref v1)])) rfl (by rw [hml]; rfl) (argsL := [(.ref v1), (.int st), (.ref v2), (.int 0), (.int 3)]) (rest := []) (lenOf own_pd8 rfl) rfl rfl (W := 0) (Nat.le_of_eq rfl) (hb hby own_d15_98) (by decide) (by decide) (by decide) (by decide)
      obtain ⟨rfl, N7, e7⟩ := hQ7
      have N7' := Fr.app N6' N7
      refine own_st st7 ?_
      show own_Go _ _ _ _ T7 (mkF m 101 #[.val (.ref a1), .val (.int 1), .val (.int st), .val (.ref a2), .val (.int 0), .val (.int 3), .val (.ref v1), .val (.ref v2), .val (.int 0)] [(.int (if own_eic (bf st) y0 = 0 then (0 : Int32) else (if own_eic (bf (st + (1 : Int32))) y1 = 0 then (0 : Int32) else (if own_eic (bf ((st + (1 : Int32)) + (1 : Int32))) y2 = 0 then (0 : Int32) else (1 : Int32)))))])
      refine own_st (fun _ k => XS.goto X7.here hx rfl (pc0 := 101) (pc' := 116) rfl (hb hby own_d15_101) (by decide) (by decide) k) ?_
      exact own_retN X7 hx hret (by simp) hlk (hb hby own_d15_116) ⟨by rw [if_neg h1, if_neg h2]; exact congrArg (fun q => some (Value.int q)) (own_nzz3 _ _ _), N7', e7⟩ (by decide) (by decide)
theorem own_r01_3 {P Q : Prop} [Decidable P] [Decidable Q] {e0 e1 e2 : Int32} (h : ¬ (if P then (0 : Int32) else if Q then (0 : Int32) else (if e0 = 0 then (0 : Int32) else (if e1 = 0 then (0 : Int32) else (if e2 = 0 then (0 : Int32) else (1 : Int32))))) = 0) : (if P then (0 : Int32) else if Q then (0 : Int32) else (if e0 = 0 then (0 : Int32) else (if e1 = 0 then (0 : Int32) else (if e2 = 0 then (0 : Int32) else (1 : Int32))))) = 1 := by
  revert h
  repeat' split
  all_goals simp
def own_is3_Q (Z : State) (ta a1 wk2 a2 wk v1 v2 : Addr) (st en z cs : Int32) (k1 k2 : ClassId) (vs : List Value) (bf : Int32 → Int32) (y0 y1 y2 : Int32) (h0 : Heap) (n0 : Nat) (v : Option Value) (h : Heap) (L : List Loc) : Prop := v = some (.int (if wk = wk2 then (if en - st = (3 : Int32) then (if st < 0 then (0 : Int32) else if (0 : Int32) < lcmpW st.toInt64 (z.toInt64 - (3 : Int64)) then (0 : Int32) else (if own_eic (bf st) y0 = 0 then (0 : Int32) else (if own_eic (bf (st + (1 : Int32))) y1 = 0 then (0 : Int32) else (if own_eic (bf ((st + (1 : Int32)) + (1 : Int32))) y2 = 0 then (0 : Int32) else (1 : Int32))))) else (0 : Int32)) else (0 : Int32))) ∧ Fr n0 L ∧ h = h0
set_option maxRecDepth 65536 in
set_option maxHeartbeats 40000000 in
theorem own_is3 (l : Launch) {Z : State} {a0 : Array Value} (hw : own_W Z a0) (ws : List Jvm.Cond) (ta a1 wk2 a2 wk v1 v2 : Addr) (st en z cs : Int32) (k1 k2 : ClassId) (vs : List Value) (bf : Int32 → Int32) (y0 y1 y2 : Int32) (h0 : Heap) (n0 : Nat) (Z0 : n0 ≤ h0.size) (zb : z.toInt ≤ 5) (Fk : Fld Z h0 ta "com/example/isoscope/isoscope/SqlLexer$Token" "kind" "Lcom/example/isoscope/isoscope/SqlLexer$Kind;" (.ref wk)) (Fst : Fld Z h0 ta "com/example/isoscope/isoscope/SqlLexer$Token" "start" "I" (.int st)) (Fen : Fld Z h0 ta "com/example/isoscope/isoscope/SqlLexer$Token" "end" "I" (.int en)) (Scs : Sta Z h0 "java/lang/String" "COMPACT_STRINGS" "Z" (.int cs)) (hcs : ¬ cs = 0) (E1 : Exa Z h0 a1 "java/lang/String") (Fv1 : Fld Z h0 a1 "java/lang/String" "value" "[B" (.ref v1)) (Fc1 : Fld Z h0 a1 "java/lang/String" "coder" "B" (.int 0)) (V1 : Arv Z h0 v1 k1 .byte z vs (.int 0)) (hB : ∀ j : Int32, ¬ j < 0 → j < z → vs.getD j.toNatClampNeg (.int 0) = .int (bf j)) (E2 : Exa Z h0 a2 "java/lang/String") (Fv2 : Fld Z h0 a2 "java/lang/String" "value" "[B" (.ref v2)) (Fc2 : Fld Z h0 a2 "java/lang/String" "coder" "B" (.int 0)) (V2 : Arv Z h0 v2 k2 .byte (3 : Int32) [(.int y0), (.int y1), (.int y2)] (.int 0)) :
    MetFree l (⟨"com/example/isoscope/isoscope/SqlLexer$Token", "is", "(Ljava/lang/String;Lcom/example/isoscope/isoscope/SqlLexer$Kind;Ljava/lang/String;)Z"⟩ : MethodName) (head1 (Jvm.Cond.code (⟨"com/example/isoscope/isoscope/SqlLexer$Token", "is", "(Ljava/lang/String;Lcom/example/isoscope/isoscope/SqlLexer$Kind;Ljava/lang/String;)Z"⟩ : MethodName) prog_29_method_2_code 4 (some .boolean) :: ws) ({ frames := 3, cells := 0, slots := 0, locals := 53 } : Room)) (fun a U => a = #[(.ref ta), (.ref a1), (.ref wk2), (.ref a2)] ∧ Z.Warmed39 U.vm ∧ U.heap = h0) (fun _ _ _ _ _ => True) (fun _ U o U' => ∃ v L, o = .returned v ∧ own_is3_Q Z ta a1 wk2 a2 wk v1 v2 st en z cs k1 k2 vs bf y0 y1 y2 h0 n0 v U'.heap L ∧ FrameEnd U o U' L ({ frames := 3, cells := 0, slots := 0, locals := 53 } : Room).cells ({ frames := 3, cells := 0, slots := 0, locals := 53 } : Room).slots) := by
  refine own_enter (C := ({ frames := 3, cells := 0, slots := 0, locals := 53 } : Room).cells) (S := ({ frames := 3, cells := 0, slots := 0, locals := 53 } : Room).slots) (plainFor_of_name own_pn4) ?_
  intro p e s m below meth c T0 X0 I e0
  obtain ⟨hx, hby, hml, hown, hnm, hret, hlk, hZ⟩ := I
  have N0 := Fr.nil n0
  have O0 := own_extr h0
  refine own_cast (own_ef12 m ta a1 wk2 a2) ?_
  show own_Go _ _ _ _ T0 (mkF m 0 #[.val (.ref ta), .val (.ref a1), .val (.ref wk2), .val (.ref a2)] [])
  refine own_st (fun _ k => XS.aloadN X0.here hx rfl (hb hby own_d12_0) rfl rfl k) ?_
  obtain ⟨T1, X1, e1, st1⟩ := getF X0 hx hZ hown (host := "") (Or.inl (own_w59 hw)) Via.refl e0 (Fk.ext O0) (g := (mkF m 1 #[.val (.ref ta), .val (.ref a1), .val (.ref wk2), .val (.ref a2)] [(.ref ta)])) rfl rfl (hb hby own_d12_1)
  refine own_st st1 ?_
  refine own_st (fun _ k => XS.aloadN X1.here hx rfl (hb hby own_d12_4) rfl rfl k) ?_
  by_cases h1 : wk = wk2
  · refine own_st (fun _ k => Jvm.RoadKit.acmp (g := (mkF m 5 #[.val (.ref ta), .val (.ref a1), .val (.ref wk2), .val (.ref a2)] [(.ref wk2), (.ref wk)])) X1 hx rfl rfl rfl (pc0 := 5) (pc' := 8) (same := true) rfl (hb hby own_d12_5) rfl (decide_eq_true (congrArg Value.ref h1)) (by decide) (by decide) k) ?_
    refine own_st (fun _ k => XS.aloadN X1.here hx rfl (hb hby own_d12_8) rfl rfl k) ?_
    obtain ⟨T2, X2, e2, st2⟩ := getF X1 hx hZ hown (host := "") (Or.inl (own_w63 hw)) Via.refl e1 (Fen.ext O0) (g := (mkF m 9 #[.val (.ref ta), .val (.ref a1), .val (.ref wk2), .val (.ref a2)] [(.ref ta)])) rfl rfl (hb hby own_d12_9)
    refine own_st st2 ?_
    refine own_st (fun _ k => XS.aloadN X2.here hx rfl (hb hby own_d12_12) rfl rfl k) ?_
    obtain ⟨T3, X3, e3, st3⟩ := getF X2 hx hZ hown (host := "") (Or.inl (own_w61 hw)) Via.refl e2 (Fst.ext O0) (g := (mkF m 13 #[.val (.ref ta), .val (.ref a1), .val (.ref wk2), .val (.ref a2)] [(.ref ta), (.int en)])) rfl rfl (hb hby own_d12_13)
    refine own_st st3 ?_
    show own_Go _ _ _ _ T3 (mkF m 16 #[.val (.ref ta), .val (.ref a1), .val (.ref wk2), .val (.ref a2)] [(.int st), (.int en)])
    refine own_st (fun _ k => XS.isub X3.here hx rfl (hb hby own_d12_16) rfl k) ?_
    refine own_st (fun _ k => XS.aloadN X3.here hx rfl (hb hby own_d12_17) rfl rfl k) ?_
    obtain ⟨v4, T4, L4, hQ4, X4, st4⟩ := own_callV X3 hx hZ (y := (⟨"java/lang/String", "length", "()I"⟩ : MethodName)) hown (own_w72 hw) (own_w73 hw) (own_w75 hw) (own_w74 hw) (own_w11 hw) (own_w76 hw) (by decide) (own_len_ l hw [] a2 v2 cs (3 : Int32) k2 [(.int y0), (.int y1), (.int y2)] h0 n0 (Nat.le_trans Z0 O0.1) (Scs.ext O0) hcs (E2.ext O0) (Fv2.ext O0) (Fc2.ext O0) (V2.ext O0)) e3 (E2.ext O0) (g := (mkF m 18 #[.val (.ref ta), .val (.ref a1), .val (.ref wk2), .val (.ref a2)] [(.ref a2), (.int (en - st))])) rfl (by rw [hml]; rfl) (argsL := []) (rest := [(.int (en - st))]) (lenOf own_pd7 rfl) rfl rfl (W := 1) (Nat.le_of_eq rfl) (hb hby own_d12_18) (by decide) (by decide) (by decide) (by decide)
    obtain ⟨rfl, N4, e4⟩ := hQ4
    have N4' := Fr.app N0 N4
    refine own_st st4 ?_
    by_cases h2 : (en - st) = (3 : Int32)
    · refine own_st (fun _ k => XS.icmpNo X4.here hx rfl (hb hby own_d12_21) rfl (teq (h2 : (en - st) = (3 : Int32))).2 k) ?_
      refine own_st (fun _ k => XS.aloadN X4.here hx rfl (hb hby own_d12_24) rfl rfl k) ?_
      refine own_st (fun _ k => XS.iconst X4.here hx rfl (hb hby own_d12_25) k) ?_
      refine own_st (fun _ k => XS.aloadN X4.here hx rfl (hb hby own_d12_26) rfl rfl k) ?_
      obtain ⟨T5, X5, e5, st5⟩ := getF X4 hx hZ hown (host := "") (Or.inl (own_w61 hw)) Via.refl e4 (Fst.ext O0) (g := (mkF m 27 #[.val (.ref ta), .val (.ref a1), .val (.ref wk2), .val (.ref a2)] [(.ref ta), (.int 1), (.ref a1)])) rfl rfl (hb hby own_d12_27)
      refine own_st st5 ?_
      show own_Go _ _ _ _ T5 (mkF m 30 #[.val (.ref ta), .val (.ref a1), .val (.ref wk2), .val (.ref a2)] [(.int st), (.int 1), (.ref a1)])
      refine own_st (fun _ k => XS.aloadN X5.here hx rfl (hb hby own_d12_30) rfl rfl k) ?_
      refine own_st (fun _ k => XS.iconst X5.here hx rfl (hb hby own_d12_31) k) ?_
      refine own_st (fun _ k => XS.aloadN X5.here hx rfl (hb hby own_d12_32) rfl rfl k) ?_
      obtain ⟨v6, T6, L6, hQ6, X6, st6⟩ := own_callV X5 hx hZ (y := (⟨"java/lang/String", "length", "()I"⟩ : MethodName)) hown (own_w72 hw) (own_w73 hw) (own_w75 hw) (own_w74 hw) (own_w11 hw) (own_w76 hw) (by decide) (own_len_ l hw [] a2 v2 cs (3 : Int32) k2 [(.int y0), (.int y1), (.int y2)] h0 n0 (Nat.le_trans Z0 O0.1) (Scs.ext O0) hcs (E2.ext O0) (Fv2.ext O0) (Fc2.ext O0) (V2.ext O0)) e5 (E2.ext O0) (g := (mkF m 33 #[.val (.ref ta), .val (.ref a1), .val (.ref wk2), .val (.ref a2)] [(.ref a2), (.int 0), (.ref a2), (.int st), (.int 1), (.ref a1)])) rfl (by rw [hml]; rfl) (argsL := []) (rest := [(.int 0), (.ref a2), (.int st), (.int 1), (.ref a1)]) (lenOf own_pd7 rfl) rfl rfl (W := 5) (Nat.le_of_eq rfl) (hb hby own_d12_33) (by decide) (by decide) (by decide) (by decide)
      obtain ⟨rfl, N6, e6⟩ := hQ6
      have N6' := Fr.app N4' N6
      refine own_st st6 ?_
      obtain ⟨v7, T7, L7, hQ7, X7, st7⟩ := own_callV X6 hx hZ (y := (⟨"java/lang/String", "regionMatches", "(ZILjava/lang/String;II)Z"⟩ : MethodName)) hown (own_w82 hw) (own_w83 hw) (own_w85 hw) (own_w84 hw) (own_w11 hw) (own_w86 hw) (by decide) (own_rm3 l hw [] a1 a2 v1 v2 (1 : Int32) st (0 : Int32) (3 : Int32) z cs k1 k2 vs bf y0 y1 y2 h0 n0 (Nat.le_trans Z0 O0.1) rfl rfl rfl zb (Scs.ext O0) hcs (E1.ext O0) (Fv1.ext O0) (Fc1.ext O0) (V1.ext O0) hB (E2.ext O0) (Fv2.ext O0) (Fc2.ext O0) (V2.ext O0)) e6 (E1.ext O0) (g := (mkF m 36 #[.val (.ref ta), .val (.ref a1), .val (.ref wk2), .val (.ref a2)] [(.int 3), (.int 0), (.ref a2), (.int st), (.int 1), (.ref a1)])) rfl (by rw [hml]; rfl) (argsL := [(.int 1), (.int st), (.ref a2), (.int 0), (.int 3)]) (rest := []) (lenOf own_pd9 rfl) rfl rfl (W := 0) (Nat.le_of_eq rfl) (hb hby own_d12_36) (by decide) (by decide) (by decide) (by decide)
      obtain ⟨rfl, N7, e7⟩ := hQ7
      have N7' := Fr.app N6' N7
      refine own_st st7 ?_
      by_cases h3 : (if st < 0 then (0 : Int32) else if (0 : Int32) < lcmpW st.toInt64 (z.toInt64 - (3 : Int64)) then (0 : Int32) else (if own_eic (bf st) y0 = 0 then (0 : Int32) else (if own_eic (bf (st + (1 : Int32))) y1 = 0 then (0 : Int32) else (if own_eic (bf ((st + (1 : Int32)) + (1 : Int32))) y2 = 0 then (0 : Int32) else (1 : Int32))))) = (0 : Int32)
      · refine own_st (fun _ k => XS.ifYes X7.here hx rfl (pc0 := 39) (pc' := 46) rfl (hb hby own_d12_39) rfl ((if0 _ _).trans (teq (h3 : (if st < 0 then (0 : Int32) else if (0 : Int32) < lcmpW st.toInt64 (z.toInt64 - (3 : Int64)) then (0 : Int32) else (if own_eic (bf st) y0 = 0 then (0 : Int32) else (if own_eic (bf (st + (1 : Int32))) y1 = 0 then (0 : Int32) else (if own_eic (bf ((st + (1 : Int32)) + (1 : Int32))) y2 = 0 then (0 : Int32) else (1 : Int32))))) = (0 : Int32))).1) (by decide) (by decide) k) ?_
        refine own_st (fun _ k => XS.iconst X7.here hx rfl (hb hby own_d12_46) k) ?_
        exact own_retN X7 hx hret (by simp) hlk (hb hby own_d12_47) ⟨by simp only [h1, h2, if_true, h3]; rfl, N7', e7⟩ (by decide) (by decide)
      · refine own_st (fun _ k => XS.ifNo X7.here hx rfl (hb hby own_d12_39) rfl ((if0 _ _).trans (feq (h3 : ¬ ((if st < 0 then (0 : Int32) else if (0 : Int32) < lcmpW st.toInt64 (z.toInt64 - (3 : Int64)) then (0 : Int32) else (if own_eic (bf st) y0 = 0 then (0 : Int32) else (if own_eic (bf (st + (1 : Int32))) y1 = 0 then (0 : Int32) else (if own_eic (bf ((st + (1 : Int32)) + (1 : Int32))) y2 = 0 then (0 : Int32) else (1 : Int32))))) = (0 : Int32)))).1) k) ?_
        refine own_st (fun _ k => XS.iconst X7.here hx rfl (hb hby own_d12_42) k) ?_
        refine own_st (fun _ k => XS.goto X7.here hx rfl (pc0 := 43) (pc' := 47) rfl (hb hby own_d12_43) (by decide) (by decide) k) ?_
        show own_Go _ _ _ _ T7 (mkF m 47 #[.val (.ref ta), .val (.ref a1), .val (.ref wk2), .val (.ref a2)] [(.int 1)])
        exact own_retN X7 hx hret (by simp) hlk (hb hby own_d12_47) ⟨by simp only [h1, h2, if_true]; rw [own_r01_3 h3]; rfl, N7', e7⟩ (by decide) (by decide)
    · refine own_st (fun _ k => XS.icmpYes X4.here hx rfl (pc0 := 21) (pc' := 46) rfl (hb hby own_d12_21) rfl (feq (h2 : ¬ ((en - st) = (3 : Int32)))).2 (by decide) (by decide) k) ?_
      refine own_st (fun _ k => XS.iconst X4.here hx rfl (hb hby own_d12_46) k) ?_
      exact own_retN X4 hx hret (by simp) hlk (hb hby own_d12_47) ⟨by simp [nar, *], N4', e4⟩ (by decide) (by decide)
  · refine own_st (fun _ k => Jvm.RoadKit.acmp (g := (mkF m 5 #[.val (.ref ta), .val (.ref a1), .val (.ref wk2), .val (.ref a2)] [(.ref wk2), (.ref wk)])) X1 hx rfl rfl rfl (pc0 := 5) (pc' := 46) (same := false) rfl (hb hby own_d12_5) rfl (decide_eq_false fun q => h1 (Value.ref.inj q)) (by decide) (by decide) k) ?_
    refine own_st (fun _ k => XS.iconst X1.here hx rfl (hb hby own_d12_46) k) ?_
    exact own_retN X1 hx hret (by simp) hlk (hb hby own_d12_47) ⟨by simp [nar, *], N0, e1⟩ (by decide) (by decide)
theorem own_rg9 (y : Int32) (h0 : 0 ≤ y.toInt) (h1 : y.toInt < 9) : y = 0 ∨ y = 1 ∨ y = 2 ∨ y = 3 ∨ y = 4 ∨ y = 5 ∨ y = 6 ∨ y = 7 ∨ y = 8 := by
  have : y.toInt = 0 ∨ y.toInt = 1 ∨ y.toInt = 2 ∨ y.toInt = 3 ∨ y.toInt = 4 ∨ y.toInt = 5 ∨ y.toInt = 6 ∨ y.toInt = 7 ∨ y.toInt = 8 := by omega
  rcases this with q | q | q | q | q | q | q | q | q
  · exact Or.inl (Int32.toInt_inj.mp q)
  · exact Or.inr (Or.inl (Int32.toInt_inj.mp q))
  · exact Or.inr (Or.inr (Or.inl (Int32.toInt_inj.mp q)))
  · exact Or.inr (Or.inr (Or.inr (Or.inl (Int32.toInt_inj.mp q))))
  · exact Or.inr (Or.inr (Or.inr (Or.inr (Or.inl (Int32.toInt_inj.mp q)))))
  · exact Or.inr (Or.inr (Or.inr (Or.inr (Or.inr (Or.inl (Int32.toInt_inj.mp q))))))
  · exact Or.inr (Or.inr (Or.inr (Or.inr (Or.inr (Or.inr (Or.inl (Int32.toInt_inj.mp q)))))))
  · exact Or.inr (Or.inr (Or.inr (Or.inr (Or.inr (Or.inr (Or.inr (Or.inl (Int32.toInt_inj.mp q))))))))
  · exact Or.inr (Or.inr (Or.inr (Or.inr (Or.inr (Or.inr (Or.inr (Or.inr ((Int32.toInt_inj.mp q)))))))))
def own_bf (s0 s1 s2 s3 s4 s5 j : Int32) : Int32 := own_B (own_get s0 s1 s2 s3 s4 s5 j)
theorem own_E2 (st r : Int32) (tJ : Int64) (k : Int) (hk : tJ.toInt = k) (h0 : 0 ≤ k) (h1 : k ≤ 3) : ((0 : Int32) < lcmpW st.toInt64 (r.toInt64 - tJ)) ↔ ((0 : Int32) < lcmpW (st.toInt64 + tJ) r.toInt64) := by
  rw [lw_gt, lw_gt, Int64.lt_iff_toInt_lt, Int64.lt_iff_toInt_lt]
  have a := c_lsub r.toInt64 tJ
  have b := c_ladd st.toInt64 tJ
  have c1 := rng64 (r.toInt64 - tJ)
  have c2 := rng64 (st.toInt64 + tJ)
  have d1 := rng32 r
  have d2 := rng32 st
  rw [c_i2l] at a b
  rw [c_i2l, c_i2l]
  omega
theorem own_E1 {st en r t32 : Int32} {tJ : Int64} {k : Int} (h32 : t32.toInt = k) (hJ : tJ.toInt = k) (h0 : 0 ≤ k) (h1 : k ≤ 3) (hr : r.toInt ≤ 5) : ¬ st < 0 → ¬ (0 : Int32) < lcmpW (st.toInt64 + tJ) r.toInt64 → ((en - st = t32) ↔ (lcmpW (en.toInt64 - st.toInt64) tJ = 0)) := by
  intro q1 q2
  rw [lw_gt, Int64.lt_iff_toInt_lt] at q2
  rw [lw_eq, ← Int64.toInt_inj, ← Int32.toInt_inj]
  have z0 : (0 : Int32).toInt = 0 := by decide
  have q3 : ¬ st.toInt < (0 : Int32).toInt := fun e => q1 (Int32.lt_iff_toInt_lt.mpr e)
  have b := c_ladd st.toInt64 tJ
  have c2 := rng64 (st.toInt64 + tJ)
  have a := c_lsub en.toInt64 st.toInt64
  have a2 := rng64 (en.toInt64 - st.toInt64)
  have e1 := c_isub en st
  have e2 := rng32 (en - st)
  have e3 := rng32 en
  have e4 := rng32 st
  rw [c_i2l] at b q2
  rw [c_i2l, c_i2l] at a
  omega
theorem own_logic {K A' A P : Prop} [Decidable K] [Decidable A'] [Decidable A] [Decidable P] {R x : Int32} (hR : R = if P then 1 else 0) (h : P → (A' ↔ A)) (hxx : x = if A then 1 else 0) : (if K then (if A' then R else (0 : Int32)) else (0 : Int32)) = if K ∧ x = 1 ∧ P then 1 else 0 := by
  rw [hR, hxx]
  by_cases k : K <;> by_cases a' : A' <;> by_cases a : A <;> by_cases q : P <;> simp [k, a', a, q] <;> simp_all
theorem own_01 : ((0 : Int32) = 1) = False := eq_false (by decide)
theorem own_ix2 (st : Int32) : st + (1 : Int32) + (1 : Int32) = st + (2 : Int32) := by rw [Int32.add_assoc]; rfl
theorem own_reg0 {S Lg  : Prop} [Decidable S] [Decidable Lg]  : (if S then (0 : Int32) else if Lg then (0 : Int32) else (1 : Int32)) = if (¬ S ∧ ¬ Lg) then 1 else 0 := by
  by_cases s : S <;> by_cases g : Lg <;> simp [s, g]
theorem own_reg1 {S Lg F0 : Prop} [Decidable S] [Decidable Lg] [Decidable F0] : (if S then (0 : Int32) else if Lg then (0 : Int32) else (if (if F0 then (1 : Int32) else 0) = 0 then (0 : Int32) else (1 : Int32))) = if (¬ S ∧ ¬ Lg ∧ F0) then 1 else 0 := by
  by_cases s : S <;> by_cases g : Lg <;> by_cases f0 : F0 <;> simp [s, g, f0]
theorem own_reg2 {S Lg F0 F1 : Prop} [Decidable S] [Decidable Lg] [Decidable F0] [Decidable F1] : (if S then (0 : Int32) else if Lg then (0 : Int32) else (if (if F0 then (1 : Int32) else 0) = 0 then (0 : Int32) else (if (if F1 then (1 : Int32) else 0) = 0 then (0 : Int32) else (1 : Int32)))) = if (¬ S ∧ ¬ Lg ∧ F0 ∧ F1) then 1 else 0 := by
  by_cases s : S <;> by_cases g : Lg <;> by_cases f0 : F0 <;> by_cases f1 : F1 <;> simp [s, g, f0, f1]
theorem own_reg3 {S Lg F0 F1 F2 : Prop} [Decidable S] [Decidable Lg] [Decidable F0] [Decidable F1] [Decidable F2] : (if S then (0 : Int32) else if Lg then (0 : Int32) else (if (if F0 then (1 : Int32) else 0) = 0 then (0 : Int32) else (if (if F1 then (1 : Int32) else 0) = 0 then (0 : Int32) else (if (if F2 then (1 : Int32) else 0) = 0 then (0 : Int32) else (1 : Int32))))) = if (¬ S ∧ ¬ Lg ∧ F0 ∧ F1 ∧ F2) then 1 else 0 := by
  by_cases s : S <;> by_cases g : Lg <;> by_cases f0 : F0 <;> by_cases f1 : F1 <;> by_cases f2 : F2 <;> simp [s, g, f0, f1, f2]
theorem own_in10 {st r : Int32} (h0 : ¬ st < 0) (h1 : ¬ (0 : Int32) < lcmpW (st.toInt64 + (1 : Int64)) r.toInt64) (hr : r.toInt < 6) : ¬ st < 0 ∧ st < 6 := by
  rw [lw_gt, Int64.lt_iff_toInt_lt] at h1
  have z0 : (0 : Int32).toInt = 0 := by decide
  have z6 : (6 : Int32).toInt = 6 := by decide
  have q3 : ¬ st.toInt < (0 : Int32).toInt := fun e => h0 (Int32.lt_iff_toInt_lt.mpr e)
  have b := c_ladd st.toInt64 (1 : Int64)
  have c2 := rng64 (st.toInt64 + (1 : Int64))
  have c3 := rng32 st
  have tj : ((1 : Int64)).toInt = 1 := by decide
  rw [c_i2l] at b h1
  exact ⟨fun e => by have := Int32.lt_iff_toInt_lt.mp e; omega, Int32.lt_iff_toInt_lt.mpr (by omega)⟩
theorem own_in20 {st r : Int32} (h0 : ¬ st < 0) (h1 : ¬ (0 : Int32) < lcmpW (st.toInt64 + (2 : Int64)) r.toInt64) (hr : r.toInt < 6) : ¬ st < 0 ∧ st < 6 := by
  rw [lw_gt, Int64.lt_iff_toInt_lt] at h1
  have z0 : (0 : Int32).toInt = 0 := by decide
  have z6 : (6 : Int32).toInt = 6 := by decide
  have q3 : ¬ st.toInt < (0 : Int32).toInt := fun e => h0 (Int32.lt_iff_toInt_lt.mpr e)
  have b := c_ladd st.toInt64 (2 : Int64)
  have c2 := rng64 (st.toInt64 + (2 : Int64))
  have c3 := rng32 st
  have tj : ((2 : Int64)).toInt = 2 := by decide
  rw [c_i2l] at b h1
  exact ⟨fun e => by have := Int32.lt_iff_toInt_lt.mp e; omega, Int32.lt_iff_toInt_lt.mpr (by omega)⟩
theorem own_in21 {st r : Int32} (h0 : ¬ st < 0) (h1 : ¬ (0 : Int32) < lcmpW (st.toInt64 + (2 : Int64)) r.toInt64) (hr : r.toInt < 6) : ¬ (st + (1 : Int32)) < 0 ∧ (st + (1 : Int32)) < 6 := by
  rw [lw_gt, Int64.lt_iff_toInt_lt] at h1
  have z0 : (0 : Int32).toInt = 0 := by decide
  have z6 : (6 : Int32).toInt = 6 := by decide
  have q3 : ¬ st.toInt < (0 : Int32).toInt := fun e => h0 (Int32.lt_iff_toInt_lt.mpr e)
  have b := c_ladd st.toInt64 (2 : Int64)
  have c2 := rng64 (st.toInt64 + (2 : Int64))
  have c3 := rng32 st
  have tj : ((2 : Int64)).toInt = 2 := by decide
  rw [c_i2l] at b h1
  have i_1 : (st + (1 : Int32)).toInt = st.toInt + 1 := own_plus (k := 1) (by decide) (by decide) (by decide) (by omega) (by omega)
  exact ⟨fun e => by have := Int32.lt_iff_toInt_lt.mp e; omega, Int32.lt_iff_toInt_lt.mpr (by omega)⟩
theorem own_in30 {st r : Int32} (h0 : ¬ st < 0) (h1 : ¬ (0 : Int32) < lcmpW (st.toInt64 + (3 : Int64)) r.toInt64) (hr : r.toInt < 6) : ¬ st < 0 ∧ st < 6 := by
  rw [lw_gt, Int64.lt_iff_toInt_lt] at h1
  have z0 : (0 : Int32).toInt = 0 := by decide
  have z6 : (6 : Int32).toInt = 6 := by decide
  have q3 : ¬ st.toInt < (0 : Int32).toInt := fun e => h0 (Int32.lt_iff_toInt_lt.mpr e)
  have b := c_ladd st.toInt64 (3 : Int64)
  have c2 := rng64 (st.toInt64 + (3 : Int64))
  have c3 := rng32 st
  have tj : ((3 : Int64)).toInt = 3 := by decide
  rw [c_i2l] at b h1
  exact ⟨fun e => by have := Int32.lt_iff_toInt_lt.mp e; omega, Int32.lt_iff_toInt_lt.mpr (by omega)⟩
theorem own_in31 {st r : Int32} (h0 : ¬ st < 0) (h1 : ¬ (0 : Int32) < lcmpW (st.toInt64 + (3 : Int64)) r.toInt64) (hr : r.toInt < 6) : ¬ (st + (1 : Int32)) < 0 ∧ (st + (1 : Int32)) < 6 := by
  rw [lw_gt, Int64.lt_iff_toInt_lt] at h1
  have z0 : (0 : Int32).toInt = 0 := by decide
  have z6 : (6 : Int32).toInt = 6 := by decide
  have q3 : ¬ st.toInt < (0 : Int32).toInt := fun e => h0 (Int32.lt_iff_toInt_lt.mpr e)
  have b := c_ladd st.toInt64 (3 : Int64)
  have c2 := rng64 (st.toInt64 + (3 : Int64))
  have c3 := rng32 st
  have tj : ((3 : Int64)).toInt = 3 := by decide
  rw [c_i2l] at b h1
  have i_1 : (st + (1 : Int32)).toInt = st.toInt + 1 := own_plus (k := 1) (by decide) (by decide) (by decide) (by omega) (by omega)
  exact ⟨fun e => by have := Int32.lt_iff_toInt_lt.mp e; omega, Int32.lt_iff_toInt_lt.mpr (by omega)⟩
theorem own_in32 {st r : Int32} (h0 : ¬ st < 0) (h1 : ¬ (0 : Int32) < lcmpW (st.toInt64 + (3 : Int64)) r.toInt64) (hr : r.toInt < 6) : ¬ (st + (2 : Int32)) < 0 ∧ (st + (2 : Int32)) < 6 := by
  rw [lw_gt, Int64.lt_iff_toInt_lt] at h1
  have z0 : (0 : Int32).toInt = 0 := by decide
  have z6 : (6 : Int32).toInt = 6 := by decide
  have q3 : ¬ st.toInt < (0 : Int32).toInt := fun e => h0 (Int32.lt_iff_toInt_lt.mpr e)
  have b := c_ladd st.toInt64 (3 : Int64)
  have c2 := rng64 (st.toInt64 + (3 : Int64))
  have c3 := rng32 st
  have tj : ((3 : Int64)).toInt = 3 := by decide
  rw [c_i2l] at b h1
  have i_2 : (st + (2 : Int32)).toInt = st.toInt + 2 := own_plus (k := 2) (by decide) (by decide) (by decide) (by omega) (by omega)
  exact ⟨fun e => by have := Int32.lt_iff_toInt_lt.mp e; omega, Int32.lt_iff_toInt_lt.mpr (by omega)⟩
theorem own_c3 (x : Int32) : 0 ≤ (x &&& 3).toInt ∧ (x &&& 3).toInt < 4 := by
  have h := c_and x 3 (by decide)
  have z : (3 : Int32).toInt = 3 := by decide
  omega
theorem own_t3 (p6 : Int32) : ¬ (3 : Int32) < ((p6.toUInt32 >>> ((3 : Int32) &&& 31).toUInt32).toInt32 &&& (3 : Int32)) := fun q => by
  have a := own_c3 ((p6.toUInt32 >>> ((3 : Int32) &&& 31).toUInt32).toInt32)
  have b := Int32.lt_iff_toInt_lt.mp q
  have z : (3 : Int32).toInt = 3 := by decide
  omega
def own_law_Q (Z : State) (p1 p2 p3 : Int32) (q4 q5 : Int64) (p6 : Int32) (w0 w1 w2 w3 w4 w5 w6 w7 w8 : Addr) (cs : Int32) (h0 : Heap) (n0 : Nat) (v : Option Value) (h : Heap) (vm : Vm) (L : List Loc) : Prop := v = some (.int 1) ∧ Fr n0 L
set_option maxRecDepth 65536 in
set_option maxHeartbeats 40000000 in
theorem own_law (l : Launch) {Z : State} {a0 : Array Value} (hw : own_W Z a0) (ws : List Jvm.Cond) (p1 p2 p3 : Int32) (q4 q5 : Int64) (p6 : Int32) (w0 w1 w2 w3 w4 w5 w6 w7 w8 : Addr) (cs : Int32) (h0 : Heap) (n0 : Nat) (Z0 : n0 ≤ h0.size) (hh : Jvm.Lit.constHeld Z "java/lang/String" 7) (hcw : Jvm.Lit.compactW.before a0 Z = true) (OZ : Ext Z.heap h0) (Scs : Sta Z h0 "java/lang/String" "COMPACT_STRINGS" "Z" (.int cs)) (hcs : ¬ cs = 0) (S0 : Sta Z h0 "com/example/isoscope/isoscope/SqlLexer$Kind" "WORD" "Lcom/example/isoscope/isoscope/SqlLexer$Kind;" (.ref w0)) (S1 : Sta Z h0 "com/example/isoscope/isoscope/SqlLexer$Kind" "QUOTED_NAME" "Lcom/example/isoscope/isoscope/SqlLexer$Kind;" (.ref w1)) (S2 : Sta Z h0 "com/example/isoscope/isoscope/SqlLexer$Kind" "STRING" "Lcom/example/isoscope/isoscope/SqlLexer$Kind;" (.ref w2)) (S3 : Sta Z h0 "com/example/isoscope/isoscope/SqlLexer$Kind" "NUMBER" "Lcom/example/isoscope/isoscope/SqlLexer$Kind;" (.ref w3)) (S4 : Sta Z h0 "com/example/isoscope/isoscope/SqlLexer$Kind" "PARAMETER" "Lcom/example/isoscope/isoscope/SqlLexer$Kind;" (.ref w4)) (S5 : Sta Z h0 "com/example/isoscope/isoscope/SqlLexer$Kind" "OPERATOR" "Lcom/example/isoscope/isoscope/SqlLexer$Kind;" (.ref w5)) (S6 : Sta Z h0 "com/example/isoscope/isoscope/SqlLexer$Kind" "SEMICOLON" "Lcom/example/isoscope/isoscope/SqlLexer$Kind;" (.ref w6)) (S7 : Sta Z h0 "com/example/isoscope/isoscope/SqlLexer$Kind" "PUNCTUATION" "Lcom/example/isoscope/isoscope/SqlLexer$Kind;" (.ref w7)) (S8 : Sta Z h0 "com/example/isoscope/isoscope/SqlLexer$Kind" "COMMENT" "Lcom/example/isoscope/isoscope/SqlLexer$Kind;" (.ref w8)) (Fk : ∀ i : Int32, 0 ≤ i.toInt → i.toInt ≤ 8 → Fld Z h0 (own_kd i w0 w1 w2 w3 w4 w5 w6 w7 w8) "java/lang/Enum" "ordinal" "I" (.int i)) :
    MetFree l x (head1 (Jvm.Cond.code x code maxLocals ret :: ws) room_1) (fun a U => a = #[(.int p1), (.int p2), (.int p3), (.long q4), (.long q5), (.int p6)] ∧ Z.Warmed39 U.vm ∧ U.heap = h0 ∧ (fun vm => IB Z vm []) U.vm) (fun _ _ _ _ _ => True) (fun _ U o U' => ∃ v L, o = .returned v ∧ own_law_Q Z p1 p2 p3 q4 q5 p6 w0 w1 w2 w3 w4 w5 w6 w7 w8 cs h0 n0 v U'.heap U'.vm L ∧ ReturnedEndW U o U' L 32 1216) := by
  refine own_enterW (J := fun vm => IB Z vm []) (C := 32) (S := 1216) (plainFor_of_name own_pn2) ?_
  intro p e s m below meth c T0 X0 I e0 es hJ hS
  obtain ⟨hx, hby, hml, hown, hnm, hret, hlk, hZ⟩ := I
  have N0 := Fr.nil n0
  have O0 := own_extr h0
  have hk0 : 0 ≤ h0.size := Nat.zero_le _
  refine own_cast (own_ef0 m p1 p2 p3 q4 q5 p6) ?_
  show own_Go _ _ _ _ T0 (mkF m 0 #[.val (.int p1), .val (.int p2), .val (.int p3), .val (.long q4), .second, .val (.long q5), .second, .val (.int p6), .unset, .unset, .unset, .unset, .unset, .unset, .unset, .unset, .unset, .unset, .unset, .unset, .unset, .unset, .unset, .unset] [])
  have tE : ∀ (Tt : State) (lt : List Loc) (ht : Heap) (vmt : Vm) (kt : Nat) (Xt : Stand p l e room_1 (s.setVm vmt) m #[(.int p1), (.int p2), (.int p3), (.long q4), (.long q5), (.int p6)] below meth c Tt lt 11 45) (Nt : Fr n0 lt) (et : Tt.heap = ht) (Ot : Ext h0 ht) (hS : s.Since vmt kt) (hkt : kt ≤ ht.size) (hZ : Z.Warmed39 (s.setVm vmt).vm) (hown : (s.setVm vmt).vm.findClass "com/example/isoscope/isoscope/TokenIsPinLaw" = some m.cls) (ki ei sp r tt st en : Int32) (sc ta u1 u2 tka : Addr) (av xa ya : Int32) (hxx : xa = 0 ∨ xa = 1) (hyy : ya = 0 ∨ ya = 1) (hE : av = if ki = ei ∧ xa = 1 ∧ ya = 1 then 1 else 0), own_Go p.tables e below (own_FW below s (own_law_Q Z p1 p2 p3 q4 q5 p6 w0 w1 w2 w3 w4 w5 w6 w7 w8 cs h0 n0) 32 1216) Tt (mkF m 480 #[.val (.int p1), .val (.int p2), .val (.int p3), .val (.long q4), .second, .val (.long q5), .second, .val (.int p6), .val (.int ki), .val (.int ei), .val (.int sp), .val (.int r), .val (.int tt), .val (.int st), .val (.int en), .val (.ref sc), .val (.ref ta), .val (.ref u1), .val (.ref u2), .val (.ref tka), .val (.int av), .val (.int xa), .val (.int ya), .unset] []) := by
    intro Tt lt ht vmt kt Xt Nt et Ot hS hkt hZ hown ki ei sp r tt st en sc ta u1 u2 tka av xa ya hxx hyy hE
    refine own_st (fun _ k => XS.iload Xt.here hx rfl (hb hby at_480) rfl k) ?_
    refine own_st (fun _ k => XS.iload Xt.here hx rfl (hb hby at_482) rfl k) ?_
    by_cases hkk : ki = ei
    · refine own_st (fun _ k => XS.icmpNo Xt.here hx rfl (hb hby at_484) rfl (teq (hkk : ki = ei)).2 k) ?_
      refine own_st (fun _ k => XS.iload Xt.here hx rfl (hb hby at_487) rfl k) ?_
      by_cases hx0 : xa = (0 : Int32)
      · refine own_st (fun _ k => XS.ifYes Xt.here hx rfl (pc0 := 489) (pc' := 501) rfl (hb hby at_489) rfl ((if0 _ _).trans (teq (hx0 : xa = (0 : Int32))).1) (by decide) (by decide) k) ?_
        refine own_st (fun _ k => XS.iconst Xt.here hx rfl (hb hby at_501) k) ?_
        refine own_st (fun _ k => XS.istore Xt.here hx rfl (hb hby at_502) rfl (l' := #[.val (.int p1), .val (.int p2), .val (.int p3), .val (.long q4), .second, .val (.long q5), .second, .val (.int p6), .val (.int ki), .val (.int ei), .val (.int sp), .val (.int r), .val (.int tt), .val (.int st), .val (.int en), .val (.ref sc), .val (.ref ta), .val (.ref u1), .val (.ref u2), .val (.ref tka), .val (.int av), .val (.int xa), .val (.int ya), .val (.int 0)]) rfl k) ?_
        refine own_st (fun _ k => XS.iload Xt.here hx rfl (hb hby at_504) rfl k) ?_
        show own_Go _ _ _ _ Tt (mkF m 506 #[.val (.int p1), .val (.int p2), .val (.int p3), .val (.long q4), .second, .val (.long q5), .second, .val (.int p6), .val (.int ki), .val (.int ei), .val (.int sp), .val (.int r), .val (.int tt), .val (.int st), .val (.int en), .val (.ref sc), .val (.ref ta), .val (.ref u1), .val (.ref u2), .val (.ref tka), .val (.int av), .val (.int xa), .val (.int ya), .val (.int 0)] [(.int av)])
        refine own_st (fun _ k => XS.iload Xt.here hx rfl (hb hby at_506) rfl k) ?_
        refine own_st (fun _ k => XS.icmpNo Xt.here hx rfl (hb hby at_508) rfl (teq (by rw [hE]; simp [hx0] : av = (0 : Int32))).2 k) ?_
        refine own_st (fun _ k => XS.iconst Xt.here hx rfl (hb hby at_511) k) ?_
        refine own_st (fun _ k => XS.goto Xt.here hx rfl (pc0 := 512) (pc' := 516) rfl (hb hby at_512) (by decide) (by decide) k) ?_
        exact own_retNW Xt hS (by rw [et]; exact hkt) hx hret (by simp) hlk (hb hby at_516) ⟨rfl, Nt⟩ (by decide) (by decide)
      · refine own_st (fun _ k => XS.ifNo Xt.here hx rfl (hb hby at_489) rfl ((if0 _ _).trans (feq (hx0 : ¬ (xa = (0 : Int32)))).1) k) ?_
        refine own_st (fun _ k => XS.iload Xt.here hx rfl (hb hby at_492) rfl k) ?_
        by_cases hy0 : ya = (0 : Int32)
        · refine own_st (fun _ k => XS.ifYes Xt.here hx rfl (pc0 := 494) (pc' := 501) rfl (hb hby at_494) rfl ((if0 _ _).trans (teq (hy0 : ya = (0 : Int32))).1) (by decide) (by decide) k) ?_
          refine own_st (fun _ k => XS.iconst Xt.here hx rfl (hb hby at_501) k) ?_
          show own_Go _ _ _ _ Tt (mkF m 502 #[.val (.int p1), .val (.int p2), .val (.int p3), .val (.long q4), .second, .val (.long q5), .second, .val (.int p6), .val (.int ki), .val (.int ei), .val (.int sp), .val (.int r), .val (.int tt), .val (.int st), .val (.int en), .val (.ref sc), .val (.ref ta), .val (.ref u1), .val (.ref u2), .val (.ref tka), .val (.int av), .val (.int xa), .val (.int ya), .unset] [(.int 0)])
          refine own_st (fun _ k => XS.istore Xt.here hx rfl (hb hby at_502) rfl (l' := #[.val (.int p1), .val (.int p2), .val (.int p3), .val (.long q4), .second, .val (.long q5), .second, .val (.int p6), .val (.int ki), .val (.int ei), .val (.int sp), .val (.int r), .val (.int tt), .val (.int st), .val (.int en), .val (.ref sc), .val (.ref ta), .val (.ref u1), .val (.ref u2), .val (.ref tka), .val (.int av), .val (.int xa), .val (.int ya), .val (.int 0)]) rfl k) ?_
          refine own_st (fun _ k => XS.iload Xt.here hx rfl (hb hby at_504) rfl k) ?_
          refine own_st (fun _ k => XS.iload Xt.here hx rfl (hb hby at_506) rfl k) ?_
          refine own_st (fun _ k => XS.icmpNo Xt.here hx rfl (hb hby at_508) rfl (teq (by rw [hE]; simp [hy0] : av = (0 : Int32))).2 k) ?_
          refine own_st (fun _ k => XS.iconst Xt.here hx rfl (hb hby at_511) k) ?_
          refine own_st (fun _ k => XS.goto Xt.here hx rfl (pc0 := 512) (pc' := 516) rfl (hb hby at_512) (by decide) (by decide) k) ?_
          exact own_retNW Xt hS (by rw [et]; exact hkt) hx hret (by simp) hlk (hb hby at_516) ⟨rfl, Nt⟩ (by decide) (by decide)
        · refine own_st (fun _ k => XS.ifNo Xt.here hx rfl (hb hby at_494) rfl ((if0 _ _).trans (feq (hy0 : ¬ (ya = (0 : Int32)))).1) k) ?_
          refine own_st (fun _ k => XS.iconst Xt.here hx rfl (hb hby at_497) k) ?_
          show own_Go _ _ _ _ Tt (mkF m 498 #[.val (.int p1), .val (.int p2), .val (.int p3), .val (.long q4), .second, .val (.long q5), .second, .val (.int p6), .val (.int ki), .val (.int ei), .val (.int sp), .val (.int r), .val (.int tt), .val (.int st), .val (.int en), .val (.ref sc), .val (.ref ta), .val (.ref u1), .val (.ref u2), .val (.ref tka), .val (.int av), .val (.int xa), .val (.int ya), .unset] [(.int 1)])
          refine own_st (fun _ k => XS.goto Xt.here hx rfl (pc0 := 498) (pc' := 502) rfl (hb hby at_498) (by decide) (by decide) k) ?_
          refine own_st (fun _ k => XS.istore Xt.here hx rfl (hb hby at_502) rfl (l' := #[.val (.int p1), .val (.int p2), .val (.int p3), .val (.long q4), .second, .val (.long q5), .second, .val (.int p6), .val (.int ki), .val (.int ei), .val (.int sp), .val (.int r), .val (.int tt), .val (.int st), .val (.int en), .val (.ref sc), .val (.ref ta), .val (.ref u1), .val (.ref u2), .val (.ref tka), .val (.int av), .val (.int xa), .val (.int ya), .val (.int 1)]) rfl k) ?_
          refine own_st (fun _ k => XS.iload Xt.here hx rfl (hb hby at_504) rfl k) ?_
          refine own_st (fun _ k => XS.iload Xt.here hx rfl (hb hby at_506) rfl k) ?_
          refine own_st (fun _ k => XS.icmpNo Xt.here hx rfl (hb hby at_508) rfl (teq (by rw [hE]; simp [hkk, hxx.resolve_left hx0, hyy.resolve_left hy0] : av = (1 : Int32))).2 k) ?_
          refine own_st (fun _ k => XS.iconst Xt.here hx rfl (hb hby at_511) k) ?_
          refine own_st (fun _ k => XS.goto Xt.here hx rfl (pc0 := 512) (pc' := 516) rfl (hb hby at_512) (by decide) (by decide) k) ?_
          exact own_retNW Xt hS (by rw [et]; exact hkt) hx hret (by simp) hlk (hb hby at_516) ⟨rfl, Nt⟩ (by decide) (by decide)
    · refine own_st (fun _ k => XS.icmpYes Xt.here hx rfl (pc0 := 484) (pc' := 501) rfl (hb hby at_484) rfl (feq (hkk : ¬ (ki = ei))).2 (by decide) (by decide) k) ?_
      refine own_st (fun _ k => XS.iconst Xt.here hx rfl (hb hby at_501) k) ?_
      refine own_st (fun _ k => XS.istore Xt.here hx rfl (hb hby at_502) rfl (l' := #[.val (.int p1), .val (.int p2), .val (.int p3), .val (.long q4), .second, .val (.long q5), .second, .val (.int p6), .val (.int ki), .val (.int ei), .val (.int sp), .val (.int r), .val (.int tt), .val (.int st), .val (.int en), .val (.ref sc), .val (.ref ta), .val (.ref u1), .val (.ref u2), .val (.ref tka), .val (.int av), .val (.int xa), .val (.int ya), .val (.int 0)]) rfl k) ?_
      refine own_st (fun _ k => XS.iload Xt.here hx rfl (hb hby at_504) rfl k) ?_
      refine own_st (fun _ k => XS.iload Xt.here hx rfl (hb hby at_506) rfl k) ?_
      refine own_st (fun _ k => XS.icmpNo Xt.here hx rfl (hb hby at_508) rfl (teq (by rw [hE]; simp [hkk] : av = (0 : Int32))).2 k) ?_
      show own_Go _ _ _ _ Tt (mkF m 511 #[.val (.int p1), .val (.int p2), .val (.int p3), .val (.long q4), .second, .val (.long q5), .second, .val (.int p6), .val (.int ki), .val (.int ei), .val (.int sp), .val (.int r), .val (.int tt), .val (.int st), .val (.int en), .val (.ref sc), .val (.ref ta), .val (.ref u1), .val (.ref u2), .val (.ref tka), .val (.int av), .val (.int xa), .val (.int ya), .val (.int 0)] [])
      refine own_st (fun _ k => XS.iconst Xt.here hx rfl (hb hby at_511) k) ?_
      refine own_st (fun _ k => XS.goto Xt.here hx rfl (pc0 := 512) (pc' := 516) rfl (hb hby at_512) (by decide) (by decide) k) ?_
      exact own_retNW Xt hS (by rw [et]; exact hkt) hx hret (by simp) hlk (hb hby at_516) ⟨rfl, Nt⟩ (by decide) (by decide)
  have tR_0 : ∀ (Tt : State) (lt : List Loc) (ht : Heap) (vmt : Vm) (kt : Nat) (Xt : Stand p l e room_1 (s.setVm vmt) m #[(.int p1), (.int p2), (.int p3), (.long q4), (.long q5), (.int p6)] below meth c Tt lt 11 45) (Nt : Fr n0 lt) (et : Tt.heap = ht) (Ot : Ext h0 ht) (hS : s.Since vmt kt) (hkt : kt ≤ ht.size) (hZ : Z.Warmed39 (s.setVm vmt).vm) (hown : (s.setVm vmt).vm.findClass "com/example/isoscope/isoscope/TokenIsPinLaw" = some m.cls) (ki ei sp r st en : Int32) (u1 u2 : Addr) (hr : 0 ≤ r.toInt ∧ r.toInt < 6) (sc ta : Addr) (ksc kta : ClassId) (s0 s1 s2 s3 s4 s5 t0 t1 t2 : Int32) (gc0 : own_ch s0) (gc1 : own_ch s1) (gc2 : own_ch s2) (gc3 : own_ch s3) (gc4 : own_ch s4) (gc5 : own_ch s5) (d0 : own_ch t0) (d1 : own_ch t1) (d2 : own_ch t2) (Vsc : Arv Z ht sc ksc .char (6 : Int32) [(.int s0), (.int s1), (.int s2), (.int s3), (.int s4), (.int s5)] (.int 0)) (Vta : Arv Z ht ta kta .char (3 : Int32) [(.int t0), (.int t1), (.int t2)] (.int 0)) (tka : Addr) (av xa : Int32) (hxx : xa = 0 ∨ xa = 1) (hE : av = if ki = ei ∧ xa = 1 ∧ (¬ st < 0 ∧ ¬ (0 : Int32) < lcmpW (st.toInt64 + (0 : Int64)) r.toInt64) then 1 else 0), own_Go p.tables e below (own_FW below s (own_law_Q Z p1 p2 p3 q4 q5 p6 w0 w1 w2 w3 w4 w5 w6 w7 w8 cs h0 n0) 32 1216) Tt (mkF m 378 #[.val (.int p1), .val (.int p2), .val (.int p3), .val (.long q4), .second, .val (.long q5), .second, .val (.int p6), .val (.int ki), .val (.int ei), .val (.int sp), .val (.int r), .val (.int 0), .val (.int st), .val (.int en), .val (.ref sc), .val (.ref ta), .val (.ref u1), .val (.ref u2), .val (.ref tka), .val (.int av), .val (.int xa), .unset, .unset] []) := by
    intro Tt lt ht vmt kt Xt Nt et Ot hS hkt hZ hown ki ei sp r st en u1 u2 hr sc ta ksc kta s0 s1 s2 s3 s4 s5 t0 t1 t2 gc0 gc1 gc2 gc3 gc4 gc5 d0 d1 d2 Vsc Vta tka av xa hxx hE
    refine own_st (fun _ k => XS.iload Xt.here hx rfl (hb hby at_378) rfl k) ?_
    by_cases hs0 : st < (0 : Int32)
    · refine own_st (fun _ k => XS.ifYes Xt.here hx rfl (pc0 := 380) (pc' := 477) rfl (hb hby at_380) rfl ((if0 _ _).trans (tlt (hs0 : st < (0 : Int32))).1) (by decide) (by decide) k) ?_
      refine own_st (fun _ k => XS.iconst Xt.here hx rfl (hb hby at_477) k) ?_
      refine own_st (fun _ k => XS.istore Xt.here hx rfl (hb hby at_478) rfl (l' := #[.val (.int p1), .val (.int p2), .val (.int p3), .val (.long q4), .second, .val (.long q5), .second, .val (.int p6), .val (.int ki), .val (.int ei), .val (.int sp), .val (.int r), .val (.int 0), .val (.int st), .val (.int en), .val (.ref sc), .val (.ref ta), .val (.ref u1), .val (.ref u2), .val (.ref tka), .val (.int av), .val (.int xa), .val (.int 0), .unset]) rfl k) ?_
      show own_Go _ _ _ _ Tt (mkF m 480 #[.val (.int p1), .val (.int p2), .val (.int p3), .val (.long q4), .second, .val (.long q5), .second, .val (.int p6), .val (.int ki), .val (.int ei), .val (.int sp), .val (.int r), .val (.int 0), .val (.int st), .val (.int en), .val (.ref sc), .val (.ref ta), .val (.ref u1), .val (.ref u2), .val (.ref tka), .val (.int av), .val (.int xa), .val (.int 0), .unset] [])
      exact tE _ _ _ _ _ Xt Nt et Ot hS hkt hZ hown ki ei _ _ _ _ _ _ _ _ _ _ _ _ _ hxx (Or.inl rfl) (hE.trans (by simp only [hs0, not_true_eq_false, not_false_eq_true, and_true, true_and, and_false, false_and, if_false, own_01]))
    · refine own_st (fun _ k => XS.ifNo Xt.here hx rfl (hb hby at_380) rfl ((if0 _ _).trans (flt (hs0 : ¬ (st < (0 : Int32)))).1) k) ?_
      refine own_st (fun _ k => XS.iload Xt.here hx rfl (hb hby at_383) rfl k) ?_
      refine own_st (fun _ k => XS.i2l Xt.here hx rfl (hb hby at_385) rfl k) ?_
      refine own_st (fun _ k => XS.iload Xt.here hx rfl (hb hby at_386) rfl k) ?_
      refine own_st (fun _ k => XS.i2l Xt.here hx rfl (hb hby at_388) rfl k) ?_
      show own_Go _ _ _ _ Tt (mkF m 389 #[.val (.int p1), .val (.int p2), .val (.int p3), .val (.long q4), .second, .val (.long q5), .second, .val (.int p6), .val (.int ki), .val (.int ei), .val (.int sp), .val (.int r), .val (.int 0), .val (.int st), .val (.int en), .val (.ref sc), .val (.ref ta), .val (.ref u1), .val (.ref u2), .val (.ref tka), .val (.int av), .val (.int xa), .unset, .unset] [(.long ((0 : Int32).toInt64)), (.long (st.toInt64))])
      rw [show ((0 : Int32).toInt64) = (0 : Int64) from by decide]
      refine own_st (fun _ k => XS.ladd Xt.here hx rfl (hb hby at_389) rfl k) ?_
      refine own_st (fun _ k => XS.iload Xt.here hx rfl (hb hby at_390) rfl k) ?_
      refine own_st (fun _ k => XS.i2l Xt.here hx rfl (hb hby at_392) rfl k) ?_
      refine own_st (fun _ k => XS.lcmp Xt.here hx rfl (hb hby at_393) rfl k) ?_
      by_cases hs1 : (0 : Int32) < (lcmpW ((st.toInt64) + (0 : Int64)) (r.toInt64))
      · refine own_st (fun _ k => XS.ifYes Xt.here hx rfl (pc0 := 394) (pc' := 477) rfl (hb hby at_394) rfl ((if0 _ _).trans (tlt (hs1 : (0 : Int32) < (lcmpW ((st.toInt64) + (0 : Int64)) (r.toInt64)))).2.2.1) (by decide) (by decide) k) ?_
        refine own_st (fun _ k => XS.iconst Xt.here hx rfl (hb hby at_477) k) ?_
        refine own_st (fun _ k => XS.istore Xt.here hx rfl (hb hby at_478) rfl (l' := #[.val (.int p1), .val (.int p2), .val (.int p3), .val (.long q4), .second, .val (.long q5), .second, .val (.int p6), .val (.int ki), .val (.int ei), .val (.int sp), .val (.int r), .val (.int 0), .val (.int st), .val (.int en), .val (.ref sc), .val (.ref ta), .val (.ref u1), .val (.ref u2), .val (.ref tka), .val (.int av), .val (.int xa), .val (.int 0), .unset]) rfl k) ?_
        show own_Go _ _ _ _ Tt (mkF m 480 #[.val (.int p1), .val (.int p2), .val (.int p3), .val (.long q4), .second, .val (.long q5), .second, .val (.int p6), .val (.int ki), .val (.int ei), .val (.int sp), .val (.int r), .val (.int 0), .val (.int st), .val (.int en), .val (.ref sc), .val (.ref ta), .val (.ref u1), .val (.ref u2), .val (.ref tka), .val (.int av), .val (.int xa), .val (.int 0), .unset] [])
        exact tE _ _ _ _ _ Xt Nt et Ot hS hkt hZ hown ki ei _ _ _ _ _ _ _ _ _ _ _ _ _ hxx (Or.inl rfl) (hE.trans (by simp only [hs0, hs1, not_true_eq_false, not_false_eq_true, and_true, true_and, and_false, false_and, if_false, own_01]))
      · refine own_st (fun _ k => XS.ifNo Xt.here hx rfl (hb hby at_394) rfl ((if0 _ _).trans (flt (hs1 : ¬ ((0 : Int32) < (lcmpW ((st.toInt64) + (0 : Int64)) (r.toInt64))))).2.2.1) k) ?_
        refine own_st (fun _ k => XS.iload Xt.here hx rfl (hb hby at_397) rfl k) ?_
        refine own_st (fun _ k => XS.iconst Xt.here hx rfl (hb hby at_399) k) ?_
        show own_Go _ _ _ _ Tt (mkF m 400 #[.val (.int p1), .val (.int p2), .val (.int p3), .val (.long q4), .second, .val (.long q5), .second, .val (.int p6), .val (.int ki), .val (.int ei), .val (.int sp), .val (.int r), .val (.int 0), .val (.int st), .val (.int en), .val (.ref sc), .val (.ref ta), .val (.ref u1), .val (.ref u2), .val (.ref tka), .val (.int av), .val (.int xa), .unset, .unset] [(.int 1), (.int 0)])
        refine own_st (fun _ k => XS.icmpYes Xt.here hx rfl (pc0 := 400) (pc' := 421) rfl (hb hby at_400) rfl (tlt (by decide : (0 : Int32) < (1 : Int32))).1 (by decide) (by decide) k) ?_
        refine own_st (fun _ k => XS.iload Xt.here hx rfl (hb hby at_421) rfl k) ?_
        refine own_st (fun _ k => XS.iconst Xt.here hx rfl (hb hby at_423) k) ?_
        refine own_st (fun _ k => XS.icmpYes Xt.here hx rfl (pc0 := 424) (pc' := 447) rfl (hb hby at_424) rfl (tlt (by decide : (0 : Int32) < (2 : Int32))).1 (by decide) (by decide) k) ?_
        refine own_st (fun _ k => XS.iload Xt.here hx rfl (hb hby at_447) rfl k) ?_
        refine own_st (fun _ k => XS.iconst Xt.here hx rfl (hb hby at_449) k) ?_
        refine own_st (fun _ k => XS.icmpYes Xt.here hx rfl (pc0 := 450) (pc' := 473) rfl (hb hby at_450) rfl (tlt (by decide : (0 : Int32) < (3 : Int32))).1 (by decide) (by decide) k) ?_
        refine own_st (fun _ k => XS.iconst Xt.here hx rfl (hb hby at_473) k) ?_
        show own_Go _ _ _ _ Tt (mkF m 474 #[.val (.int p1), .val (.int p2), .val (.int p3), .val (.long q4), .second, .val (.long q5), .second, .val (.int p6), .val (.int ki), .val (.int ei), .val (.int sp), .val (.int r), .val (.int 0), .val (.int st), .val (.int en), .val (.ref sc), .val (.ref ta), .val (.ref u1), .val (.ref u2), .val (.ref tka), .val (.int av), .val (.int xa), .unset, .unset] [(.int 1)])
        refine own_st (fun _ k => XS.goto Xt.here hx rfl (pc0 := 474) (pc' := 478) rfl (hb hby at_474) (by decide) (by decide) k) ?_
        refine own_st (fun _ k => XS.istore Xt.here hx rfl (hb hby at_478) rfl (l' := #[.val (.int p1), .val (.int p2), .val (.int p3), .val (.long q4), .second, .val (.long q5), .second, .val (.int p6), .val (.int ki), .val (.int ei), .val (.int sp), .val (.int r), .val (.int 0), .val (.int st), .val (.int en), .val (.ref sc), .val (.ref ta), .val (.ref u1), .val (.ref u2), .val (.ref tka), .val (.int av), .val (.int xa), .val (.int 1), .unset]) rfl k) ?_
        show own_Go _ _ _ _ Tt (mkF m 480 #[.val (.int p1), .val (.int p2), .val (.int p3), .val (.long q4), .second, .val (.long q5), .second, .val (.int p6), .val (.int ki), .val (.int ei), .val (.int sp), .val (.int r), .val (.int 0), .val (.int st), .val (.int en), .val (.ref sc), .val (.ref ta), .val (.ref u1), .val (.ref u2), .val (.ref tka), .val (.int av), .val (.int xa), .val (.int 1), .unset] [])
        exact tE _ _ _ _ _ Xt Nt et Ot hS hkt hZ hown ki ei _ _ _ _ _ _ _ _ _ _ _ _ _ hxx (Or.inr rfl) (hE.trans (by simp only [hs0, hs1, not_true_eq_false, not_false_eq_true, and_true, true_and, and_false, false_and, if_false, own_01]))
  have tl3_0 : ∀ (Tt : State) (lt : List Loc) (ht : Heap) (vmt : Vm) (kt : Nat) (Xt : Stand p l e room_1 (s.setVm vmt) m #[(.int p1), (.int p2), (.int p3), (.long q4), (.long q5), (.int p6)] below meth c Tt lt 10 41) (Nt : Fr n0 lt) (et : Tt.heap = ht) (Ot : Ext h0 ht) (hS : s.Since vmt kt) (hkt : kt ≤ ht.size) (hZ : Z.Warmed39 (s.setVm vmt).vm) (hown : (s.setVm vmt).vm.findClass "com/example/isoscope/isoscope/TokenIsPinLaw" = some m.cls) (ki ei sp r st en : Int32) (hki : 0 ≤ ki.toInt ∧ ki.toInt < 9) (hei : 0 ≤ ei.toInt ∧ ei.toInt < 9) (hr : 0 ≤ r.toInt ∧ r.toInt < 6) (sc ta : Addr) (ksc kta : ClassId) (s0 s1 s2 s3 s4 s5 t0 t1 t2 : Int32) (gc0 : own_ch s0) (gc1 : own_ch s1) (gc2 : own_ch s2) (gc3 : own_ch s3) (gc4 : own_ch s4) (gc5 : own_ch s5) (d0 : own_ch t0) (d1 : own_ch t1) (d2 : own_ch t2) (Vsc : Arv Z ht sc ksc .char (6 : Int32) [(.int s0), (.int s1), (.int s2), (.int s3), (.int s4), (.int s5)] (.int 0)) (Vta : Arv Z ht ta kta .char (3 : Int32) [(.int t0), (.int t1), (.int t2)] (.int 0)) (u1 v1 : Addr) (k1 : ClassId) (vs : List Value) (Eu1 : Exa Z ht u1 "java/lang/String") (Fv1 : Fld Z ht u1 "java/lang/String" "value" "[B" (.ref v1)) (Fc1 : Fld Z ht u1 "java/lang/String" "coder" "B" (.int 0)) (Vu1 : Arv Z ht v1 k1 .byte r vs (.int 0)) (hB : ∀ j : Int32, ¬ j < 0 → j < r → vs.getD j.toNatClampNeg (.int 0) = .int (own_bf s0 s1 s2 s3 s4 s5 j)) (u2 v2 : Addr) (k2 : ClassId) (Eu2 : Exa Z ht u2 "java/lang/String") (Fv2 : Fld Z ht u2 "java/lang/String" "value" "[B" (.ref v2)) (Fc2 : Fld Z ht u2 "java/lang/String" "coder" "B" (.int 0)) (Vu2 : Arv Z ht v2 k2 .byte (0 : Int32) [] (.int 0)), own_Go p.tables e below (own_FW below s (own_law_Q Z p1 p2 p3 q4 q5 p6 w0 w1 w2 w3 w4 w5 w6 w7 w8 cs h0 n0) 32 1216) Tt (mkF m 321 #[.val (.int p1), .val (.int p2), .val (.int p3), .val (.long q4), .second, .val (.long q5), .second, .val (.int p6), .val (.int ki), .val (.int ei), .val (.int sp), .val (.int r), .val (.int 0), .val (.int st), .val (.int en), .val (.ref sc), .val (.ref ta), .val (.ref u1), .val (.ref u2), .unset, .unset, .unset, .unset, .unset] []) := by
    intro Tt lt ht vmt kt Xt Nt et Ot hS hkt hZ hown ki ei sp r st en hki hei hr sc ta ksc kta s0 s1 s2 s3 s4 s5 t0 t1 t2 gc0 gc1 gc2 gc3 gc4 gc5 d0 d1 d2 Vsc Vta u1 v1 k1 vs Eu1 Fv1 Fc1 Vu1 hB u2 v2 k2 Eu2 Fv2 Fc2 Vu2
    obtain ⟨T1, hp1, X1, e1, Et1, A1, D1, -, st1⟩ := newO Xt hx hZ hown (own_w41 hw) (own_w42 hw) (own_w43 hw) et (g := (mkF m 321 #[.val (.int p1), .val (.int p2), .val (.int p3), .val (.long q4), .second, .val (.long q5), .second, .val (.int p6), .val (.int ki), .val (.int ei), .val (.int sp), .val (.int r), .val (.int 0), .val (.int st), .val (.int en), .val (.ref sc), .val (.ref ta), .val (.ref u1), .val (.ref u2), .unset, .unset, .unset, .unset, .unset] [])) rfl (hb hby at_321) (by decide) (by decide)
    obtain ⟨b1, g1⟩ : ∃ z, z = ht.size := ⟨_, rfl⟩
    rw [← g1] at A1 D1 st1
    have s_b1 : h0.size ≤ b1 := Nat.le_trans Ot.1 (Nat.le_of_eq g1.symm)
    have g_b1 : n0 ≤ b1 := Nat.le_trans Z0 s_b1
    have lt_sc_b1 : sc < b1 := Nat.lt_of_lt_of_le Vsc.lt (Nat.le_of_eq g1.symm)
    have lt_ta_b1 : ta < b1 := Nat.lt_of_lt_of_le Vta.lt (Nat.le_of_eq g1.symm)
    have lt_u1_b1 : u1 < b1 := Nat.lt_of_lt_of_le Eu1.lt (Nat.le_of_eq g1.symm)
    have lt_v1_b1 : v1 < b1 := Nat.lt_of_lt_of_le Vu1.lt (Nat.le_of_eq g1.symm)
    have lt_u2_b1 : u2 < b1 := Nat.lt_of_lt_of_le Eu2.lt (Nat.le_of_eq g1.symm)
    have lt_v2_b1 : v2 < b1 := Nat.lt_of_lt_of_le Vu2.lt (Nat.le_of_eq g1.symm)
    have hk1 := Nat.le_trans hkt Et1.1
    have O1 := own_extt Ot Et1
    have V_sc_1 := Vsc.ext Et1
    have V_ta_1 := Vta.ext Et1
    have V_v1_1 := Vu1.ext Et1
    have V_v2_1 := Vu2.ext Et1
    have Ex_u1_1 := Eu1.ext Et1
    have Ex_u2_1 := Eu2.ext Et1
    have F_value_u1_1 := Fv1.ext Et1
    have F_coder_u1_1 := Fc1.ext Et1
    have F_value_u2_1 := Fv2.ext Et1
    have F_coder_u2_1 := Fc2.ext Et1
    have F_kind_b1 : Fld Z hp1 b1 "com/example/isoscope/isoscope/SqlLexer$Token" "kind" "Lcom/example/isoscope/isoscope/SqlLexer$Kind;" .null := D1 (Or.inr (own_w60 hw)) (ty := (.object "com/example/isoscope/isoscope/SqlLexer$Kind")) (by decide)
    have F_start_b1 : Fld Z hp1 b1 "com/example/isoscope/isoscope/SqlLexer$Token" "start" "I" (.int 0) := D1 (Or.inr (own_w62 hw)) (ty := .int) (by decide)
    have F_end_b1 : Fld Z hp1 b1 "com/example/isoscope/isoscope/SqlLexer$Token" "end" "I" (.int 0) := D1 (Or.inr (own_w64 hw)) (ty := .int) (by decide)
    have F_spaced_b1 : Fld Z hp1 b1 "com/example/isoscope/isoscope/SqlLexer$Token" "spaced" "Z" (.int 0) := D1 (Or.inr (own_w66 hw)) (ty := .boolean) (by decide)
    refine own_st st1 ?_
    refine own_st (fun _ k => XS.dup X1.here hx rfl (hb hby at_324) rfl rfl k) ?_
    refine own_st (fun _ k => XS.iload X1.here hx rfl (hb hby at_325) rfl k) ?_
    obtain ⟨v2, T2, L2, hQ2, X2, st2⟩ := own_callS X1 hx hZ (y := (⟨"com/example/isoscope/isoscope/TokenIsPinLaw", "kind", "(I)Lcom/example/isoscope/isoscope/SqlLexer$Kind;"⟩ : MethodName)) hown (own_w44 hw) (own_w45 hw) (own_w4 hw) (own_w46 hw) (by decide) (own_kind l hw [] ki w0 w1 w2 w3 w4 w5 w6 w7 w8 hp1 n0 (Nat.le_trans Z0 O1.1) (S0.ext O1) (S1.ext O1) (S2.ext O1) (S3.ext O1) (S4.ext O1) (S5.ext O1) (S6.ext O1) (S7.ext O1) (S8.ext O1)) e1 (g := (mkF m 327 #[.val (.int p1), .val (.int p2), .val (.int p3), .val (.long q4), .second, .val (.long q5), .second, .val (.int p6), .val (.int ki), .val (.int ei), .val (.int sp), .val (.int r), .val (.int 0), .val (.int st), .val (.int en), .val (.ref sc), .val (.ref ta), .val (.ref u1), .val (.ref u2), .unset, .unset, .unset, .unset, .unset] [(.int ki), (.ref b1), (.ref b1)])) rfl (by rw [hml]; rfl) (argsL := [(.int ki)]) (rest := [(.ref b1), (.ref b1)]) (lenOf own_pd11 rfl) rfl rfl (W := 2) (Nat.le_of_eq rfl) (hb hby at_327) (by decide) (by decide) (by decide) (by decide)
    obtain ⟨rfl, N2, e2⟩ := hQ2
    have N2' := Fr.app Nt N2
    refine own_st st2 ?_
    refine own_st (fun _ k => XS.iload X2.here hx rfl (hb hby at_330) rfl k) ?_
    refine own_st (fun _ k => XS.iload X2.here hx rfl (hb hby at_332) rfl k) ?_
    refine own_st (fun _ k => XS.iload X2.here hx rfl (hb hby at_334) rfl k) ?_
    obtain ⟨v3, T3, L3, hQ3, X3, st3⟩ := own_callI X2 hx hZ (y := (⟨"com/example/isoscope/isoscope/SqlLexer$Token", "<init>", "(Lcom/example/isoscope/isoscope/SqlLexer$Kind;IIZ)V"⟩ : MethodName)) rfl hown (own_w50 hw) (own_w51 hw) (own_w43 hw) (own_w52 hw) (by decide) (own_tk l hw [] b1 (own_kd ki w0 w1 w2 w3 w4 w5 w6 w7 w8) st en sp hp1 n0 (Nat.le_trans Z0 O1.1) g_b1 A1 F_kind_b1 F_start_b1 F_end_b1 F_spaced_b1) e2 (g := (mkF m 336 #[.val (.int p1), .val (.int p2), .val (.int p3), .val (.long q4), .second, .val (.long q5), .second, .val (.int p6), .val (.int ki), .val (.int ei), .val (.int sp), .val (.int r), .val (.int 0), .val (.int st), .val (.int en), .val (.ref sc), .val (.ref ta), .val (.ref u1), .val (.ref u2), .unset, .unset, .unset, .unset, .unset] [(.int sp), (.int en), (.int st), (.ref (own_kd ki w0 w1 w2 w3 w4 w5 w6 w7 w8)), (.ref b1), (.ref b1)])) rfl (by rw [hml]; rfl) (argsL := [(.ref (own_kd ki w0 w1 w2 w3 w4 w5 w6 w7 w8)), (.int st), (.int en), (.int sp)]) (rest := [(.ref b1)]) (lenOf own_pd12 rfl) rfl rfl (W := 1) (Nat.le_of_eq rfl) (hb hby at_336) (by decide) (by decide) (by decide) (by decide)
    obtain ⟨rfl, N3, K3, Tk3, Ts3, Te3⟩ := hQ3
    have O3 := own_extk O1 K3 s_b1
    have hk3 := Nat.le_trans hk1 K3.1
    have V_sc_3 := V_sc_1.keep K3 (ninS (Nat.ne_of_lt lt_sc_b1) nin0)
    have V_ta_3 := V_ta_1.keep K3 (ninS (Nat.ne_of_lt lt_ta_b1) nin0)
    have V_v1_3 := V_v1_1.keep K3 (ninS (Nat.ne_of_lt lt_v1_b1) nin0)
    have V_v2_3 := V_v2_1.keep K3 (ninS (Nat.ne_of_lt lt_v2_b1) nin0)
    have Ex_u1_3 := Ex_u1_1.keep K3
    have Ex_u2_3 := Ex_u2_1.keep K3
    have Ex_b1_3 := A1.keep K3
    have F_value_u1_3 := F_value_u1_1.keep K3 (ninS (Nat.ne_of_lt lt_u1_b1) nin0)
    have F_coder_u1_3 := F_coder_u1_1.keep K3 (ninS (Nat.ne_of_lt lt_u1_b1) nin0)
    have F_value_u2_3 := F_value_u2_1.keep K3 (ninS (Nat.ne_of_lt lt_u2_b1) nin0)
    have F_coder_u2_3 := F_coder_u2_1.keep K3 (ninS (Nat.ne_of_lt lt_u2_b1) nin0)
    have N3' := Fr.app N2' N3
    refine own_st st3 ?_
    show own_Go _ _ _ _ T3 (mkF m 339 #[.val (.int p1), .val (.int p2), .val (.int p3), .val (.long q4), .second, .val (.long q5), .second, .val (.int p6), .val (.int ki), .val (.int ei), .val (.int sp), .val (.int r), .val (.int 0), .val (.int st), .val (.int en), .val (.ref sc), .val (.ref ta), .val (.ref u1), .val (.ref u2), .unset, .unset, .unset, .unset, .unset] [(.ref b1)])
    refine own_st (fun _ k => XS.astore X3.here hx rfl (hb hby at_339) rfl rfl (l' := #[.val (.int p1), .val (.int p2), .val (.int p3), .val (.long q4), .second, .val (.long q5), .second, .val (.int p6), .val (.int ki), .val (.int ei), .val (.int sp), .val (.int r), .val (.int 0), .val (.int st), .val (.int en), .val (.ref sc), .val (.ref ta), .val (.ref u1), .val (.ref u2), .val (.ref b1), .unset, .unset, .unset, .unset]) rfl k) ?_
    refine own_st (fun _ k => XS.aload X3.here hx rfl (hb hby at_341) rfl rfl k) ?_
    refine own_st (fun _ k => XS.aload X3.here hx rfl (hb hby at_343) rfl rfl k) ?_
    refine own_st (fun _ k => XS.iload X3.here hx rfl (hb hby at_345) rfl k) ?_
    obtain ⟨v4, T4, L4, hQ4, X4, st4⟩ := own_callS X3 hx hZ (y := (⟨"com/example/isoscope/isoscope/TokenIsPinLaw", "kind", "(I)Lcom/example/isoscope/isoscope/SqlLexer$Kind;"⟩ : MethodName)) hown (own_w44 hw) (own_w45 hw) (own_w4 hw) (own_w46 hw) (by decide) (own_kind l hw [] ei w0 w1 w2 w3 w4 w5 w6 w7 w8 T3.heap n0 (Nat.le_trans Z0 O3.1) (S0.ext O3) (S1.ext O3) (S2.ext O3) (S3.ext O3) (S4.ext O3) (S5.ext O3) (S6.ext O3) (S7.ext O3) (S8.ext O3)) rfl (g := (mkF m 347 #[.val (.int p1), .val (.int p2), .val (.int p3), .val (.long q4), .second, .val (.long q5), .second, .val (.int p6), .val (.int ki), .val (.int ei), .val (.int sp), .val (.int r), .val (.int 0), .val (.int st), .val (.int en), .val (.ref sc), .val (.ref ta), .val (.ref u1), .val (.ref u2), .val (.ref b1), .unset, .unset, .unset, .unset] [(.int ei), (.ref u1), (.ref b1)])) rfl (by rw [hml]; rfl) (argsL := [(.int ei)]) (rest := [(.ref u1), (.ref b1)]) (lenOf own_pd11 rfl) rfl rfl (W := 2) (Nat.le_of_eq rfl) (hb hby at_347) (by decide) (by decide) (by decide) (by decide)
    obtain ⟨rfl, N4, e4⟩ := hQ4
    have N4' := Fr.app N3' N4
    refine own_st st4 ?_
    refine own_st (fun _ k => XS.aload X4.here hx rfl (hb hby at_350) rfl rfl k) ?_
    obtain ⟨v5, T5, L5, hQ5, X5, st5⟩ := own_callV X4 hx hZ (y := (⟨"com/example/isoscope/isoscope/SqlLexer$Token", "is", "(Ljava/lang/String;Lcom/example/isoscope/isoscope/SqlLexer$Kind;Ljava/lang/String;)Z"⟩ : MethodName)) hown (own_w67 hw) (own_w68 hw) (own_w70 hw) (own_w69 hw) (own_w43 hw) (own_w71 hw) (by decide) (own_is0 l hw [] b1 u1 (own_kd ei w0 w1 w2 w3 w4 w5 w6 w7 w8) u2 (own_kd ki w0 w1 w2 w3 w4 w5 w6 w7 w8) v1 v2 st en r cs k1 k2 vs (own_bf s0 s1 s2 s3 s4 s5)  T3.heap n0 (Nat.le_trans Z0 O3.1) (by omega) Tk3 Ts3 Te3 (Scs.ext O3) hcs Ex_u1_3 F_value_u1_3 F_coder_u1_3 V_v1_3 hB Ex_u2_3 F_value_u2_3 F_coder_u2_3 V_v2_3) e4 Ex_b1_3 (g := (mkF m 352 #[.val (.int p1), .val (.int p2), .val (.int p3), .val (.long q4), .second, .val (.long q5), .second, .val (.int p6), .val (.int ki), .val (.int ei), .val (.int sp), .val (.int r), .val (.int 0), .val (.int st), .val (.int en), .val (.ref sc), .val (.ref ta), .val (.ref u1), .val (.ref u2), .val (.ref b1), .unset, .unset, .unset, .unset] [(.ref u2), (.ref (own_kd ei w0 w1 w2 w3 w4 w5 w6 w7 w8)), (.ref u1), (.ref b1)])) rfl (by rw [hml]; rfl) (argsL := [(.ref u1), (.ref (own_kd ei w0 w1 w2 w3 w4 w5 w6 w7 w8)), (.ref u2)]) (rest := []) (lenOf own_pd13 rfl) rfl rfl (W := 0) (Nat.le_of_eq rfl) (hb hby at_352) (by decide) (by decide) (by decide) (by decide)
    obtain ⟨rfl, N5, e5⟩ := hQ5
    have N5' := Fr.app N4' N5
    refine own_st st5 ?_
    show own_Go _ _ _ _ T5 (mkF m 355 #[.val (.int p1), .val (.int p2), .val (.int p3), .val (.long q4), .second, .val (.long q5), .second, .val (.int p6), .val (.int ki), .val (.int ei), .val (.int sp), .val (.int r), .val (.int 0), .val (.int st), .val (.int en), .val (.ref sc), .val (.ref ta), .val (.ref u1), .val (.ref u2), .val (.ref b1), .unset, .unset, .unset, .unset] [(.int (if own_kd ki w0 w1 w2 w3 w4 w5 w6 w7 w8 = own_kd ei w0 w1 w2 w3 w4 w5 w6 w7 w8 then (if en - st = (0 : Int32) then (if st < 0 then (0 : Int32) else if (0 : Int32) < lcmpW st.toInt64 (r.toInt64 - (0 : Int64)) then (0 : Int32) else (1 : Int32)) else (0 : Int32)) else (0 : Int32)))])
    generalize hav : (if own_kd ki w0 w1 w2 w3 w4 w5 w6 w7 w8 = own_kd ei w0 w1 w2 w3 w4 w5 w6 w7 w8 then (if en - st = (0 : Int32) then (if st < 0 then (0 : Int32) else if (0 : Int32) < lcmpW st.toInt64 (r.toInt64 - (0 : Int64)) then (0 : Int32) else (1 : Int32)) else (0 : Int32)) else (0 : Int32)) = av
    show own_Go _ _ _ _ T5 (mkF m 355 #[.val (.int p1), .val (.int p2), .val (.int p3), .val (.long q4), .second, .val (.long q5), .second, .val (.int p6), .val (.int ki), .val (.int ei), .val (.int sp), .val (.int r), .val (.int 0), .val (.int st), .val (.int en), .val (.ref sc), .val (.ref ta), .val (.ref u1), .val (.ref u2), .val (.ref b1), .unset, .unset, .unset, .unset] [(.int av)])
    have Hkd : (own_kd ki w0 w1 w2 w3 w4 w5 w6 w7 w8 = own_kd ei w0 w1 w2 w3 w4 w5 w6 w7 w8) ↔ ki = ei := ⟨fun q => Decidable.byContradiction fun n => Fld.ne (Fk ki hki.1 (by omega)) (Fk ei hei.1 (by omega)) (fun z => n (Value.int.inj z)) q, fun q => by rw [q]⟩
    simp only [Hkd, own_E2 st r (0 : Int64) 0 (by decide) (by decide) (by decide)] at hav
    have hres : ∀ xa : Int32, (xa = if lcmpW (en.toInt64 - st.toInt64) (0 : Int64) = 0 then 1 else 0) → av = if ki = ei ∧ xa = 1 ∧ (¬ st < 0 ∧ ¬ (0 : Int32) < lcmpW (st.toInt64 + (0 : Int64)) r.toInt64) then 1 else 0 := fun xa hxa => hav.symm.trans (own_logic (A := lcmpW (en.toInt64 - st.toInt64) (0 : Int64) = 0) own_reg0 (fun q => own_E1 (k := 0) (by decide) (by decide) (by decide) (by decide) (by omega) q.1 q.2) hxa)
    refine own_st (fun _ k => XS.istore X5.here hx rfl (hb hby at_355) rfl (l' := #[.val (.int p1), .val (.int p2), .val (.int p3), .val (.long q4), .second, .val (.long q5), .second, .val (.int p6), .val (.int ki), .val (.int ei), .val (.int sp), .val (.int r), .val (.int 0), .val (.int st), .val (.int en), .val (.ref sc), .val (.ref ta), .val (.ref u1), .val (.ref u2), .val (.ref b1), .val (.int av), .unset, .unset, .unset]) rfl k) ?_
    refine own_st (fun _ k => XS.iload X5.here hx rfl (hb hby at_357) rfl k) ?_
    refine own_st (fun _ k => XS.i2l X5.here hx rfl (hb hby at_359) rfl k) ?_
    refine own_st (fun _ k => XS.iload X5.here hx rfl (hb hby at_360) rfl k) ?_
    refine own_st (fun _ k => XS.i2l X5.here hx rfl (hb hby at_362) rfl k) ?_
    refine own_st (fun _ k => XS.lsub X5.here hx rfl (hb hby at_363) rfl k) ?_
    refine own_st (fun _ k => XS.iload X5.here hx rfl (hb hby at_364) rfl k) ?_
    refine own_st (fun _ k => XS.i2l X5.here hx rfl (hb hby at_366) rfl k) ?_
    show own_Go _ _ _ _ T5 (mkF m 367 #[.val (.int p1), .val (.int p2), .val (.int p3), .val (.long q4), .second, .val (.long q5), .second, .val (.int p6), .val (.int ki), .val (.int ei), .val (.int sp), .val (.int r), .val (.int 0), .val (.int st), .val (.int en), .val (.ref sc), .val (.ref ta), .val (.ref u1), .val (.ref u2), .val (.ref b1), .val (.int av), .unset, .unset, .unset] [(.long ((0 : Int32).toInt64)), (.long ((en.toInt64) - (st.toInt64)))])
    rw [show ((0 : Int32).toInt64) = (0 : Int64) from by decide]
    refine own_st (fun _ k => XS.lcmp X5.here hx rfl (hb hby at_367) rfl k) ?_
    by_cases hA : (lcmpW ((en.toInt64) - (st.toInt64)) (0 : Int64)) = (0 : Int32)
    · refine own_st (fun _ k => XS.ifNo X5.here hx rfl (hb hby at_368) rfl ((if0 _ _).trans (teq (hA : (lcmpW ((en.toInt64) - (st.toInt64)) (0 : Int64)) = (0 : Int32))).2) k) ?_
      refine own_st (fun _ k => XS.iconst X5.here hx rfl (hb hby at_371) k) ?_
      refine own_st (fun _ k => XS.goto X5.here hx rfl (pc0 := 372) (pc' := 376) rfl (hb hby at_372) (by decide) (by decide) k) ?_
      refine own_st (fun _ k => XS.istore X5.here hx rfl (hb hby at_376) rfl (l' := #[.val (.int p1), .val (.int p2), .val (.int p3), .val (.long q4), .second, .val (.long q5), .second, .val (.int p6), .val (.int ki), .val (.int ei), .val (.int sp), .val (.int r), .val (.int 0), .val (.int st), .val (.int en), .val (.ref sc), .val (.ref ta), .val (.ref u1), .val (.ref u2), .val (.ref b1), .val (.int av), .val (.int 1), .unset, .unset]) rfl k) ?_
      show own_Go _ _ _ _ T5 (mkF m 378 #[.val (.int p1), .val (.int p2), .val (.int p3), .val (.long q4), .second, .val (.long q5), .second, .val (.int p6), .val (.int ki), .val (.int ei), .val (.int sp), .val (.int r), .val (.int 0), .val (.int st), .val (.int en), .val (.ref sc), .val (.ref ta), .val (.ref u1), .val (.ref u2), .val (.ref b1), .val (.int av), .val (.int 1), .unset, .unset] [])
      exact tR_0 _ _ _ _ _ X5 N5' e5 O3 hS hk3 hZ hown _ _ _ _ _ _ _ _ hr _ _ _ _ _ _ _ _ _ _ _ _ _ gc0 gc1 gc2 gc3 gc4 gc5 d0 d1 d2 V_sc_3 V_ta_3 _ _ _ (Or.inr rfl) (hres _ (by simp [hA]))
    · refine own_st (fun _ k => XS.ifYes X5.here hx rfl (pc0 := 368) (pc' := 375) rfl (hb hby at_368) rfl ((if0 _ _).trans (feq (hA : ¬ ((lcmpW ((en.toInt64) - (st.toInt64)) (0 : Int64)) = (0 : Int32)))).2) (by decide) (by decide) k) ?_
      refine own_st (fun _ k => XS.iconst X5.here hx rfl (hb hby at_375) k) ?_
      refine own_st (fun _ k => XS.istore X5.here hx rfl (hb hby at_376) rfl (l' := #[.val (.int p1), .val (.int p2), .val (.int p3), .val (.long q4), .second, .val (.long q5), .second, .val (.int p6), .val (.int ki), .val (.int ei), .val (.int sp), .val (.int r), .val (.int 0), .val (.int st), .val (.int en), .val (.ref sc), .val (.ref ta), .val (.ref u1), .val (.ref u2), .val (.ref b1), .val (.int av), .val (.int 0), .unset, .unset]) rfl k) ?_
      show own_Go _ _ _ _ T5 (mkF m 378 #[.val (.int p1), .val (.int p2), .val (.int p3), .val (.long q4), .second, .val (.long q5), .second, .val (.int p6), .val (.int ki), .val (.int ei), .val (.int sp), .val (.int r), .val (.int 0), .val (.int st), .val (.int en), .val (.ref sc), .val (.ref ta), .val (.ref u1), .val (.ref u2), .val (.ref b1), .val (.int av), .val (.int 0), .unset, .unset] [])
      exact tR_0 _ _ _ _ _ X5 N5' e5 O3 hS hk3 hZ hown _ _ _ _ _ _ _ _ hr _ _ _ _ _ _ _ _ _ _ _ _ _ gc0 gc1 gc2 gc3 gc4 gc5 d0 d1 d2 V_sc_3 V_ta_3 _ _ _ (Or.inl rfl) (hres _ (by simp [hA]))
  have tR_1 : ∀ (Tt : State) (lt : List Loc) (ht : Heap) (vmt : Vm) (kt : Nat) (Xt : Stand p l e room_1 (s.setVm vmt) m #[(.int p1), (.int p2), (.int p3), (.long q4), (.long q5), (.int p6)] below meth c Tt lt 11 45) (Nt : Fr n0 lt) (et : Tt.heap = ht) (Ot : Ext h0 ht) (hS : s.Since vmt kt) (hkt : kt ≤ ht.size) (hZ : Z.Warmed39 (s.setVm vmt).vm) (hown : (s.setVm vmt).vm.findClass "com/example/isoscope/isoscope/TokenIsPinLaw" = some m.cls) (ki ei sp r st en : Int32) (u1 u2 : Addr) (hr : 0 ≤ r.toInt ∧ r.toInt < 6) (sc ta : Addr) (ksc kta : ClassId) (s0 s1 s2 s3 s4 s5 t0 t1 t2 : Int32) (gc0 : own_ch s0) (gc1 : own_ch s1) (gc2 : own_ch s2) (gc3 : own_ch s3) (gc4 : own_ch s4) (gc5 : own_ch s5) (d0 : own_ch t0) (d1 : own_ch t1) (d2 : own_ch t2) (Vsc : Arv Z ht sc ksc .char (6 : Int32) [(.int s0), (.int s1), (.int s2), (.int s3), (.int s4), (.int s5)] (.int 0)) (Vta : Arv Z ht ta kta .char (3 : Int32) [(.int t0), (.int t1), (.int t2)] (.int 0)) (tka : Addr) (av xa : Int32) (hxx : xa = 0 ∨ xa = 1) (hE : av = if ki = ei ∧ xa = 1 ∧ (¬ st < 0 ∧ ¬ (0 : Int32) < lcmpW (st.toInt64 + (1 : Int64)) r.toInt64 ∧ own_fold (own_get s0 s1 s2 s3 s4 s5 st) = own_fold t0) then 1 else 0), own_Go p.tables e below (own_FW below s (own_law_Q Z p1 p2 p3 q4 q5 p6 w0 w1 w2 w3 w4 w5 w6 w7 w8 cs h0 n0) 32 1216) Tt (mkF m 378 #[.val (.int p1), .val (.int p2), .val (.int p3), .val (.long q4), .second, .val (.long q5), .second, .val (.int p6), .val (.int ki), .val (.int ei), .val (.int sp), .val (.int r), .val (.int 1), .val (.int st), .val (.int en), .val (.ref sc), .val (.ref ta), .val (.ref u1), .val (.ref u2), .val (.ref tka), .val (.int av), .val (.int xa), .unset, .unset] []) := by
    intro Tt lt ht vmt kt Xt Nt et Ot hS hkt hZ hown ki ei sp r st en u1 u2 hr sc ta ksc kta s0 s1 s2 s3 s4 s5 t0 t1 t2 gc0 gc1 gc2 gc3 gc4 gc5 d0 d1 d2 Vsc Vta tka av xa hxx hE
    refine own_st (fun _ k => XS.iload Xt.here hx rfl (hb hby at_378) rfl k) ?_
    by_cases hs0 : st < (0 : Int32)
    · refine own_st (fun _ k => XS.ifYes Xt.here hx rfl (pc0 := 380) (pc' := 477) rfl (hb hby at_380) rfl ((if0 _ _).trans (tlt (hs0 : st < (0 : Int32))).1) (by decide) (by decide) k) ?_
      refine own_st (fun _ k => XS.iconst Xt.here hx rfl (hb hby at_477) k) ?_
      refine own_st (fun _ k => XS.istore Xt.here hx rfl (hb hby at_478) rfl (l' := #[.val (.int p1), .val (.int p2), .val (.int p3), .val (.long q4), .second, .val (.long q5), .second, .val (.int p6), .val (.int ki), .val (.int ei), .val (.int sp), .val (.int r), .val (.int 1), .val (.int st), .val (.int en), .val (.ref sc), .val (.ref ta), .val (.ref u1), .val (.ref u2), .val (.ref tka), .val (.int av), .val (.int xa), .val (.int 0), .unset]) rfl k) ?_
      show own_Go _ _ _ _ Tt (mkF m 480 #[.val (.int p1), .val (.int p2), .val (.int p3), .val (.long q4), .second, .val (.long q5), .second, .val (.int p6), .val (.int ki), .val (.int ei), .val (.int sp), .val (.int r), .val (.int 1), .val (.int st), .val (.int en), .val (.ref sc), .val (.ref ta), .val (.ref u1), .val (.ref u2), .val (.ref tka), .val (.int av), .val (.int xa), .val (.int 0), .unset] [])
      exact tE _ _ _ _ _ Xt Nt et Ot hS hkt hZ hown ki ei _ _ _ _ _ _ _ _ _ _ _ _ _ hxx (Or.inl rfl) (hE.trans (by simp only [hs0, not_true_eq_false, not_false_eq_true, and_true, true_and, and_false, false_and, if_false, own_01]))
    · refine own_st (fun _ k => XS.ifNo Xt.here hx rfl (hb hby at_380) rfl ((if0 _ _).trans (flt (hs0 : ¬ (st < (0 : Int32)))).1) k) ?_
      refine own_st (fun _ k => XS.iload Xt.here hx rfl (hb hby at_383) rfl k) ?_
      refine own_st (fun _ k => XS.i2l Xt.here hx rfl (hb hby at_385) rfl k) ?_
      refine own_st (fun _ k => XS.iload Xt.here hx rfl (hb hby at_386) rfl k) ?_
      refine own_st (fun _ k => XS.i2l Xt.here hx rfl (hb hby at_388) rfl k) ?_
      show own_Go _ _ _ _ Tt (mkF m 389 #[.val (.int p1), .val (.int p2), .val (.int p3), .val (.long q4), .second, .val (.long q5), .second, .val (.int p6), .val (.int ki), .val (.int ei), .val (.int sp), .val (.int r), .val (.int 1), .val (.int st), .val (.int en), .val (.ref sc), .val (.ref ta), .val (.ref u1), .val (.ref u2), .val (.ref tka), .val (.int av), .val (.int xa), .unset, .unset] [(.long ((1 : Int32).toInt64)), (.long (st.toInt64))])
      rw [show ((1 : Int32).toInt64) = (1 : Int64) from by decide]
      refine own_st (fun _ k => XS.ladd Xt.here hx rfl (hb hby at_389) rfl k) ?_
      refine own_st (fun _ k => XS.iload Xt.here hx rfl (hb hby at_390) rfl k) ?_
      refine own_st (fun _ k => XS.i2l Xt.here hx rfl (hb hby at_392) rfl k) ?_
      refine own_st (fun _ k => XS.lcmp Xt.here hx rfl (hb hby at_393) rfl k) ?_
      by_cases hs1 : (0 : Int32) < (lcmpW ((st.toInt64) + (1 : Int64)) (r.toInt64))
      · refine own_st (fun _ k => XS.ifYes Xt.here hx rfl (pc0 := 394) (pc' := 477) rfl (hb hby at_394) rfl ((if0 _ _).trans (tlt (hs1 : (0 : Int32) < (lcmpW ((st.toInt64) + (1 : Int64)) (r.toInt64)))).2.2.1) (by decide) (by decide) k) ?_
        refine own_st (fun _ k => XS.iconst Xt.here hx rfl (hb hby at_477) k) ?_
        refine own_st (fun _ k => XS.istore Xt.here hx rfl (hb hby at_478) rfl (l' := #[.val (.int p1), .val (.int p2), .val (.int p3), .val (.long q4), .second, .val (.long q5), .second, .val (.int p6), .val (.int ki), .val (.int ei), .val (.int sp), .val (.int r), .val (.int 1), .val (.int st), .val (.int en), .val (.ref sc), .val (.ref ta), .val (.ref u1), .val (.ref u2), .val (.ref tka), .val (.int av), .val (.int xa), .val (.int 0), .unset]) rfl k) ?_
        show own_Go _ _ _ _ Tt (mkF m 480 #[.val (.int p1), .val (.int p2), .val (.int p3), .val (.long q4), .second, .val (.long q5), .second, .val (.int p6), .val (.int ki), .val (.int ei), .val (.int sp), .val (.int r), .val (.int 1), .val (.int st), .val (.int en), .val (.ref sc), .val (.ref ta), .val (.ref u1), .val (.ref u2), .val (.ref tka), .val (.int av), .val (.int xa), .val (.int 0), .unset] [])
        exact tE _ _ _ _ _ Xt Nt et Ot hS hkt hZ hown ki ei _ _ _ _ _ _ _ _ _ _ _ _ _ hxx (Or.inl rfl) (hE.trans (by simp only [hs0, hs1, not_true_eq_false, not_false_eq_true, and_true, true_and, and_false, false_and, if_false, own_01]))
      · refine own_st (fun _ k => XS.ifNo Xt.here hx rfl (hb hby at_394) rfl ((if0 _ _).trans (flt (hs1 : ¬ ((0 : Int32) < (lcmpW ((st.toInt64) + (1 : Int64)) (r.toInt64))))).2.2.1) k) ?_
        refine own_st (fun _ k => XS.iload Xt.here hx rfl (hb hby at_397) rfl k) ?_
        refine own_st (fun _ k => XS.iconst Xt.here hx rfl (hb hby at_399) k) ?_
        show own_Go _ _ _ _ Tt (mkF m 400 #[.val (.int p1), .val (.int p2), .val (.int p3), .val (.long q4), .second, .val (.long q5), .second, .val (.int p6), .val (.int ki), .val (.int ei), .val (.int sp), .val (.int r), .val (.int 1), .val (.int st), .val (.int en), .val (.ref sc), .val (.ref ta), .val (.ref u1), .val (.ref u2), .val (.ref tka), .val (.int av), .val (.int xa), .unset, .unset] [(.int 1), (.int 1)])
        refine own_st (fun _ k => XS.icmpNo Xt.here hx rfl (hb hby at_400) rfl (flt (by decide : ¬ ((1 : Int32) < (1 : Int32)))).1 k) ?_
        refine own_st (fun _ k => XS.aload Xt.here hx rfl (hb hby at_403) rfl rfl k) ?_
        refine own_st (fun _ k => XS.iload Xt.here hx rfl (hb hby at_405) rfl k) ?_
        have hj0 : ¬ st < 0 ∧ st < 6 := own_in10 hs0 hs1 hr.2
        refine own_st (own_ldC Xt hx hZ et Vsc (j := st) hj0 (v := (.int (own_get s0 s1 s2 s3 s4 s5 st))) (own_gv s0 s1 s2 s3 s4 s5 _ hj0.1 hj0.2) (g := (mkF m 407 #[.val (.int p1), .val (.int p2), .val (.int p3), .val (.long q4), .second, .val (.long q5), .second, .val (.int p6), .val (.int ki), .val (.int ei), .val (.int sp), .val (.int r), .val (.int 1), .val (.int st), .val (.int en), .val (.ref sc), .val (.ref ta), .val (.ref u1), .val (.ref u2), .val (.ref tka), .val (.int av), .val (.int xa), .unset, .unset] [(.int st), (.ref sc)])) rfl rfl (hb hby at_407)) ?_
        obtain ⟨v6, T6, L6, hQ6, X6, st6⟩ := own_callS Xt hx hZ (y := (⟨"com/example/isoscope/isoscope/TokenIsPinLaw", "fold", "(C)I"⟩ : MethodName)) hown (own_w89 hw) (own_w90 hw) (own_w4 hw) (own_w91 hw) (by decide) (own_fd l hw [] (own_get s0 s1 s2 s3 s4 s5 st) ht n0 (Nat.le_trans Z0 Ot.1)) et (g := (mkF m 408 #[.val (.int p1), .val (.int p2), .val (.int p3), .val (.long q4), .second, .val (.long q5), .second, .val (.int p6), .val (.int ki), .val (.int ei), .val (.int sp), .val (.int r), .val (.int 1), .val (.int st), .val (.int en), .val (.ref sc), .val (.ref ta), .val (.ref u1), .val (.ref u2), .val (.ref tka), .val (.int av), .val (.int xa), .unset, .unset] [(.int (own_get s0 s1 s2 s3 s4 s5 st))])) rfl (by rw [hml]; rfl) (argsL := [(.int (own_get s0 s1 s2 s3 s4 s5 st))]) (rest := []) (lenOf own_pd14 rfl) rfl rfl (W := 0) (Nat.le_of_eq rfl) (hb hby at_408) (by decide) (by decide) (by decide) (by decide)
        obtain ⟨rfl, N6, e6⟩ := hQ6
        have N6' := Fr.app Nt N6
        refine own_st st6 ?_
        refine own_st (fun _ k => XS.aload X6.here hx rfl (hb hby at_411) rfl rfl k) ?_
        refine own_st (fun _ k => XS.iconst X6.here hx rfl (hb hby at_413) k) ?_
        refine own_st (own_ldC X6 hx hZ e6 Vta (j := (0 : Int32)) (by decide) (v := (.int t0)) rfl (g := (mkF m 414 #[.val (.int p1), .val (.int p2), .val (.int p3), .val (.long q4), .second, .val (.long q5), .second, .val (.int p6), .val (.int ki), .val (.int ei), .val (.int sp), .val (.int r), .val (.int 1), .val (.int st), .val (.int en), .val (.ref sc), .val (.ref ta), .val (.ref u1), .val (.ref u2), .val (.ref tka), .val (.int av), .val (.int xa), .unset, .unset] [(.int 0), (.ref ta), (.int (own_fold (own_get s0 s1 s2 s3 s4 s5 st)))])) rfl rfl (hb hby at_414)) ?_
        show own_Go _ _ _ _ T6 (mkF m 415 #[.val (.int p1), .val (.int p2), .val (.int p3), .val (.long q4), .second, .val (.long q5), .second, .val (.int p6), .val (.int ki), .val (.int ei), .val (.int sp), .val (.int r), .val (.int 1), .val (.int st), .val (.int en), .val (.ref sc), .val (.ref ta), .val (.ref u1), .val (.ref u2), .val (.ref tka), .val (.int av), .val (.int xa), .unset, .unset] [(.int t0), (.int (own_fold (own_get s0 s1 s2 s3 s4 s5 st)))])
        obtain ⟨v7, T7, L7, hQ7, X7, st7⟩ := own_callS X6 hx hZ (y := (⟨"com/example/isoscope/isoscope/TokenIsPinLaw", "fold", "(C)I"⟩ : MethodName)) hown (own_w89 hw) (own_w90 hw) (own_w4 hw) (own_w91 hw) (by decide) (own_fd l hw [] t0 ht n0 (Nat.le_trans Z0 Ot.1)) e6 (g := (mkF m 415 #[.val (.int p1), .val (.int p2), .val (.int p3), .val (.long q4), .second, .val (.long q5), .second, .val (.int p6), .val (.int ki), .val (.int ei), .val (.int sp), .val (.int r), .val (.int 1), .val (.int st), .val (.int en), .val (.ref sc), .val (.ref ta), .val (.ref u1), .val (.ref u2), .val (.ref tka), .val (.int av), .val (.int xa), .unset, .unset] [(.int t0), (.int (own_fold (own_get s0 s1 s2 s3 s4 s5 st)))])) rfl (by rw [hml]; rfl) (argsL := [(.int t0)]) (rest := [(.int (own_fold (own_get s0 s1 s2 s3 s4 s5 st)))]) (lenOf own_pd14 rfl) rfl rfl (W := 1) (Nat.le_of_eq rfl) (hb hby at_415) (by decide) (by decide) (by decide) (by decide)
        obtain ⟨rfl, N7, e7⟩ := hQ7
        have N7' := Fr.app N6' N7
        refine own_st st7 ?_
        by_cases hf0 : (own_fold (own_get s0 s1 s2 s3 s4 s5 st)) = (own_fold t0)
        · refine own_st (fun _ k => XS.icmpNo X7.here hx rfl (hb hby at_418) rfl (teq (hf0 : (own_fold (own_get s0 s1 s2 s3 s4 s5 st)) = (own_fold t0))).2 k) ?_
          refine own_st (fun _ k => XS.iload X7.here hx rfl (hb hby at_421) rfl k) ?_
          refine own_st (fun _ k => XS.iconst X7.here hx rfl (hb hby at_423) k) ?_
          refine own_st (fun _ k => XS.icmpYes X7.here hx rfl (pc0 := 424) (pc' := 447) rfl (hb hby at_424) rfl (tlt (by decide : (1 : Int32) < (2 : Int32))).1 (by decide) (by decide) k) ?_
          refine own_st (fun _ k => XS.iload X7.here hx rfl (hb hby at_447) rfl k) ?_
          refine own_st (fun _ k => XS.iconst X7.here hx rfl (hb hby at_449) k) ?_
          refine own_st (fun _ k => XS.icmpYes X7.here hx rfl (pc0 := 450) (pc' := 473) rfl (hb hby at_450) rfl (tlt (by decide : (1 : Int32) < (3 : Int32))).1 (by decide) (by decide) k) ?_
          show own_Go _ _ _ _ T7 (mkF m 473 #[.val (.int p1), .val (.int p2), .val (.int p3), .val (.long q4), .second, .val (.long q5), .second, .val (.int p6), .val (.int ki), .val (.int ei), .val (.int sp), .val (.int r), .val (.int 1), .val (.int st), .val (.int en), .val (.ref sc), .val (.ref ta), .val (.ref u1), .val (.ref u2), .val (.ref tka), .val (.int av), .val (.int xa), .unset, .unset] [])
          refine own_st (fun _ k => XS.iconst X7.here hx rfl (hb hby at_473) k) ?_
          refine own_st (fun _ k => XS.goto X7.here hx rfl (pc0 := 474) (pc' := 478) rfl (hb hby at_474) (by decide) (by decide) k) ?_
          refine own_st (fun _ k => XS.istore X7.here hx rfl (hb hby at_478) rfl (l' := #[.val (.int p1), .val (.int p2), .val (.int p3), .val (.long q4), .second, .val (.long q5), .second, .val (.int p6), .val (.int ki), .val (.int ei), .val (.int sp), .val (.int r), .val (.int 1), .val (.int st), .val (.int en), .val (.ref sc), .val (.ref ta), .val (.ref u1), .val (.ref u2), .val (.ref tka), .val (.int av), .val (.int xa), .val (.int 1), .unset]) rfl k) ?_
          show own_Go _ _ _ _ T7 (mkF m 480 #[.val (.int p1), .val (.int p2), .val (.int p3), .val (.long q4), .second, .val (.long q5), .second, .val (.int p6), .val (.int ki), .val (.int ei), .val (.int sp), .val (.int r), .val (.int 1), .val (.int st), .val (.int en), .val (.ref sc), .val (.ref ta), .val (.ref u1), .val (.ref u2), .val (.ref tka), .val (.int av), .val (.int xa), .val (.int 1), .unset] [])
          exact tE _ _ _ _ _ X7 N7' e7 Ot hS hkt hZ hown ki ei _ _ _ _ _ _ _ _ _ _ _ _ _ hxx (Or.inr rfl) (hE.trans (by simp only [hs0, hs1, hf0, not_true_eq_false, not_false_eq_true, and_true, true_and, and_false, false_and, if_false, own_01]))
        · refine own_st (fun _ k => XS.icmpYes X7.here hx rfl (pc0 := 418) (pc' := 477) rfl (hb hby at_418) rfl (feq (hf0 : ¬ ((own_fold (own_get s0 s1 s2 s3 s4 s5 st)) = (own_fold t0)))).2 (by decide) (by decide) k) ?_
          refine own_st (fun _ k => XS.iconst X7.here hx rfl (hb hby at_477) k) ?_
          refine own_st (fun _ k => XS.istore X7.here hx rfl (hb hby at_478) rfl (l' := #[.val (.int p1), .val (.int p2), .val (.int p3), .val (.long q4), .second, .val (.long q5), .second, .val (.int p6), .val (.int ki), .val (.int ei), .val (.int sp), .val (.int r), .val (.int 1), .val (.int st), .val (.int en), .val (.ref sc), .val (.ref ta), .val (.ref u1), .val (.ref u2), .val (.ref tka), .val (.int av), .val (.int xa), .val (.int 0), .unset]) rfl k) ?_
          show own_Go _ _ _ _ T7 (mkF m 480 #[.val (.int p1), .val (.int p2), .val (.int p3), .val (.long q4), .second, .val (.long q5), .second, .val (.int p6), .val (.int ki), .val (.int ei), .val (.int sp), .val (.int r), .val (.int 1), .val (.int st), .val (.int en), .val (.ref sc), .val (.ref ta), .val (.ref u1), .val (.ref u2), .val (.ref tka), .val (.int av), .val (.int xa), .val (.int 0), .unset] [])
          exact tE _ _ _ _ _ X7 N7' e7 Ot hS hkt hZ hown ki ei _ _ _ _ _ _ _ _ _ _ _ _ _ hxx (Or.inl rfl) (hE.trans (by simp only [hs0, hs1, hf0, not_true_eq_false, not_false_eq_true, and_true, true_and, and_false, false_and, if_false, own_01]))
  have tl3_1 : ∀ (Tt : State) (lt : List Loc) (ht : Heap) (vmt : Vm) (kt : Nat) (Xt : Stand p l e room_1 (s.setVm vmt) m #[(.int p1), (.int p2), (.int p3), (.long q4), (.long q5), (.int p6)] below meth c Tt lt 10 41) (Nt : Fr n0 lt) (et : Tt.heap = ht) (Ot : Ext h0 ht) (hS : s.Since vmt kt) (hkt : kt ≤ ht.size) (hZ : Z.Warmed39 (s.setVm vmt).vm) (hown : (s.setVm vmt).vm.findClass "com/example/isoscope/isoscope/TokenIsPinLaw" = some m.cls) (ki ei sp r st en : Int32) (hki : 0 ≤ ki.toInt ∧ ki.toInt < 9) (hei : 0 ≤ ei.toInt ∧ ei.toInt < 9) (hr : 0 ≤ r.toInt ∧ r.toInt < 6) (sc ta : Addr) (ksc kta : ClassId) (s0 s1 s2 s3 s4 s5 t0 t1 t2 : Int32) (gc0 : own_ch s0) (gc1 : own_ch s1) (gc2 : own_ch s2) (gc3 : own_ch s3) (gc4 : own_ch s4) (gc5 : own_ch s5) (d0 : own_ch t0) (d1 : own_ch t1) (d2 : own_ch t2) (Vsc : Arv Z ht sc ksc .char (6 : Int32) [(.int s0), (.int s1), (.int s2), (.int s3), (.int s4), (.int s5)] (.int 0)) (Vta : Arv Z ht ta kta .char (3 : Int32) [(.int t0), (.int t1), (.int t2)] (.int 0)) (u1 v1 : Addr) (k1 : ClassId) (vs : List Value) (Eu1 : Exa Z ht u1 "java/lang/String") (Fv1 : Fld Z ht u1 "java/lang/String" "value" "[B" (.ref v1)) (Fc1 : Fld Z ht u1 "java/lang/String" "coder" "B" (.int 0)) (Vu1 : Arv Z ht v1 k1 .byte r vs (.int 0)) (hB : ∀ j : Int32, ¬ j < 0 → j < r → vs.getD j.toNatClampNeg (.int 0) = .int (own_bf s0 s1 s2 s3 s4 s5 j)) (u2 v2 : Addr) (k2 : ClassId) (Eu2 : Exa Z ht u2 "java/lang/String") (Fv2 : Fld Z ht u2 "java/lang/String" "value" "[B" (.ref v2)) (Fc2 : Fld Z ht u2 "java/lang/String" "coder" "B" (.int 0)) (Vu2 : Arv Z ht v2 k2 .byte (1 : Int32) [(.int (nar .byte (t0.toInt8.toInt32)))] (.int 0)), own_Go p.tables e below (own_FW below s (own_law_Q Z p1 p2 p3 q4 q5 p6 w0 w1 w2 w3 w4 w5 w6 w7 w8 cs h0 n0) 32 1216) Tt (mkF m 321 #[.val (.int p1), .val (.int p2), .val (.int p3), .val (.long q4), .second, .val (.long q5), .second, .val (.int p6), .val (.int ki), .val (.int ei), .val (.int sp), .val (.int r), .val (.int 1), .val (.int st), .val (.int en), .val (.ref sc), .val (.ref ta), .val (.ref u1), .val (.ref u2), .unset, .unset, .unset, .unset, .unset] []) := by
    intro Tt lt ht vmt kt Xt Nt et Ot hS hkt hZ hown ki ei sp r st en hki hei hr sc ta ksc kta s0 s1 s2 s3 s4 s5 t0 t1 t2 gc0 gc1 gc2 gc3 gc4 gc5 d0 d1 d2 Vsc Vta u1 v1 k1 vs Eu1 Fv1 Fc1 Vu1 hB u2 v2 k2 Eu2 Fv2 Fc2 Vu2
    obtain ⟨T8, hp8, X8, e8, Et8, A8, D8, -, st8⟩ := newO Xt hx hZ hown (own_w41 hw) (own_w42 hw) (own_w43 hw) et (g := (mkF m 321 #[.val (.int p1), .val (.int p2), .val (.int p3), .val (.long q4), .second, .val (.long q5), .second, .val (.int p6), .val (.int ki), .val (.int ei), .val (.int sp), .val (.int r), .val (.int 1), .val (.int st), .val (.int en), .val (.ref sc), .val (.ref ta), .val (.ref u1), .val (.ref u2), .unset, .unset, .unset, .unset, .unset] [])) rfl (hb hby at_321) (by decide) (by decide)
    obtain ⟨b8, g8⟩ : ∃ z, z = ht.size := ⟨_, rfl⟩
    rw [← g8] at A8 D8 st8
    have s_b8 : h0.size ≤ b8 := Nat.le_trans Ot.1 (Nat.le_of_eq g8.symm)
    have g_b8 : n0 ≤ b8 := Nat.le_trans Z0 s_b8
    have lt_sc_b8 : sc < b8 := Nat.lt_of_lt_of_le Vsc.lt (Nat.le_of_eq g8.symm)
    have lt_ta_b8 : ta < b8 := Nat.lt_of_lt_of_le Vta.lt (Nat.le_of_eq g8.symm)
    have lt_u1_b8 : u1 < b8 := Nat.lt_of_lt_of_le Eu1.lt (Nat.le_of_eq g8.symm)
    have lt_v1_b8 : v1 < b8 := Nat.lt_of_lt_of_le Vu1.lt (Nat.le_of_eq g8.symm)
    have lt_u2_b8 : u2 < b8 := Nat.lt_of_lt_of_le Eu2.lt (Nat.le_of_eq g8.symm)
    have lt_v2_b8 : v2 < b8 := Nat.lt_of_lt_of_le Vu2.lt (Nat.le_of_eq g8.symm)
    have hk8 := Nat.le_trans hkt Et8.1
    have O8 := own_extt Ot Et8
    have V_sc_8 := Vsc.ext Et8
    have V_ta_8 := Vta.ext Et8
    have V_v1_8 := Vu1.ext Et8
    have V_v2_8 := Vu2.ext Et8
    have Ex_u1_8 := Eu1.ext Et8
    have Ex_u2_8 := Eu2.ext Et8
    have F_value_u1_8 := Fv1.ext Et8
    have F_coder_u1_8 := Fc1.ext Et8
    have F_value_u2_8 := Fv2.ext Et8
    have F_coder_u2_8 := Fc2.ext Et8
    have F_kind_b8 : Fld Z hp8 b8 "com/example/isoscope/isoscope/SqlLexer$Token" "kind" "Lcom/example/isoscope/isoscope/SqlLexer$Kind;" .null := D8 (Or.inr (own_w60 hw)) (ty := (.object "com/example/isoscope/isoscope/SqlLexer$Kind")) (by decide)
    have F_start_b8 : Fld Z hp8 b8 "com/example/isoscope/isoscope/SqlLexer$Token" "start" "I" (.int 0) := D8 (Or.inr (own_w62 hw)) (ty := .int) (by decide)
    have F_end_b8 : Fld Z hp8 b8 "com/example/isoscope/isoscope/SqlLexer$Token" "end" "I" (.int 0) := D8 (Or.inr (own_w64 hw)) (ty := .int) (by decide)
    have F_spaced_b8 : Fld Z hp8 b8 "com/example/isoscope/isoscope/SqlLexer$Token" "spaced" "Z" (.int 0) := D8 (Or.inr (own_w66 hw)) (ty := .boolean) (by decide)
    refine own_st st8 ?_
    refine own_st (fun _ k => XS.dup X8.here hx rfl (hb hby at_324) rfl rfl k) ?_
    refine own_st (fun _ k => XS.iload X8.here hx rfl (hb hby at_325) rfl k) ?_
    obtain ⟨v9, T9, L9, hQ9, X9, st9⟩ := own_callS X8 hx hZ (y := (⟨"com/example/isoscope/isoscope/TokenIsPinLaw", "kind", "(I)Lcom/example/isoscope/isoscope/SqlLexer$Kind;"⟩ : MethodName)) hown (own_w44 hw) (own_w45 hw) (own_w4 hw) (own_w46 hw) (by decide) (own_kind l hw [] ki w0 w1 w2 w3 w4 w5 w6 w7 w8 hp8 n0 (Nat.le_trans Z0 O8.1) (S0.ext O8) (S1.ext O8) (S2.ext O8) (S3.ext O8) (S4.ext O8) (S5.ext O8) (S6.ext O8) (S7.ext O8) (S8.ext O8)) e8 (g := (mkF m 327 #[.val (.int p1), .val (.int p2), .val (.int p3), .val (.long q4), .second, .val (.long q5), .second, .val (.int p6), .val (.int ki), .val (.int ei), .val (.int sp), .val (.int r), .val (.int 1), .val (.int st), .val (.int en), .val (.ref sc), .val (.ref ta), .val (.ref u1), .val (.ref u2), .unset, .unset, .unset, .unset, .unset] [(.int ki), (.ref b8), (.ref b8)])) rfl (by rw [hml]; rfl) (argsL := [(.int ki)]) (rest := [(.ref b8), (.ref b8)]) (lenOf own_pd11 rfl) rfl rfl (W := 2) (Nat.le_of_eq rfl) (hb hby at_327) (by decide) (by decide) (by decide) (by decide)
    obtain ⟨rfl, N9, e9⟩ := hQ9
    have N9' := Fr.app Nt N9
    refine own_st st9 ?_
    refine own_st (fun _ k => XS.iload X9.here hx rfl (hb hby at_330) rfl k) ?_
    refine own_st (fun _ k => XS.iload X9.here hx rfl (hb hby at_332) rfl k) ?_
    refine own_st (fun _ k => XS.iload X9.here hx rfl (hb hby at_334) rfl k) ?_
    obtain ⟨v10, T10, L10, hQ10, X10, st10⟩ := own_callI X9 hx hZ (y := (⟨"com/example/isoscope/isoscope/SqlLexer$Token", "<init>", "(Lcom/example/isoscope/isoscope/SqlLexer$Kind;IIZ)V"⟩ : MethodName)) rfl hown (own_w50 hw) (own_w51 hw) (own_w43 hw) (own_w52 hw) (by decide) (own_tk l hw [] b8 (own_kd ki w0 w1 w2 w3 w4 w5 w6 w7 w8) st en sp hp8 n0 (Nat.le_trans Z0 O8.1) g_b8 A8 F_kind_b8 F_start_b8 F_end_b8 F_spaced_b8) e9 (g := (mkF m 336 #[.val (.int p1), .val (.int p2), .val (.int p3), .val (.long q4), .second, .val (.long q5), .second, .val (.int p6), .val (.int ki), .val (.int ei), .val (.int sp), .val (.int r), .val (.int 1), .val (.int st), .val (.int en), .val (.ref sc), .val (.ref ta), .val (.ref u1), .val (.ref u2), .unset, .unset, .unset, .unset, .unset] [(.int sp), (.int en), (.int st), (.ref (own_kd ki w0 w1 w2 w3 w4 w5 w6 w7 w8)), (.ref b8), (.ref b8)])) rfl (by rw [hml]; rfl) (argsL := [(.ref (own_kd ki w0 w1 w2 w3 w4 w5 w6 w7 w8)), (.int st), (.int en), (.int sp)]) (rest := [(.ref b8)]) (lenOf own_pd12 rfl) rfl rfl (W := 1) (Nat.le_of_eq rfl) (hb hby at_336) (by decide) (by decide) (by decide) (by decide)
    obtain ⟨rfl, N10, K10, Tk10, Ts10, Te10⟩ := hQ10
    have O10 := own_extk O8 K10 s_b8
    have hk10 := Nat.le_trans hk8 K10.1
    have V_sc_10 := V_sc_8.keep K10 (ninS (Nat.ne_of_lt lt_sc_b8) nin0)
    have V_ta_10 := V_ta_8.keep K10 (ninS (Nat.ne_of_lt lt_ta_b8) nin0)
    have V_v1_10 := V_v1_8.keep K10 (ninS (Nat.ne_of_lt lt_v1_b8) nin0)
    have V_v2_10 := V_v2_8.keep K10 (ninS (Nat.ne_of_lt lt_v2_b8) nin0)
    have Ex_u1_10 := Ex_u1_8.keep K10
    have Ex_u2_10 := Ex_u2_8.keep K10
    have Ex_b8_10 := A8.keep K10
    have F_value_u1_10 := F_value_u1_8.keep K10 (ninS (Nat.ne_of_lt lt_u1_b8) nin0)
    have F_coder_u1_10 := F_coder_u1_8.keep K10 (ninS (Nat.ne_of_lt lt_u1_b8) nin0)
    have F_value_u2_10 := F_value_u2_8.keep K10 (ninS (Nat.ne_of_lt lt_u2_b8) nin0)
    have F_coder_u2_10 := F_coder_u2_8.keep K10 (ninS (Nat.ne_of_lt lt_u2_b8) nin0)
    have N10' := Fr.app N9' N10
    refine own_st st10 ?_
    show own_Go _ _ _ _ T10 (mkF m 339 #[.val (.int p1), .val (.int p2), .val (.int p3), .val (.long q4), .second, .val (.long q5), .second, .val (.int p6), .val (.int ki), .val (.int ei), .val (.int sp), .val (.int r), .val (.int 1), .val (.int st), .val (.int en), .val (.ref sc), .val (.ref ta), .val (.ref u1), .val (.ref u2), .unset, .unset, .unset, .unset, .unset] [(.ref b8)])
    refine own_st (fun _ k => XS.astore X10.here hx rfl (hb hby at_339) rfl rfl (l' := #[.val (.int p1), .val (.int p2), .val (.int p3), .val (.long q4), .second, .val (.long q5), .second, .val (.int p6), .val (.int ki), .val (.int ei), .val (.int sp), .val (.int r), .val (.int 1), .val (.int st), .val (.int en), .val (.ref sc), .val (.ref ta), .val (.ref u1), .val (.ref u2), .val (.ref b8), .unset, .unset, .unset, .unset]) rfl k) ?_
    refine own_st (fun _ k => XS.aload X10.here hx rfl (hb hby at_341) rfl rfl k) ?_
    refine own_st (fun _ k => XS.aload X10.here hx rfl (hb hby at_343) rfl rfl k) ?_
    refine own_st (fun _ k => XS.iload X10.here hx rfl (hb hby at_345) rfl k) ?_
    obtain ⟨v11, T11, L11, hQ11, X11, st11⟩ := own_callS X10 hx hZ (y := (⟨"com/example/isoscope/isoscope/TokenIsPinLaw", "kind", "(I)Lcom/example/isoscope/isoscope/SqlLexer$Kind;"⟩ : MethodName)) hown (own_w44 hw) (own_w45 hw) (own_w4 hw) (own_w46 hw) (by decide) (own_kind l hw [] ei w0 w1 w2 w3 w4 w5 w6 w7 w8 T10.heap n0 (Nat.le_trans Z0 O10.1) (S0.ext O10) (S1.ext O10) (S2.ext O10) (S3.ext O10) (S4.ext O10) (S5.ext O10) (S6.ext O10) (S7.ext O10) (S8.ext O10)) rfl (g := (mkF m 347 #[.val (.int p1), .val (.int p2), .val (.int p3), .val (.long q4), .second, .val (.long q5), .second, .val (.int p6), .val (.int ki), .val (.int ei), .val (.int sp), .val (.int r), .val (.int 1), .val (.int st), .val (.int en), .val (.ref sc), .val (.ref ta), .val (.ref u1), .val (.ref u2), .val (.ref b8), .unset, .unset, .unset, .unset] [(.int ei), (.ref u1), (.ref b8)])) rfl (by rw [hml]; rfl) (argsL := [(.int ei)]) (rest := [(.ref u1), (.ref b8)]) (lenOf own_pd11 rfl) rfl rfl (W := 2) (Nat.le_of_eq rfl) (hb hby at_347) (by decide) (by decide) (by decide) (by decide)
    obtain ⟨rfl, N11, e11⟩ := hQ11
    have N11' := Fr.app N10' N11
    refine own_st st11 ?_
    refine own_st (fun _ k => XS.aload X11.here hx rfl (hb hby at_350) rfl rfl k) ?_
    obtain ⟨v12, T12, L12, hQ12, X12, st12⟩ := own_callV X11 hx hZ (y := (⟨"com/example/isoscope/isoscope/SqlLexer$Token", "is", "(Ljava/lang/String;Lcom/example/isoscope/isoscope/SqlLexer$Kind;Ljava/lang/String;)Z"⟩ : MethodName)) hown (own_w67 hw) (own_w68 hw) (own_w70 hw) (own_w69 hw) (own_w43 hw) (own_w71 hw) (by decide) (own_is1 l hw [] b8 u1 (own_kd ei w0 w1 w2 w3 w4 w5 w6 w7 w8) u2 (own_kd ki w0 w1 w2 w3 w4 w5 w6 w7 w8) v1 v2 st en r cs k1 k2 vs (own_bf s0 s1 s2 s3 s4 s5) (nar .byte (t0.toInt8.toInt32)) T10.heap n0 (Nat.le_trans Z0 O10.1) (by omega) Tk10 Ts10 Te10 (Scs.ext O10) hcs Ex_u1_10 F_value_u1_10 F_coder_u1_10 V_v1_10 hB Ex_u2_10 F_value_u2_10 F_coder_u2_10 V_v2_10) e11 Ex_b8_10 (g := (mkF m 352 #[.val (.int p1), .val (.int p2), .val (.int p3), .val (.long q4), .second, .val (.long q5), .second, .val (.int p6), .val (.int ki), .val (.int ei), .val (.int sp), .val (.int r), .val (.int 1), .val (.int st), .val (.int en), .val (.ref sc), .val (.ref ta), .val (.ref u1), .val (.ref u2), .val (.ref b8), .unset, .unset, .unset, .unset] [(.ref u2), (.ref (own_kd ei w0 w1 w2 w3 w4 w5 w6 w7 w8)), (.ref u1), (.ref b8)])) rfl (by rw [hml]; rfl) (argsL := [(.ref u1), (.ref (own_kd ei w0 w1 w2 w3 w4 w5 w6 w7 w8)), (.ref u2)]) (rest := []) (lenOf own_pd13 rfl) rfl rfl (W := 0) (Nat.le_of_eq rfl) (hb hby at_352) (by decide) (by decide) (by decide) (by decide)
    obtain ⟨rfl, N12, e12⟩ := hQ12
    have N12' := Fr.app N11' N12
    refine own_st st12 ?_
    show own_Go _ _ _ _ T12 (mkF m 355 #[.val (.int p1), .val (.int p2), .val (.int p3), .val (.long q4), .second, .val (.long q5), .second, .val (.int p6), .val (.int ki), .val (.int ei), .val (.int sp), .val (.int r), .val (.int 1), .val (.int st), .val (.int en), .val (.ref sc), .val (.ref ta), .val (.ref u1), .val (.ref u2), .val (.ref b8), .unset, .unset, .unset, .unset] [(.int (if own_kd ki w0 w1 w2 w3 w4 w5 w6 w7 w8 = own_kd ei w0 w1 w2 w3 w4 w5 w6 w7 w8 then (if en - st = (1 : Int32) then (if st < 0 then (0 : Int32) else if (0 : Int32) < lcmpW st.toInt64 (r.toInt64 - (1 : Int64)) then (0 : Int32) else (if own_eic ((own_bf s0 s1 s2 s3 s4 s5) st) (nar .byte (t0.toInt8.toInt32)) = 0 then (0 : Int32) else (1 : Int32))) else (0 : Int32)) else (0 : Int32)))])
    generalize hav : (if own_kd ki w0 w1 w2 w3 w4 w5 w6 w7 w8 = own_kd ei w0 w1 w2 w3 w4 w5 w6 w7 w8 then (if en - st = (1 : Int32) then (if st < 0 then (0 : Int32) else if (0 : Int32) < lcmpW st.toInt64 (r.toInt64 - (1 : Int64)) then (0 : Int32) else (if own_eic ((own_bf s0 s1 s2 s3 s4 s5) st) (nar .byte (t0.toInt8.toInt32)) = 0 then (0 : Int32) else (1 : Int32))) else (0 : Int32)) else (0 : Int32)) = av
    show own_Go _ _ _ _ T12 (mkF m 355 #[.val (.int p1), .val (.int p2), .val (.int p3), .val (.long q4), .second, .val (.long q5), .second, .val (.int p6), .val (.int ki), .val (.int ei), .val (.int sp), .val (.int r), .val (.int 1), .val (.int st), .val (.int en), .val (.ref sc), .val (.ref ta), .val (.ref u1), .val (.ref u2), .val (.ref b8), .unset, .unset, .unset, .unset] [(.int av)])
    have Hkd : (own_kd ki w0 w1 w2 w3 w4 w5 w6 w7 w8 = own_kd ei w0 w1 w2 w3 w4 w5 w6 w7 w8) ↔ ki = ei := ⟨fun q => Decidable.byContradiction fun n => Fld.ne (Fk ki hki.1 (by omega)) (Fk ei hei.1 (by omega)) (fun z => n (Value.int.inj z)) q, fun q => by rw [q]⟩
    have E3_0 : own_eic (own_bf s0 s1 s2 s3 s4 s5 st) (nar .byte (t0.toInt8.toInt32)) = if own_fold (own_get s0 s1 s2 s3 s4 s5 st) = own_fold t0 then 1 else 0 := own_ci (own_gch gc0 gc1 gc2 gc3 gc4 gc5 _) d0
    simp only [Hkd, own_E2 st r (1 : Int64) 1 (by decide) (by decide) (by decide), E3_0] at hav
    have hres : ∀ xa : Int32, (xa = if lcmpW (en.toInt64 - st.toInt64) (1 : Int64) = 0 then 1 else 0) → av = if ki = ei ∧ xa = 1 ∧ (¬ st < 0 ∧ ¬ (0 : Int32) < lcmpW (st.toInt64 + (1 : Int64)) r.toInt64 ∧ own_fold (own_get s0 s1 s2 s3 s4 s5 st) = own_fold t0) then 1 else 0 := fun xa hxa => hav.symm.trans (own_logic (A := lcmpW (en.toInt64 - st.toInt64) (1 : Int64) = 0) own_reg1 (fun q => own_E1 (k := 1) (by decide) (by decide) (by decide) (by decide) (by omega) q.1 q.2.1) hxa)
    refine own_st (fun _ k => XS.istore X12.here hx rfl (hb hby at_355) rfl (l' := #[.val (.int p1), .val (.int p2), .val (.int p3), .val (.long q4), .second, .val (.long q5), .second, .val (.int p6), .val (.int ki), .val (.int ei), .val (.int sp), .val (.int r), .val (.int 1), .val (.int st), .val (.int en), .val (.ref sc), .val (.ref ta), .val (.ref u1), .val (.ref u2), .val (.ref b8), .val (.int av), .unset, .unset, .unset]) rfl k) ?_
    refine own_st (fun _ k => XS.iload X12.here hx rfl (hb hby at_357) rfl k) ?_
    refine own_st (fun _ k => XS.i2l X12.here hx rfl (hb hby at_359) rfl k) ?_
    refine own_st (fun _ k => XS.iload X12.here hx rfl (hb hby at_360) rfl k) ?_
    refine own_st (fun _ k => XS.i2l X12.here hx rfl (hb hby at_362) rfl k) ?_
    refine own_st (fun _ k => XS.lsub X12.here hx rfl (hb hby at_363) rfl k) ?_
    refine own_st (fun _ k => XS.iload X12.here hx rfl (hb hby at_364) rfl k) ?_
    refine own_st (fun _ k => XS.i2l X12.here hx rfl (hb hby at_366) rfl k) ?_
    show own_Go _ _ _ _ T12 (mkF m 367 #[.val (.int p1), .val (.int p2), .val (.int p3), .val (.long q4), .second, .val (.long q5), .second, .val (.int p6), .val (.int ki), .val (.int ei), .val (.int sp), .val (.int r), .val (.int 1), .val (.int st), .val (.int en), .val (.ref sc), .val (.ref ta), .val (.ref u1), .val (.ref u2), .val (.ref b8), .val (.int av), .unset, .unset, .unset] [(.long ((1 : Int32).toInt64)), (.long ((en.toInt64) - (st.toInt64)))])
    rw [show ((1 : Int32).toInt64) = (1 : Int64) from by decide]
    refine own_st (fun _ k => XS.lcmp X12.here hx rfl (hb hby at_367) rfl k) ?_
    by_cases hA : (lcmpW ((en.toInt64) - (st.toInt64)) (1 : Int64)) = (0 : Int32)
    · refine own_st (fun _ k => XS.ifNo X12.here hx rfl (hb hby at_368) rfl ((if0 _ _).trans (teq (hA : (lcmpW ((en.toInt64) - (st.toInt64)) (1 : Int64)) = (0 : Int32))).2) k) ?_
      refine own_st (fun _ k => XS.iconst X12.here hx rfl (hb hby at_371) k) ?_
      refine own_st (fun _ k => XS.goto X12.here hx rfl (pc0 := 372) (pc' := 376) rfl (hb hby at_372) (by decide) (by decide) k) ?_
      refine own_st (fun _ k => XS.istore X12.here hx rfl (hb hby at_376) rfl (l' := #[.val (.int p1), .val (.int p2), .val (.int p3), .val (.long q4), .second, .val (.long q5), .second, .val (.int p6), .val (.int ki), .val (.int ei), .val (.int sp), .val (.int r), .val (.int 1), .val (.int st), .val (.int en), .val (.ref sc), .val (.ref ta), .val (.ref u1), .val (.ref u2), .val (.ref b8), .val (.int av), .val (.int 1), .unset, .unset]) rfl k) ?_
      show own_Go _ _ _ _ T12 (mkF m 378 #[.val (.int p1), .val (.int p2), .val (.int p3), .val (.long q4), .second, .val (.long q5), .second, .val (.int p6), .val (.int ki), .val (.int ei), .val (.int sp), .val (.int r), .val (.int 1), .val (.int st), .val (.int en), .val (.ref sc), .val (.ref ta), .val (.ref u1), .val (.ref u2), .val (.ref b8), .val (.int av), .val (.int 1), .unset, .unset] [])
      exact tR_1 _ _ _ _ _ X12 N12' e12 O10 hS hk10 hZ hown _ _ _ _ _ _ _ _ hr _ _ _ _ _ _ _ _ _ _ _ _ _ gc0 gc1 gc2 gc3 gc4 gc5 d0 d1 d2 V_sc_10 V_ta_10 _ _ _ (Or.inr rfl) (hres _ (by simp [hA]))
    · refine own_st (fun _ k => XS.ifYes X12.here hx rfl (pc0 := 368) (pc' := 375) rfl (hb hby at_368) rfl ((if0 _ _).trans (feq (hA : ¬ ((lcmpW ((en.toInt64) - (st.toInt64)) (1 : Int64)) = (0 : Int32)))).2) (by decide) (by decide) k) ?_
      refine own_st (fun _ k => XS.iconst X12.here hx rfl (hb hby at_375) k) ?_
      refine own_st (fun _ k => XS.istore X12.here hx rfl (hb hby at_376) rfl (l' := #[.val (.int p1), .val (.int p2), .val (.int p3), .val (.long q4), .second, .val (.long q5), .second, .val (.int p6), .val (.int ki), .val (.int ei), .val (.int sp), .val (.int r), .val (.int 1), .val (.int st), .val (.int en), .val (.ref sc), .val (.ref ta), .val (.ref u1), .val (.ref u2), .val (.ref b8), .val (.int av), .val (.int 0), .unset, .unset]) rfl k) ?_
      show own_Go _ _ _ _ T12 (mkF m 378 #[.val (.int p1), .val (.int p2), .val (.int p3), .val (.long q4), .second, .val (.long q5), .second, .val (.int p6), .val (.int ki), .val (.int ei), .val (.int sp), .val (.int r), .val (.int 1), .val (.int st), .val (.int en), .val (.ref sc), .val (.ref ta), .val (.ref u1), .val (.ref u2), .val (.ref b8), .val (.int av), .val (.int 0), .unset, .unset] [])
      exact tR_1 _ _ _ _ _ X12 N12' e12 O10 hS hk10 hZ hown _ _ _ _ _ _ _ _ hr _ _ _ _ _ _ _ _ _ _ _ _ _ gc0 gc1 gc2 gc3 gc4 gc5 d0 d1 d2 V_sc_10 V_ta_10 _ _ _ (Or.inl rfl) (hres _ (by simp [hA]))
  have tR_2 : ∀ (Tt : State) (lt : List Loc) (ht : Heap) (vmt : Vm) (kt : Nat) (Xt : Stand p l e room_1 (s.setVm vmt) m #[(.int p1), (.int p2), (.int p3), (.long q4), (.long q5), (.int p6)] below meth c Tt lt 11 45) (Nt : Fr n0 lt) (et : Tt.heap = ht) (Ot : Ext h0 ht) (hS : s.Since vmt kt) (hkt : kt ≤ ht.size) (hZ : Z.Warmed39 (s.setVm vmt).vm) (hown : (s.setVm vmt).vm.findClass "com/example/isoscope/isoscope/TokenIsPinLaw" = some m.cls) (ki ei sp r st en : Int32) (u1 u2 : Addr) (hr : 0 ≤ r.toInt ∧ r.toInt < 6) (sc ta : Addr) (ksc kta : ClassId) (s0 s1 s2 s3 s4 s5 t0 t1 t2 : Int32) (gc0 : own_ch s0) (gc1 : own_ch s1) (gc2 : own_ch s2) (gc3 : own_ch s3) (gc4 : own_ch s4) (gc5 : own_ch s5) (d0 : own_ch t0) (d1 : own_ch t1) (d2 : own_ch t2) (Vsc : Arv Z ht sc ksc .char (6 : Int32) [(.int s0), (.int s1), (.int s2), (.int s3), (.int s4), (.int s5)] (.int 0)) (Vta : Arv Z ht ta kta .char (3 : Int32) [(.int t0), (.int t1), (.int t2)] (.int 0)) (tka : Addr) (av xa : Int32) (hxx : xa = 0 ∨ xa = 1) (hE : av = if ki = ei ∧ xa = 1 ∧ (¬ st < 0 ∧ ¬ (0 : Int32) < lcmpW (st.toInt64 + (2 : Int64)) r.toInt64 ∧ own_fold (own_get s0 s1 s2 s3 s4 s5 st) = own_fold t0 ∧ own_fold (own_get s0 s1 s2 s3 s4 s5 (st + (1 : Int32))) = own_fold t1) then 1 else 0), own_Go p.tables e below (own_FW below s (own_law_Q Z p1 p2 p3 q4 q5 p6 w0 w1 w2 w3 w4 w5 w6 w7 w8 cs h0 n0) 32 1216) Tt (mkF m 378 #[.val (.int p1), .val (.int p2), .val (.int p3), .val (.long q4), .second, .val (.long q5), .second, .val (.int p6), .val (.int ki), .val (.int ei), .val (.int sp), .val (.int r), .val (.int 2), .val (.int st), .val (.int en), .val (.ref sc), .val (.ref ta), .val (.ref u1), .val (.ref u2), .val (.ref tka), .val (.int av), .val (.int xa), .unset, .unset] []) := by
    intro Tt lt ht vmt kt Xt Nt et Ot hS hkt hZ hown ki ei sp r st en u1 u2 hr sc ta ksc kta s0 s1 s2 s3 s4 s5 t0 t1 t2 gc0 gc1 gc2 gc3 gc4 gc5 d0 d1 d2 Vsc Vta tka av xa hxx hE
    refine own_st (fun _ k => XS.iload Xt.here hx rfl (hb hby at_378) rfl k) ?_
    by_cases hs0 : st < (0 : Int32)
    · refine own_st (fun _ k => XS.ifYes Xt.here hx rfl (pc0 := 380) (pc' := 477) rfl (hb hby at_380) rfl ((if0 _ _).trans (tlt (hs0 : st < (0 : Int32))).1) (by decide) (by decide) k) ?_
      refine own_st (fun _ k => XS.iconst Xt.here hx rfl (hb hby at_477) k) ?_
      refine own_st (fun _ k => XS.istore Xt.here hx rfl (hb hby at_478) rfl (l' := #[.val (.int p1), .val (.int p2), .val (.int p3), .val (.long q4), .second, .val (.long q5), .second, .val (.int p6), .val (.int ki), .val (.int ei), .val (.int sp), .val (.int r), .val (.int 2), .val (.int st), .val (.int en), .val (.ref sc), .val (.ref ta), .val (.ref u1), .val (.ref u2), .val (.ref tka), .val (.int av), .val (.int xa), .val (.int 0), .unset]) rfl k) ?_
      show own_Go _ _ _ _ Tt (mkF m 480 #[.val (.int p1), .val (.int p2), .val (.int p3), .val (.long q4), .second, .val (.long q5), .second, .val (.int p6), .val (.int ki), .val (.int ei), .val (.int sp), .val (.int r), .val (.int 2), .val (.int st), .val (.int en), .val (.ref sc), .val (.ref ta), .val (.ref u1), .val (.ref u2), .val (.ref tka), .val (.int av), .val (.int xa), .val (.int 0), .unset] [])
      exact tE _ _ _ _ _ Xt Nt et Ot hS hkt hZ hown ki ei _ _ _ _ _ _ _ _ _ _ _ _ _ hxx (Or.inl rfl) (hE.trans (by simp only [hs0, not_true_eq_false, not_false_eq_true, and_true, true_and, and_false, false_and, if_false, own_01]))
    · refine own_st (fun _ k => XS.ifNo Xt.here hx rfl (hb hby at_380) rfl ((if0 _ _).trans (flt (hs0 : ¬ (st < (0 : Int32)))).1) k) ?_
      refine own_st (fun _ k => XS.iload Xt.here hx rfl (hb hby at_383) rfl k) ?_
      refine own_st (fun _ k => XS.i2l Xt.here hx rfl (hb hby at_385) rfl k) ?_
      refine own_st (fun _ k => XS.iload Xt.here hx rfl (hb hby at_386) rfl k) ?_
      refine own_st (fun _ k => XS.i2l Xt.here hx rfl (hb hby at_388) rfl k) ?_
      show own_Go _ _ _ _ Tt (mkF m 389 #[.val (.int p1), .val (.int p2), .val (.int p3), .val (.long q4), .second, .val (.long q5), .second, .val (.int p6), .val (.int ki), .val (.int ei), .val (.int sp), .val (.int r), .val (.int 2), .val (.int st), .val (.int en), .val (.ref sc), .val (.ref ta), .val (.ref u1), .val (.ref u2), .val (.ref tka), .val (.int av), .val (.int xa), .unset, .unset] [(.long ((2 : Int32).toInt64)), (.long (st.toInt64))])
      rw [show ((2 : Int32).toInt64) = (2 : Int64) from by decide]
      refine own_st (fun _ k => XS.ladd Xt.here hx rfl (hb hby at_389) rfl k) ?_
      refine own_st (fun _ k => XS.iload Xt.here hx rfl (hb hby at_390) rfl k) ?_
      refine own_st (fun _ k => XS.i2l Xt.here hx rfl (hb hby at_392) rfl k) ?_
      refine own_st (fun _ k => XS.lcmp Xt.here hx rfl (hb hby at_393) rfl k) ?_
      by_cases hs1 : (0 : Int32) < (lcmpW ((st.toInt64) + (2 : Int64)) (r.toInt64))
      · refine own_st (fun _ k => XS.ifYes Xt.here hx rfl (pc0 := 394) (pc' := 477) rfl (hb hby at_394) rfl ((if0 _ _).trans (tlt (hs1 : (0 : Int32) < (lcmpW ((st.toInt64) + (2 : Int64)) (r.toInt64)))).2.2.1) (by decide) (by decide) k) ?_
        refine own_st (fun _ k => XS.iconst Xt.here hx rfl (hb hby at_477) k) ?_
        refine own_st (fun _ k => XS.istore Xt.here hx rfl (hb hby at_478) rfl (l' := #[.val (.int p1), .val (.int p2), .val (.int p3), .val (.long q4), .second, .val (.long q5), .second, .val (.int p6), .val (.int ki), .val (.int ei), .val (.int sp), .val (.int r), .val (.int 2), .val (.int st), .val (.int en), .val (.ref sc), .val (.ref ta), .val (.ref u1), .val (.ref u2), .val (.ref tka), .val (.int av), .val (.int xa), .val (.int 0), .unset]) rfl k) ?_
        show own_Go _ _ _ _ Tt (mkF m 480 #[.val (.int p1), .val (.int p2), .val (.int p3), .val (.long q4), .second, .val (.long q5), .second, .val (.int p6), .val (.int ki), .val (.int ei), .val (.int sp), .val (.int r), .val (.int 2), .val (.int st), .val (.int en), .val (.ref sc), .val (.ref ta), .val (.ref u1), .val (.ref u2), .val (.ref tka), .val (.int av), .val (.int xa), .val (.int 0), .unset] [])
        exact tE _ _ _ _ _ Xt Nt et Ot hS hkt hZ hown ki ei _ _ _ _ _ _ _ _ _ _ _ _ _ hxx (Or.inl rfl) (hE.trans (by simp only [hs0, hs1, not_true_eq_false, not_false_eq_true, and_true, true_and, and_false, false_and, if_false, own_01]))
      · refine own_st (fun _ k => XS.ifNo Xt.here hx rfl (hb hby at_394) rfl ((if0 _ _).trans (flt (hs1 : ¬ ((0 : Int32) < (lcmpW ((st.toInt64) + (2 : Int64)) (r.toInt64))))).2.2.1) k) ?_
        refine own_st (fun _ k => XS.iload Xt.here hx rfl (hb hby at_397) rfl k) ?_
        refine own_st (fun _ k => XS.iconst Xt.here hx rfl (hb hby at_399) k) ?_
        show own_Go _ _ _ _ Tt (mkF m 400 #[.val (.int p1), .val (.int p2), .val (.int p3), .val (.long q4), .second, .val (.long q5), .second, .val (.int p6), .val (.int ki), .val (.int ei), .val (.int sp), .val (.int r), .val (.int 2), .val (.int st), .val (.int en), .val (.ref sc), .val (.ref ta), .val (.ref u1), .val (.ref u2), .val (.ref tka), .val (.int av), .val (.int xa), .unset, .unset] [(.int 1), (.int 2)])
        refine own_st (fun _ k => XS.icmpNo Xt.here hx rfl (hb hby at_400) rfl (flt (by decide : ¬ ((2 : Int32) < (1 : Int32)))).1 k) ?_
        refine own_st (fun _ k => XS.aload Xt.here hx rfl (hb hby at_403) rfl rfl k) ?_
        refine own_st (fun _ k => XS.iload Xt.here hx rfl (hb hby at_405) rfl k) ?_
        have hj0 : ¬ st < 0 ∧ st < 6 := own_in20 hs0 hs1 hr.2
        refine own_st (own_ldC Xt hx hZ et Vsc (j := st) hj0 (v := (.int (own_get s0 s1 s2 s3 s4 s5 st))) (own_gv s0 s1 s2 s3 s4 s5 _ hj0.1 hj0.2) (g := (mkF m 407 #[.val (.int p1), .val (.int p2), .val (.int p3), .val (.long q4), .second, .val (.long q5), .second, .val (.int p6), .val (.int ki), .val (.int ei), .val (.int sp), .val (.int r), .val (.int 2), .val (.int st), .val (.int en), .val (.ref sc), .val (.ref ta), .val (.ref u1), .val (.ref u2), .val (.ref tka), .val (.int av), .val (.int xa), .unset, .unset] [(.int st), (.ref sc)])) rfl rfl (hb hby at_407)) ?_
        obtain ⟨v13, T13, L13, hQ13, X13, st13⟩ := own_callS Xt hx hZ (y := (⟨"com/example/isoscope/isoscope/TokenIsPinLaw", "fold", "(C)I"⟩ : MethodName)) hown (own_w89 hw) (own_w90 hw) (own_w4 hw) (own_w91 hw) (by decide) (own_fd l hw [] (own_get s0 s1 s2 s3 s4 s5 st) ht n0 (Nat.le_trans Z0 Ot.1)) et (g := (mkF m 408 #[.val (.int p1), .val (.int p2), .val (.int p3), .val (.long q4), .second, .val (.long q5), .second, .val (.int p6), .val (.int ki), .val (.int ei), .val (.int sp), .val (.int r), .val (.int 2), .val (.int st), .val (.int en), .val (.ref sc), .val (.ref ta), .val (.ref u1), .val (.ref u2), .val (.ref tka), .val (.int av), .val (.int xa), .unset, .unset] [(.int (own_get s0 s1 s2 s3 s4 s5 st))])) rfl (by rw [hml]; rfl) (argsL := [(.int (own_get s0 s1 s2 s3 s4 s5 st))]) (rest := []) (lenOf own_pd14 rfl) rfl rfl (W := 0) (Nat.le_of_eq rfl) (hb hby at_408) (by decide) (by decide) (by decide) (by decide)
        obtain ⟨rfl, N13, e13⟩ := hQ13
        have N13' := Fr.app Nt N13
        refine own_st st13 ?_
        refine own_st (fun _ k => XS.aload X13.here hx rfl (hb hby at_411) rfl rfl k) ?_
        refine own_st (fun _ k => XS.iconst X13.here hx rfl (hb hby at_413) k) ?_
        refine own_st (own_ldC X13 hx hZ e13 Vta (j := (0 : Int32)) (by decide) (v := (.int t0)) rfl (g := (mkF m 414 #[.val (.int p1), .val (.int p2), .val (.int p3), .val (.long q4), .second, .val (.long q5), .second, .val (.int p6), .val (.int ki), .val (.int ei), .val (.int sp), .val (.int r), .val (.int 2), .val (.int st), .val (.int en), .val (.ref sc), .val (.ref ta), .val (.ref u1), .val (.ref u2), .val (.ref tka), .val (.int av), .val (.int xa), .unset, .unset] [(.int 0), (.ref ta), (.int (own_fold (own_get s0 s1 s2 s3 s4 s5 st)))])) rfl rfl (hb hby at_414)) ?_
        show own_Go _ _ _ _ T13 (mkF m 415 #[.val (.int p1), .val (.int p2), .val (.int p3), .val (.long q4), .second, .val (.long q5), .second, .val (.int p6), .val (.int ki), .val (.int ei), .val (.int sp), .val (.int r), .val (.int 2), .val (.int st), .val (.int en), .val (.ref sc), .val (.ref ta), .val (.ref u1), .val (.ref u2), .val (.ref tka), .val (.int av), .val (.int xa), .unset, .unset] [(.int t0), (.int (own_fold (own_get s0 s1 s2 s3 s4 s5 st)))])
        obtain ⟨v14, T14, L14, hQ14, X14, st14⟩ := own_callS X13 hx hZ (y := (⟨"com/example/isoscope/isoscope/TokenIsPinLaw", "fold", "(C)I"⟩ : MethodName)) hown (own_w89 hw) (own_w90 hw) (own_w4 hw) (own_w91 hw) (by decide) (own_fd l hw [] t0 ht n0 (Nat.le_trans Z0 Ot.1)) e13 (g := (mkF m 415 #[.val (.int p1), .val (.int p2), .val (.int p3), .val (.long q4), .second, .val (.long q5), .second, .val (.int p6), .val (.int ki), .val (.int ei), .val (.int sp), .val (.int r), .val (.int 2), .val (.int st), .val (.int en), .val (.ref sc), .val (.ref ta), .val (.ref u1), .val (.ref u2), .val (.ref tka), .val (.int av), .val (.int xa), .unset, .unset] [(.int t0), (.int (own_fold (own_get s0 s1 s2 s3 s4 s5 st)))])) rfl (by rw [hml]; rfl) (argsL := [(.int t0)]) (rest := [(.int (own_fold (own_get s0 s1 s2 s3 s4 s5 st)))]) (lenOf own_pd14 rfl) rfl rfl (W := 1) (Nat.le_of_eq rfl) (hb hby at_415) (by decide) (by decide) (by decide) (by decide)
        obtain ⟨rfl, N14, e14⟩ := hQ14
        have N14' := Fr.app N13' N14
        refine own_st st14 ?_
        by_cases hf0 : (own_fold (own_get s0 s1 s2 s3 s4 s5 st)) = (own_fold t0)
        · refine own_st (fun _ k => XS.icmpNo X14.here hx rfl (hb hby at_418) rfl (teq (hf0 : (own_fold (own_get s0 s1 s2 s3 s4 s5 st)) = (own_fold t0))).2 k) ?_
          refine own_st (fun _ k => XS.iload X14.here hx rfl (hb hby at_421) rfl k) ?_
          refine own_st (fun _ k => XS.iconst X14.here hx rfl (hb hby at_423) k) ?_
          refine own_st (fun _ k => XS.icmpNo X14.here hx rfl (hb hby at_424) rfl (flt (by decide : ¬ ((2 : Int32) < (2 : Int32)))).1 k) ?_
          refine own_st (fun _ k => XS.aload X14.here hx rfl (hb hby at_427) rfl rfl k) ?_
          refine own_st (fun _ k => XS.iload X14.here hx rfl (hb hby at_429) rfl k) ?_
          refine own_st (fun _ k => XS.iconst X14.here hx rfl (hb hby at_431) k) ?_
          show own_Go _ _ _ _ T14 (mkF m 432 #[.val (.int p1), .val (.int p2), .val (.int p3), .val (.long q4), .second, .val (.long q5), .second, .val (.int p6), .val (.int ki), .val (.int ei), .val (.int sp), .val (.int r), .val (.int 2), .val (.int st), .val (.int en), .val (.ref sc), .val (.ref ta), .val (.ref u1), .val (.ref u2), .val (.ref tka), .val (.int av), .val (.int xa), .unset, .unset] [(.int 1), (.int st), (.ref sc)])
          refine own_st (fun _ k => XS.iadd X14.here hx rfl (hb hby at_432) rfl k) ?_
          have hj1 : ¬ (st + (1 : Int32)) < 0 ∧ (st + (1 : Int32)) < 6 := own_in21 hs0 hs1 hr.2
          refine own_st (own_ldC X14 hx hZ e14 Vsc (j := (st + (1 : Int32))) hj1 (v := (.int (own_get s0 s1 s2 s3 s4 s5 (st + (1 : Int32))))) (own_gv s0 s1 s2 s3 s4 s5 _ hj1.1 hj1.2) (g := (mkF m 433 #[.val (.int p1), .val (.int p2), .val (.int p3), .val (.long q4), .second, .val (.long q5), .second, .val (.int p6), .val (.int ki), .val (.int ei), .val (.int sp), .val (.int r), .val (.int 2), .val (.int st), .val (.int en), .val (.ref sc), .val (.ref ta), .val (.ref u1), .val (.ref u2), .val (.ref tka), .val (.int av), .val (.int xa), .unset, .unset] [(.int (st + (1 : Int32))), (.ref sc)])) rfl rfl (hb hby at_433)) ?_
          obtain ⟨v15, T15, L15, hQ15, X15, st15⟩ := own_callS X14 hx hZ (y := (⟨"com/example/isoscope/isoscope/TokenIsPinLaw", "fold", "(C)I"⟩ : MethodName)) hown (own_w89 hw) (own_w90 hw) (own_w4 hw) (own_w91 hw) (by decide) (own_fd l hw [] (own_get s0 s1 s2 s3 s4 s5 (st + (1 : Int32))) ht n0 (Nat.le_trans Z0 Ot.1)) e14 (g := (mkF m 434 #[.val (.int p1), .val (.int p2), .val (.int p3), .val (.long q4), .second, .val (.long q5), .second, .val (.int p6), .val (.int ki), .val (.int ei), .val (.int sp), .val (.int r), .val (.int 2), .val (.int st), .val (.int en), .val (.ref sc), .val (.ref ta), .val (.ref u1), .val (.ref u2), .val (.ref tka), .val (.int av), .val (.int xa), .unset, .unset] [(.int (own_get s0 s1 s2 s3 s4 s5 (st + (1 : Int32))))])) rfl (by rw [hml]; rfl) (argsL := [(.int (own_get s0 s1 s2 s3 s4 s5 (st + (1 : Int32))))]) (rest := []) (lenOf own_pd14 rfl) rfl rfl (W := 0) (Nat.le_of_eq rfl) (hb hby at_434) (by decide) (by decide) (by decide) (by decide)
          obtain ⟨rfl, N15, e15⟩ := hQ15
          have N15' := Fr.app N14' N15
          refine own_st st15 ?_
          refine own_st (fun _ k => XS.aload X15.here hx rfl (hb hby at_437) rfl rfl k) ?_
          refine own_st (fun _ k => XS.iconst X15.here hx rfl (hb hby at_439) k) ?_
          refine own_st (own_ldC X15 hx hZ e15 Vta (j := (1 : Int32)) (by decide) (v := (.int t1)) rfl (g := (mkF m 440 #[.val (.int p1), .val (.int p2), .val (.int p3), .val (.long q4), .second, .val (.long q5), .second, .val (.int p6), .val (.int ki), .val (.int ei), .val (.int sp), .val (.int r), .val (.int 2), .val (.int st), .val (.int en), .val (.ref sc), .val (.ref ta), .val (.ref u1), .val (.ref u2), .val (.ref tka), .val (.int av), .val (.int xa), .unset, .unset] [(.int 1), (.ref ta), (.int (own_fold (own_get s0 s1 s2 s3 s4 s5 (st + (1 : Int32)))))])) rfl rfl (hb hby at_440)) ?_
          obtain ⟨v16, T16, L16, hQ16, X16, st16⟩ := own_callS X15 hx hZ (y := (⟨"com/example/isoscope/isoscope/TokenIsPinLaw", "fold", "(C)I"⟩ : MethodName)) hown (own_w89 hw) (own_w90 hw) (own_w4 hw) (own_w91 hw) (by decide) (own_fd l hw [] t1 ht n0 (Nat.le_trans Z0 Ot.1)) e15 (g := (mkF m 441 #[.val (.int p1), .val (.int p2), .val (.int p3), .val (.long q4), .second, .val (.long q5), .second, .val (.int p6), .val (.int ki), .val (.int ei), .val (.int sp), .val (.int r), .val (.int 2), .val (.int st), .val (.int en), .val (.ref sc), .val (.ref ta), .val (.ref u1), .val (.ref u2), .val (.ref tka), .val (.int av), .val (.int xa), .unset, .unset] [(.int t1), (.int (own_fold (own_get s0 s1 s2 s3 s4 s5 (st + (1 : Int32)))))])) rfl (by rw [hml]; rfl) (argsL := [(.int t1)]) (rest := [(.int (own_fold (own_get s0 s1 s2 s3 s4 s5 (st + (1 : Int32)))))]) (lenOf own_pd14 rfl) rfl rfl (W := 1) (Nat.le_of_eq rfl) (hb hby at_441) (by decide) (by decide) (by decide) (by decide)
          obtain ⟨rfl, N16, e16⟩ := hQ16
          have N16' := Fr.app N15' N16
          refine own_st st16 ?_
          by_cases hf1 : (own_fold (own_get s0 s1 s2 s3 s4 s5 (st + (1 : Int32)))) = (own_fold t1)
          · refine own_st (fun _ k => XS.icmpNo X16.here hx rfl (hb hby at_444) rfl (teq (hf1 : (own_fold (own_get s0 s1 s2 s3 s4 s5 (st + (1 : Int32)))) = (own_fold t1))).2 k) ?_
            show own_Go _ _ _ _ T16 (mkF m 447 #[.val (.int p1), .val (.int p2), .val (.int p3), .val (.long q4), .second, .val (.long q5), .second, .val (.int p6), .val (.int ki), .val (.int ei), .val (.int sp), .val (.int r), .val (.int 2), .val (.int st), .val (.int en), .val (.ref sc), .val (.ref ta), .val (.ref u1), .val (.ref u2), .val (.ref tka), .val (.int av), .val (.int xa), .unset, .unset] [])
            refine own_st (fun _ k => XS.iload X16.here hx rfl (hb hby at_447) rfl k) ?_
            refine own_st (fun _ k => XS.iconst X16.here hx rfl (hb hby at_449) k) ?_
            refine own_st (fun _ k => XS.icmpYes X16.here hx rfl (pc0 := 450) (pc' := 473) rfl (hb hby at_450) rfl (tlt (by decide : (2 : Int32) < (3 : Int32))).1 (by decide) (by decide) k) ?_
            refine own_st (fun _ k => XS.iconst X16.here hx rfl (hb hby at_473) k) ?_
            refine own_st (fun _ k => XS.goto X16.here hx rfl (pc0 := 474) (pc' := 478) rfl (hb hby at_474) (by decide) (by decide) k) ?_
            refine own_st (fun _ k => XS.istore X16.here hx rfl (hb hby at_478) rfl (l' := #[.val (.int p1), .val (.int p2), .val (.int p3), .val (.long q4), .second, .val (.long q5), .second, .val (.int p6), .val (.int ki), .val (.int ei), .val (.int sp), .val (.int r), .val (.int 2), .val (.int st), .val (.int en), .val (.ref sc), .val (.ref ta), .val (.ref u1), .val (.ref u2), .val (.ref tka), .val (.int av), .val (.int xa), .val (.int 1), .unset]) rfl k) ?_
            show own_Go _ _ _ _ T16 (mkF m 480 #[.val (.int p1), .val (.int p2), .val (.int p3), .val (.long q4), .second, .val (.long q5), .second, .val (.int p6), .val (.int ki), .val (.int ei), .val (.int sp), .val (.int r), .val (.int 2), .val (.int st), .val (.int en), .val (.ref sc), .val (.ref ta), .val (.ref u1), .val (.ref u2), .val (.ref tka), .val (.int av), .val (.int xa), .val (.int 1), .unset] [])
            exact tE _ _ _ _ _ X16 N16' e16 Ot hS hkt hZ hown ki ei _ _ _ _ _ _ _ _ _ _ _ _ _ hxx (Or.inr rfl) (hE.trans (by simp only [hs0, hs1, hf0, hf1, not_true_eq_false, not_false_eq_true, and_true, true_and, and_false, false_and, if_false, own_01]))
          · refine own_st (fun _ k => XS.icmpYes X16.here hx rfl (pc0 := 444) (pc' := 477) rfl (hb hby at_444) rfl (feq (hf1 : ¬ ((own_fold (own_get s0 s1 s2 s3 s4 s5 (st + (1 : Int32)))) = (own_fold t1)))).2 (by decide) (by decide) k) ?_
            show own_Go _ _ _ _ T16 (mkF m 477 #[.val (.int p1), .val (.int p2), .val (.int p3), .val (.long q4), .second, .val (.long q5), .second, .val (.int p6), .val (.int ki), .val (.int ei), .val (.int sp), .val (.int r), .val (.int 2), .val (.int st), .val (.int en), .val (.ref sc), .val (.ref ta), .val (.ref u1), .val (.ref u2), .val (.ref tka), .val (.int av), .val (.int xa), .unset, .unset] [])
            refine own_st (fun _ k => XS.iconst X16.here hx rfl (hb hby at_477) k) ?_
            refine own_st (fun _ k => XS.istore X16.here hx rfl (hb hby at_478) rfl (l' := #[.val (.int p1), .val (.int p2), .val (.int p3), .val (.long q4), .second, .val (.long q5), .second, .val (.int p6), .val (.int ki), .val (.int ei), .val (.int sp), .val (.int r), .val (.int 2), .val (.int st), .val (.int en), .val (.ref sc), .val (.ref ta), .val (.ref u1), .val (.ref u2), .val (.ref tka), .val (.int av), .val (.int xa), .val (.int 0), .unset]) rfl k) ?_
            show own_Go _ _ _ _ T16 (mkF m 480 #[.val (.int p1), .val (.int p2), .val (.int p3), .val (.long q4), .second, .val (.long q5), .second, .val (.int p6), .val (.int ki), .val (.int ei), .val (.int sp), .val (.int r), .val (.int 2), .val (.int st), .val (.int en), .val (.ref sc), .val (.ref ta), .val (.ref u1), .val (.ref u2), .val (.ref tka), .val (.int av), .val (.int xa), .val (.int 0), .unset] [])
            exact tE _ _ _ _ _ X16 N16' e16 Ot hS hkt hZ hown ki ei _ _ _ _ _ _ _ _ _ _ _ _ _ hxx (Or.inl rfl) (hE.trans (by simp only [hs0, hs1, hf0, hf1, not_true_eq_false, not_false_eq_true, and_true, true_and, and_false, false_and, if_false, own_01]))
        · refine own_st (fun _ k => XS.icmpYes X14.here hx rfl (pc0 := 418) (pc' := 477) rfl (hb hby at_418) rfl (feq (hf0 : ¬ ((own_fold (own_get s0 s1 s2 s3 s4 s5 st)) = (own_fold t0)))).2 (by decide) (by decide) k) ?_
          refine own_st (fun _ k => XS.iconst X14.here hx rfl (hb hby at_477) k) ?_
          refine own_st (fun _ k => XS.istore X14.here hx rfl (hb hby at_478) rfl (l' := #[.val (.int p1), .val (.int p2), .val (.int p3), .val (.long q4), .second, .val (.long q5), .second, .val (.int p6), .val (.int ki), .val (.int ei), .val (.int sp), .val (.int r), .val (.int 2), .val (.int st), .val (.int en), .val (.ref sc), .val (.ref ta), .val (.ref u1), .val (.ref u2), .val (.ref tka), .val (.int av), .val (.int xa), .val (.int 0), .unset]) rfl k) ?_
          show own_Go _ _ _ _ T14 (mkF m 480 #[.val (.int p1), .val (.int p2), .val (.int p3), .val (.long q4), .second, .val (.long q5), .second, .val (.int p6), .val (.int ki), .val (.int ei), .val (.int sp), .val (.int r), .val (.int 2), .val (.int st), .val (.int en), .val (.ref sc), .val (.ref ta), .val (.ref u1), .val (.ref u2), .val (.ref tka), .val (.int av), .val (.int xa), .val (.int 0), .unset] [])
          exact tE _ _ _ _ _ X14 N14' e14 Ot hS hkt hZ hown ki ei _ _ _ _ _ _ _ _ _ _ _ _ _ hxx (Or.inl rfl) (hE.trans (by simp only [hs0, hs1, hf0, not_true_eq_false, not_false_eq_true, and_true, true_and, and_false, false_and, if_false, own_01]))
  have tl3_2 : ∀ (Tt : State) (lt : List Loc) (ht : Heap) (vmt : Vm) (kt : Nat) (Xt : Stand p l e room_1 (s.setVm vmt) m #[(.int p1), (.int p2), (.int p3), (.long q4), (.long q5), (.int p6)] below meth c Tt lt 10 41) (Nt : Fr n0 lt) (et : Tt.heap = ht) (Ot : Ext h0 ht) (hS : s.Since vmt kt) (hkt : kt ≤ ht.size) (hZ : Z.Warmed39 (s.setVm vmt).vm) (hown : (s.setVm vmt).vm.findClass "com/example/isoscope/isoscope/TokenIsPinLaw" = some m.cls) (ki ei sp r st en : Int32) (hki : 0 ≤ ki.toInt ∧ ki.toInt < 9) (hei : 0 ≤ ei.toInt ∧ ei.toInt < 9) (hr : 0 ≤ r.toInt ∧ r.toInt < 6) (sc ta : Addr) (ksc kta : ClassId) (s0 s1 s2 s3 s4 s5 t0 t1 t2 : Int32) (gc0 : own_ch s0) (gc1 : own_ch s1) (gc2 : own_ch s2) (gc3 : own_ch s3) (gc4 : own_ch s4) (gc5 : own_ch s5) (d0 : own_ch t0) (d1 : own_ch t1) (d2 : own_ch t2) (Vsc : Arv Z ht sc ksc .char (6 : Int32) [(.int s0), (.int s1), (.int s2), (.int s3), (.int s4), (.int s5)] (.int 0)) (Vta : Arv Z ht ta kta .char (3 : Int32) [(.int t0), (.int t1), (.int t2)] (.int 0)) (u1 v1 : Addr) (k1 : ClassId) (vs : List Value) (Eu1 : Exa Z ht u1 "java/lang/String") (Fv1 : Fld Z ht u1 "java/lang/String" "value" "[B" (.ref v1)) (Fc1 : Fld Z ht u1 "java/lang/String" "coder" "B" (.int 0)) (Vu1 : Arv Z ht v1 k1 .byte r vs (.int 0)) (hB : ∀ j : Int32, ¬ j < 0 → j < r → vs.getD j.toNatClampNeg (.int 0) = .int (own_bf s0 s1 s2 s3 s4 s5 j)) (u2 v2 : Addr) (k2 : ClassId) (Eu2 : Exa Z ht u2 "java/lang/String") (Fv2 : Fld Z ht u2 "java/lang/String" "value" "[B" (.ref v2)) (Fc2 : Fld Z ht u2 "java/lang/String" "coder" "B" (.int 0)) (Vu2 : Arv Z ht v2 k2 .byte (2 : Int32) [(.int (nar .byte (t0.toInt8.toInt32))), (.int (nar .byte (t1.toInt8.toInt32)))] (.int 0)), own_Go p.tables e below (own_FW below s (own_law_Q Z p1 p2 p3 q4 q5 p6 w0 w1 w2 w3 w4 w5 w6 w7 w8 cs h0 n0) 32 1216) Tt (mkF m 321 #[.val (.int p1), .val (.int p2), .val (.int p3), .val (.long q4), .second, .val (.long q5), .second, .val (.int p6), .val (.int ki), .val (.int ei), .val (.int sp), .val (.int r), .val (.int 2), .val (.int st), .val (.int en), .val (.ref sc), .val (.ref ta), .val (.ref u1), .val (.ref u2), .unset, .unset, .unset, .unset, .unset] []) := by
    intro Tt lt ht vmt kt Xt Nt et Ot hS hkt hZ hown ki ei sp r st en hki hei hr sc ta ksc kta s0 s1 s2 s3 s4 s5 t0 t1 t2 gc0 gc1 gc2 gc3 gc4 gc5 d0 d1 d2 Vsc Vta u1 v1 k1 vs Eu1 Fv1 Fc1 Vu1 hB u2 v2 k2 Eu2 Fv2 Fc2 Vu2
    obtain ⟨T17, hp17, X17, e17, Et17, A17, D17, -, st17⟩ := newO Xt hx hZ hown (own_w41 hw) (own_w42 hw) (own_w43 hw) et (g := (mkF m 321 #[.val (.int p1), .val (.int p2), .val (.int p3), .val (.long q4), .second, .val (.long q5), .second, .val (.int p6), .val (.int ki), .val (.int ei), .val (.int sp), .val (.int r), .val (.int 2), .val (.int st), .val (.int en), .val (.ref sc), .val (.ref ta), .val (.ref u1), .val (.ref u2), .unset, .unset, .unset, .unset, .unset] [])) rfl (hb hby at_321) (by decide) (by decide)
    obtain ⟨b17, g17⟩ : ∃ z, z = ht.size := ⟨_, rfl⟩
    rw [← g17] at A17 D17 st17
    have s_b17 : h0.size ≤ b17 := Nat.le_trans Ot.1 (Nat.le_of_eq g17.symm)
    have g_b17 : n0 ≤ b17 := Nat.le_trans Z0 s_b17
    have lt_sc_b17 : sc < b17 := Nat.lt_of_lt_of_le Vsc.lt (Nat.le_of_eq g17.symm)
    have lt_ta_b17 : ta < b17 := Nat.lt_of_lt_of_le Vta.lt (Nat.le_of_eq g17.symm)
    have lt_u1_b17 : u1 < b17 := Nat.lt_of_lt_of_le Eu1.lt (Nat.le_of_eq g17.symm)
    have lt_v1_b17 : v1 < b17 := Nat.lt_of_lt_of_le Vu1.lt (Nat.le_of_eq g17.symm)
    have lt_u2_b17 : u2 < b17 := Nat.lt_of_lt_of_le Eu2.lt (Nat.le_of_eq g17.symm)
    have lt_v2_b17 : v2 < b17 := Nat.lt_of_lt_of_le Vu2.lt (Nat.le_of_eq g17.symm)
    have hk17 := Nat.le_trans hkt Et17.1
    have O17 := own_extt Ot Et17
    have V_sc_17 := Vsc.ext Et17
    have V_ta_17 := Vta.ext Et17
    have V_v1_17 := Vu1.ext Et17
    have V_v2_17 := Vu2.ext Et17
    have Ex_u1_17 := Eu1.ext Et17
    have Ex_u2_17 := Eu2.ext Et17
    have F_value_u1_17 := Fv1.ext Et17
    have F_coder_u1_17 := Fc1.ext Et17
    have F_value_u2_17 := Fv2.ext Et17
    have F_coder_u2_17 := Fc2.ext Et17
    have F_kind_b17 : Fld Z hp17 b17 "com/example/isoscope/isoscope/SqlLexer$Token" "kind" "Lcom/example/isoscope/isoscope/SqlLexer$Kind;" .null := D17 (Or.inr (own_w60 hw)) (ty := (.object "com/example/isoscope/isoscope/SqlLexer$Kind")) (by decide)
    have F_start_b17 : Fld Z hp17 b17 "com/example/isoscope/isoscope/SqlLexer$Token" "start" "I" (.int 0) := D17 (Or.inr (own_w62 hw)) (ty := .int) (by decide)
    have F_end_b17 : Fld Z hp17 b17 "com/example/isoscope/isoscope/SqlLexer$Token" "end" "I" (.int 0) := D17 (Or.inr (own_w64 hw)) (ty := .int) (by decide)
    have F_spaced_b17 : Fld Z hp17 b17 "com/example/isoscope/isoscope/SqlLexer$Token" "spaced" "Z" (.int 0) := D17 (Or.inr (own_w66 hw)) (ty := .boolean) (by decide)
    refine own_st st17 ?_
    refine own_st (fun _ k => XS.dup X17.here hx rfl (hb hby at_324) rfl rfl k) ?_
    refine own_st (fun _ k => XS.iload X17.here hx rfl (hb hby at_325) rfl k) ?_
    obtain ⟨v18, T18, L18, hQ18, X18, st18⟩ := own_callS X17 hx hZ (y := (⟨"com/example/isoscope/isoscope/TokenIsPinLaw", "kind", "(I)Lcom/example/isoscope/isoscope/SqlLexer$Kind;"⟩ : MethodName)) hown (own_w44 hw) (own_w45 hw) (own_w4 hw) (own_w46 hw) (by decide) (own_kind l hw [] ki w0 w1 w2 w3 w4 w5 w6 w7 w8 hp17 n0 (Nat.le_trans Z0 O17.1) (S0.ext O17) (S1.ext O17) (S2.ext O17) (S3.ext O17) (S4.ext O17) (S5.ext O17) (S6.ext O17) (S7.ext O17) (S8.ext O17)) e17 (g := (mkF m 327 #[.val (.int p1), .val (.int p2), .val (.int p3), .val (.long q4), .second, .val (.long q5), .second, .val (.int p6), .val (.int ki), .val (.int ei), .val (.int sp), .val (.int r), .val (.int 2), .val (.int st), .val (.int en), .val (.ref sc), .val (.ref ta), .val (.ref u1), .val (.ref u2), .unset, .unset, .unset, .unset, .unset] [(.int ki), (.ref b17), (.ref b17)])) rfl (by rw [hml]; rfl) (argsL := [(.int ki)]) (rest := [(.ref b17), (.ref b17)]) (lenOf own_pd11 rfl) rfl rfl (W := 2) (Nat.le_of_eq rfl) (hb hby at_327) (by decide) (by decide) (by decide) (by decide)
    obtain ⟨rfl, N18, e18⟩ := hQ18
    have N18' := Fr.app Nt N18
    refine own_st st18 ?_
    refine own_st (fun _ k => XS.iload X18.here hx rfl (hb hby at_330) rfl k) ?_
    refine own_st (fun _ k => XS.iload X18.here hx rfl (hb hby at_332) rfl k) ?_
    refine own_st (fun _ k => XS.iload X18.here hx rfl (hb hby at_334) rfl k) ?_
    obtain ⟨v19, T19, L19, hQ19, X19, st19⟩ := own_callI X18 hx hZ (y := (⟨"com/example/isoscope/isoscope/SqlLexer$Token", "<init>", "(Lcom/example/isoscope/isoscope/SqlLexer$Kind;IIZ)V"⟩ : MethodName)) rfl hown (own_w50 hw) (own_w51 hw) (own_w43 hw) (own_w52 hw) (by decide) (own_tk l hw [] b17 (own_kd ki w0 w1 w2 w3 w4 w5 w6 w7 w8) st en sp hp17 n0 (Nat.le_trans Z0 O17.1) g_b17 A17 F_kind_b17 F_start_b17 F_end_b17 F_spaced_b17) e18 (g := (mkF m 336 #[.val (.int p1), .val (.int p2), .val (.int p3), .val (.long q4), .second, .val (.long q5), .second, .val (.int p6), .val (.int ki), .val (.int ei), .val (.int sp), .val (.int r), .val (.int 2), .val (.int st), .val (.int en), .val (.ref sc), .val (.ref ta), .val (.ref u1), .val (.ref u2), .unset, .unset, .unset, .unset, .unset] [(.int sp), (.int en), (.int st), (.ref (own_kd ki w0 w1 w2 w3 w4 w5 w6 w7 w8)), (.ref b17), (.ref b17)])) rfl (by rw [hml]; rfl) (argsL := [(.ref (own_kd ki w0 w1 w2 w3 w4 w5 w6 w7 w8)), (.int st), (.int en), (.int sp)]) (rest := [(.ref b17)]) (lenOf own_pd12 rfl) rfl rfl (W := 1) (Nat.le_of_eq rfl) (hb hby at_336) (by decide) (by decide) (by decide) (by decide)
    obtain ⟨rfl, N19, K19, Tk19, Ts19, Te19⟩ := hQ19
    have O19 := own_extk O17 K19 s_b17
    have hk19 := Nat.le_trans hk17 K19.1
    have V_sc_19 := V_sc_17.keep K19 (ninS (Nat.ne_of_lt lt_sc_b17) nin0)
    have V_ta_19 := V_ta_17.keep K19 (ninS (Nat.ne_of_lt lt_ta_b17) nin0)
    have V_v1_19 := V_v1_17.keep K19 (ninS (Nat.ne_of_lt lt_v1_b17) nin0)
    have V_v2_19 := V_v2_17.keep K19 (ninS (Nat.ne_of_lt lt_v2_b17) nin0)
    have Ex_u1_19 := Ex_u1_17.keep K19
    have Ex_u2_19 := Ex_u2_17.keep K19
    have Ex_b17_19 := A17.keep K19
    have F_value_u1_19 := F_value_u1_17.keep K19 (ninS (Nat.ne_of_lt lt_u1_b17) nin0)
    have F_coder_u1_19 := F_coder_u1_17.keep K19 (ninS (Nat.ne_of_lt lt_u1_b17) nin0)
    have F_value_u2_19 := F_value_u2_17.keep K19 (ninS (Nat.ne_of_lt lt_u2_b17) nin0)
    have F_coder_u2_19 := F_coder_u2_17.keep K19 (ninS (Nat.ne_of_lt lt_u2_b17) nin0)
    have N19' := Fr.app N18' N19
    refine own_st st19 ?_
    show own_Go _ _ _ _ T19 (mkF m 339 #[.val (.int p1), .val (.int p2), .val (.int p3), .val (.long q4), .second, .val (.long q5), .second, .val (.int p6), .val (.int ki), .val (.int ei), .val (.int sp), .val (.int r), .val (.int 2), .val (.int st), .val (.int en), .val (.ref sc), .val (.ref ta), .val (.ref u1), .val (.ref u2), .unset, .unset, .unset, .unset, .unset] [(.ref b17)])
    refine own_st (fun _ k => XS.astore X19.here hx rfl (hb hby at_339) rfl rfl (l' := #[.val (.int p1), .val (.int p2), .val (.int p3), .val (.long q4), .second, .val (.long q5), .second, .val (.int p6), .val (.int ki), .val (.int ei), .val (.int sp), .val (.int r), .val (.int 2), .val (.int st), .val (.int en), .val (.ref sc), .val (.ref ta), .val (.ref u1), .val (.ref u2), .val (.ref b17), .unset, .unset, .unset, .unset]) rfl k) ?_
    refine own_st (fun _ k => XS.aload X19.here hx rfl (hb hby at_341) rfl rfl k) ?_
    refine own_st (fun _ k => XS.aload X19.here hx rfl (hb hby at_343) rfl rfl k) ?_
    refine own_st (fun _ k => XS.iload X19.here hx rfl (hb hby at_345) rfl k) ?_
    obtain ⟨v20, T20, L20, hQ20, X20, st20⟩ := own_callS X19 hx hZ (y := (⟨"com/example/isoscope/isoscope/TokenIsPinLaw", "kind", "(I)Lcom/example/isoscope/isoscope/SqlLexer$Kind;"⟩ : MethodName)) hown (own_w44 hw) (own_w45 hw) (own_w4 hw) (own_w46 hw) (by decide) (own_kind l hw [] ei w0 w1 w2 w3 w4 w5 w6 w7 w8 T19.heap n0 (Nat.le_trans Z0 O19.1) (S0.ext O19) (S1.ext O19) (S2.ext O19) (S3.ext O19) (S4.ext O19) (S5.ext O19) (S6.ext O19) (S7.ext O19) (S8.ext O19)) rfl (g := (mkF m 347 #[.val (.int p1), .val (.int p2), .val (.int p3), .val (.long q4), .second, .val (.long q5), .second, .val (.int p6), .val (.int ki), .val (.int ei), .val (.int sp), .val (.int r), .val (.int 2), .val (.int st), .val (.int en), .val (.ref sc), .val (.ref ta), .val (.ref u1), .val (.ref u2), .val (.ref b17), .unset, .unset, .unset, .unset] [(.int ei), (.ref u1), (.ref b17)])) rfl (by rw [hml]; rfl) (argsL := [(.int ei)]) (rest := [(.ref u1), (.ref b17)]) (lenOf own_pd11 rfl) rfl rfl (W := 2) (Nat.le_of_eq rfl) (hb hby at_347) (by decide) (by decide) (by decide) (by decide)
    obtain ⟨rfl, N20, e20⟩ := hQ20
    have N20' := Fr.app N19' N20
    refine own_st st20 ?_
    refine own_st (fun _ k => XS.aload X20.here hx rfl (hb hby at_350) rfl rfl k) ?_
    obtain ⟨v21, T21, L21, hQ21, X21, st21⟩ := own_callV X20 hx hZ (y := (⟨"com/example/isoscope/isoscope/SqlLexer$Token", "is", "(Ljava/lang/String;Lcom/example/isoscope/isoscope/SqlLexer$Kind;Ljava/lang/String;)Z"⟩ : MethodName)) hown (own_w67 hw) (own_w68 hw) (own_w70 hw) (own_w69 hw) (own_w43 hw) (own_w71 hw) (by decide) (own_is2 l hw [] b17 u1 (own_kd ei w0 w1 w2 w3 w4 w5 w6 w7 w8) u2 (own_kd ki w0 w1 w2 w3 w4 w5 w6 w7 w8) v1 v2 st en r cs k1 k2 vs (own_bf s0 s1 s2 s3 s4 s5) (nar .byte (t0.toInt8.toInt32)) (nar .byte (t1.toInt8.toInt32)) T19.heap n0 (Nat.le_trans Z0 O19.1) (by omega) Tk19 Ts19 Te19 (Scs.ext O19) hcs Ex_u1_19 F_value_u1_19 F_coder_u1_19 V_v1_19 hB Ex_u2_19 F_value_u2_19 F_coder_u2_19 V_v2_19) e20 Ex_b17_19 (g := (mkF m 352 #[.val (.int p1), .val (.int p2), .val (.int p3), .val (.long q4), .second, .val (.long q5), .second, .val (.int p6), .val (.int ki), .val (.int ei), .val (.int sp), .val (.int r), .val (.int 2), .val (.int st), .val (.int en), .val (.ref sc), .val (.ref ta), .val (.ref u1), .val (.ref u2), .val (.ref b17), .unset, .unset, .unset, .unset] [(.ref u2), (.ref (own_kd ei w0 w1 w2 w3 w4 w5 w6 w7 w8)), (.ref u1), (.ref b17)])) rfl (by rw [hml]; rfl) (argsL := [(.ref u1), (.ref (own_kd ei w0 w1 w2 w3 w4 w5 w6 w7 w8)), (.ref u2)]) (rest := []) (lenOf own_pd13 rfl) rfl rfl (W := 0) (Nat.le_of_eq rfl) (hb hby at_352) (by decide) (by decide) (by decide) (by decide)
    obtain ⟨rfl, N21, e21⟩ := hQ21
    have N21' := Fr.app N20' N21
    refine own_st st21 ?_
    show own_Go _ _ _ _ T21 (mkF m 355 #[.val (.int p1), .val (.int p2), .val (.int p3), .val (.long q4), .second, .val (.long q5), .second, .val (.int p6), .val (.int ki), .val (.int ei), .val (.int sp), .val (.int r), .val (.int 2), .val (.int st), .val (.int en), .val (.ref sc), .val (.ref ta), .val (.ref u1), .val (.ref u2), .val (.ref b17), .unset, .unset, .unset, .unset] [(.int (if own_kd ki w0 w1 w2 w3 w4 w5 w6 w7 w8 = own_kd ei w0 w1 w2 w3 w4 w5 w6 w7 w8 then (if en - st = (2 : Int32) then (if st < 0 then (0 : Int32) else if (0 : Int32) < lcmpW st.toInt64 (r.toInt64 - (2 : Int64)) then (0 : Int32) else (if own_eic ((own_bf s0 s1 s2 s3 s4 s5) st) (nar .byte (t0.toInt8.toInt32)) = 0 then (0 : Int32) else (if own_eic ((own_bf s0 s1 s2 s3 s4 s5) (st + (1 : Int32))) (nar .byte (t1.toInt8.toInt32)) = 0 then (0 : Int32) else (1 : Int32)))) else (0 : Int32)) else (0 : Int32)))])
    generalize hav : (if own_kd ki w0 w1 w2 w3 w4 w5 w6 w7 w8 = own_kd ei w0 w1 w2 w3 w4 w5 w6 w7 w8 then (if en - st = (2 : Int32) then (if st < 0 then (0 : Int32) else if (0 : Int32) < lcmpW st.toInt64 (r.toInt64 - (2 : Int64)) then (0 : Int32) else (if own_eic ((own_bf s0 s1 s2 s3 s4 s5) st) (nar .byte (t0.toInt8.toInt32)) = 0 then (0 : Int32) else (if own_eic ((own_bf s0 s1 s2 s3 s4 s5) (st + (1 : Int32))) (nar .byte (t1.toInt8.toInt32)) = 0 then (0 : Int32) else (1 : Int32)))) else (0 : Int32)) else (0 : Int32)) = av
    show own_Go _ _ _ _ T21 (mkF m 355 #[.val (.int p1), .val (.int p2), .val (.int p3), .val (.long q4), .second, .val (.long q5), .second, .val (.int p6), .val (.int ki), .val (.int ei), .val (.int sp), .val (.int r), .val (.int 2), .val (.int st), .val (.int en), .val (.ref sc), .val (.ref ta), .val (.ref u1), .val (.ref u2), .val (.ref b17), .unset, .unset, .unset, .unset] [(.int av)])
    have Hkd : (own_kd ki w0 w1 w2 w3 w4 w5 w6 w7 w8 = own_kd ei w0 w1 w2 w3 w4 w5 w6 w7 w8) ↔ ki = ei := ⟨fun q => Decidable.byContradiction fun n => Fld.ne (Fk ki hki.1 (by omega)) (Fk ei hei.1 (by omega)) (fun z => n (Value.int.inj z)) q, fun q => by rw [q]⟩
    have E3_0 : own_eic (own_bf s0 s1 s2 s3 s4 s5 st) (nar .byte (t0.toInt8.toInt32)) = if own_fold (own_get s0 s1 s2 s3 s4 s5 st) = own_fold t0 then 1 else 0 := own_ci (own_gch gc0 gc1 gc2 gc3 gc4 gc5 _) d0
    have E3_1 : own_eic (own_bf s0 s1 s2 s3 s4 s5 (st + (1 : Int32))) (nar .byte (t1.toInt8.toInt32)) = if own_fold (own_get s0 s1 s2 s3 s4 s5 (st + (1 : Int32))) = own_fold t1 then 1 else 0 := own_ci (own_gch gc0 gc1 gc2 gc3 gc4 gc5 _) d1
    simp only [Hkd, own_E2 st r (2 : Int64) 2 (by decide) (by decide) (by decide), E3_0, E3_1] at hav
    have hres : ∀ xa : Int32, (xa = if lcmpW (en.toInt64 - st.toInt64) (2 : Int64) = 0 then 1 else 0) → av = if ki = ei ∧ xa = 1 ∧ (¬ st < 0 ∧ ¬ (0 : Int32) < lcmpW (st.toInt64 + (2 : Int64)) r.toInt64 ∧ own_fold (own_get s0 s1 s2 s3 s4 s5 st) = own_fold t0 ∧ own_fold (own_get s0 s1 s2 s3 s4 s5 (st + (1 : Int32))) = own_fold t1) then 1 else 0 := fun xa hxa => hav.symm.trans (own_logic (A := lcmpW (en.toInt64 - st.toInt64) (2 : Int64) = 0) own_reg2 (fun q => own_E1 (k := 2) (by decide) (by decide) (by decide) (by decide) (by omega) q.1 q.2.1) hxa)
    refine own_st (fun _ k => XS.istore X21.here hx rfl (hb hby at_355) rfl (l' := #[.val (.int p1), .val (.int p2), .val (.int p3), .val (.long q4), .second, .val (.long q5), .second, .val (.int p6), .val (.int ki), .val (.int ei), .val (.int sp), .val (.int r), .val (.int 2), .val (.int st), .val (.int en), .val (.ref sc), .val (.ref ta), .val (.ref u1), .val (.ref u2), .val (.ref b17), .val (.int av), .unset, .unset, .unset]) rfl k) ?_
    refine own_st (fun _ k => XS.iload X21.here hx rfl (hb hby at_357) rfl k) ?_
    refine own_st (fun _ k => XS.i2l X21.here hx rfl (hb hby at_359) rfl k) ?_
    refine own_st (fun _ k => XS.iload X21.here hx rfl (hb hby at_360) rfl k) ?_
    refine own_st (fun _ k => XS.i2l X21.here hx rfl (hb hby at_362) rfl k) ?_
    refine own_st (fun _ k => XS.lsub X21.here hx rfl (hb hby at_363) rfl k) ?_
    refine own_st (fun _ k => XS.iload X21.here hx rfl (hb hby at_364) rfl k) ?_
    refine own_st (fun _ k => XS.i2l X21.here hx rfl (hb hby at_366) rfl k) ?_
    show own_Go _ _ _ _ T21 (mkF m 367 #[.val (.int p1), .val (.int p2), .val (.int p3), .val (.long q4), .second, .val (.long q5), .second, .val (.int p6), .val (.int ki), .val (.int ei), .val (.int sp), .val (.int r), .val (.int 2), .val (.int st), .val (.int en), .val (.ref sc), .val (.ref ta), .val (.ref u1), .val (.ref u2), .val (.ref b17), .val (.int av), .unset, .unset, .unset] [(.long ((2 : Int32).toInt64)), (.long ((en.toInt64) - (st.toInt64)))])
    rw [show ((2 : Int32).toInt64) = (2 : Int64) from by decide]
    refine own_st (fun _ k => XS.lcmp X21.here hx rfl (hb hby at_367) rfl k) ?_
    by_cases hA : (lcmpW ((en.toInt64) - (st.toInt64)) (2 : Int64)) = (0 : Int32)
    · refine own_st (fun _ k => XS.ifNo X21.here hx rfl (hb hby at_368) rfl ((if0 _ _).trans (teq (hA : (lcmpW ((en.toInt64) - (st.toInt64)) (2 : Int64)) = (0 : Int32))).2) k) ?_
      refine own_st (fun _ k => XS.iconst X21.here hx rfl (hb hby at_371) k) ?_
      refine own_st (fun _ k => XS.goto X21.here hx rfl (pc0 := 372) (pc' := 376) rfl (hb hby at_372) (by decide) (by decide) k) ?_
      refine own_st (fun _ k => XS.istore X21.here hx rfl (hb hby at_376) rfl (l' := #[.val (.int p1), .val (.int p2), .val (.int p3), .val (.long q4), .second, .val (.long q5), .second, .val (.int p6), .val (.int ki), .val (.int ei), .val (.int sp), .val (.int r), .val (.int 2), .val (.int st), .val (.int en), .val (.ref sc), .val (.ref ta), .val (.ref u1), .val (.ref u2), .val (.ref b17), .val (.int av), .val (.int 1), .unset, .unset]) rfl k) ?_
      show own_Go _ _ _ _ T21 (mkF m 378 #[.val (.int p1), .val (.int p2), .val (.int p3), .val (.long q4), .second, .val (.long q5), .second, .val (.int p6), .val (.int ki), .val (.int ei), .val (.int sp), .val (.int r), .val (.int 2), .val (.int st), .val (.int en), .val (.ref sc), .val (.ref ta), .val (.ref u1), .val (.ref u2), .val (.ref b17), .val (.int av), .val (.int 1), .unset, .unset] [])
      exact tR_2 _ _ _ _ _ X21 N21' e21 O19 hS hk19 hZ hown _ _ _ _ _ _ _ _ hr _ _ _ _ _ _ _ _ _ _ _ _ _ gc0 gc1 gc2 gc3 gc4 gc5 d0 d1 d2 V_sc_19 V_ta_19 _ _ _ (Or.inr rfl) (hres _ (by simp [hA]))
    · refine own_st (fun _ k => XS.ifYes X21.here hx rfl (pc0 := 368) (pc' := 375) rfl (hb hby at_368) rfl ((if0 _ _).trans (feq (hA : ¬ ((lcmpW ((en.toInt64) - (st.toInt64)) (2 : Int64)) = (0 : Int32)))).2) (by decide) (by decide) k) ?_
      refine own_st (fun _ k => XS.iconst X21.here hx rfl (hb hby at_375) k) ?_
      refine own_st (fun _ k => XS.istore X21.here hx rfl (hb hby at_376) rfl (l' := #[.val (.int p1), .val (.int p2), .val (.int p3), .val (.long q4), .second, .val (.long q5), .second, .val (.int p6), .val (.int ki), .val (.int ei), .val (.int sp), .val (.int r), .val (.int 2), .val (.int st), .val (.int en), .val (.ref sc), .val (.ref ta), .val (.ref u1), .val (.ref u2), .val (.ref b17), .val (.int av), .val (.int 0), .unset, .unset]) rfl k) ?_
      show own_Go _ _ _ _ T21 (mkF m 378 #[.val (.int p1), .val (.int p2), .val (.int p3), .val (.long q4), .second, .val (.long q5), .second, .val (.int p6), .val (.int ki), .val (.int ei), .val (.int sp), .val (.int r), .val (.int 2), .val (.int st), .val (.int en), .val (.ref sc), .val (.ref ta), .val (.ref u1), .val (.ref u2), .val (.ref b17), .val (.int av), .val (.int 0), .unset, .unset] [])
      exact tR_2 _ _ _ _ _ X21 N21' e21 O19 hS hk19 hZ hown _ _ _ _ _ _ _ _ hr _ _ _ _ _ _ _ _ _ _ _ _ _ gc0 gc1 gc2 gc3 gc4 gc5 d0 d1 d2 V_sc_19 V_ta_19 _ _ _ (Or.inl rfl) (hres _ (by simp [hA]))
  have tR_3 : ∀ (Tt : State) (lt : List Loc) (ht : Heap) (vmt : Vm) (kt : Nat) (Xt : Stand p l e room_1 (s.setVm vmt) m #[(.int p1), (.int p2), (.int p3), (.long q4), (.long q5), (.int p6)] below meth c Tt lt 11 45) (Nt : Fr n0 lt) (et : Tt.heap = ht) (Ot : Ext h0 ht) (hS : s.Since vmt kt) (hkt : kt ≤ ht.size) (hZ : Z.Warmed39 (s.setVm vmt).vm) (hown : (s.setVm vmt).vm.findClass "com/example/isoscope/isoscope/TokenIsPinLaw" = some m.cls) (ki ei sp r st en : Int32) (u1 u2 : Addr) (hr : 0 ≤ r.toInt ∧ r.toInt < 6) (sc ta : Addr) (ksc kta : ClassId) (s0 s1 s2 s3 s4 s5 t0 t1 t2 : Int32) (gc0 : own_ch s0) (gc1 : own_ch s1) (gc2 : own_ch s2) (gc3 : own_ch s3) (gc4 : own_ch s4) (gc5 : own_ch s5) (d0 : own_ch t0) (d1 : own_ch t1) (d2 : own_ch t2) (Vsc : Arv Z ht sc ksc .char (6 : Int32) [(.int s0), (.int s1), (.int s2), (.int s3), (.int s4), (.int s5)] (.int 0)) (Vta : Arv Z ht ta kta .char (3 : Int32) [(.int t0), (.int t1), (.int t2)] (.int 0)) (tka : Addr) (av xa : Int32) (hxx : xa = 0 ∨ xa = 1) (hE : av = if ki = ei ∧ xa = 1 ∧ (¬ st < 0 ∧ ¬ (0 : Int32) < lcmpW (st.toInt64 + (3 : Int64)) r.toInt64 ∧ own_fold (own_get s0 s1 s2 s3 s4 s5 st) = own_fold t0 ∧ own_fold (own_get s0 s1 s2 s3 s4 s5 (st + (1 : Int32))) = own_fold t1 ∧ own_fold (own_get s0 s1 s2 s3 s4 s5 (st + (2 : Int32))) = own_fold t2) then 1 else 0), own_Go p.tables e below (own_FW below s (own_law_Q Z p1 p2 p3 q4 q5 p6 w0 w1 w2 w3 w4 w5 w6 w7 w8 cs h0 n0) 32 1216) Tt (mkF m 378 #[.val (.int p1), .val (.int p2), .val (.int p3), .val (.long q4), .second, .val (.long q5), .second, .val (.int p6), .val (.int ki), .val (.int ei), .val (.int sp), .val (.int r), .val (.int 3), .val (.int st), .val (.int en), .val (.ref sc), .val (.ref ta), .val (.ref u1), .val (.ref u2), .val (.ref tka), .val (.int av), .val (.int xa), .unset, .unset] []) := by
    intro Tt lt ht vmt kt Xt Nt et Ot hS hkt hZ hown ki ei sp r st en u1 u2 hr sc ta ksc kta s0 s1 s2 s3 s4 s5 t0 t1 t2 gc0 gc1 gc2 gc3 gc4 gc5 d0 d1 d2 Vsc Vta tka av xa hxx hE
    refine own_st (fun _ k => XS.iload Xt.here hx rfl (hb hby at_378) rfl k) ?_
    by_cases hs0 : st < (0 : Int32)
    · refine own_st (fun _ k => XS.ifYes Xt.here hx rfl (pc0 := 380) (pc' := 477) rfl (hb hby at_380) rfl ((if0 _ _).trans (tlt (hs0 : st < (0 : Int32))).1) (by decide) (by decide) k) ?_
      refine own_st (fun _ k => XS.iconst Xt.here hx rfl (hb hby at_477) k) ?_
      refine own_st (fun _ k => XS.istore Xt.here hx rfl (hb hby at_478) rfl (l' := #[.val (.int p1), .val (.int p2), .val (.int p3), .val (.long q4), .second, .val (.long q5), .second, .val (.int p6), .val (.int ki), .val (.int ei), .val (.int sp), .val (.int r), .val (.int 3), .val (.int st), .val (.int en), .val (.ref sc), .val (.ref ta), .val (.ref u1), .val (.ref u2), .val (.ref tka), .val (.int av), .val (.int xa), .val (.int 0), .unset]) rfl k) ?_
      show own_Go _ _ _ _ Tt (mkF m 480 #[.val (.int p1), .val (.int p2), .val (.int p3), .val (.long q4), .second, .val (.long q5), .second, .val (.int p6), .val (.int ki), .val (.int ei), .val (.int sp), .val (.int r), .val (.int 3), .val (.int st), .val (.int en), .val (.ref sc), .val (.ref ta), .val (.ref u1), .val (.ref u2), .val (.ref tka), .val (.int av), .val (.int xa), .val (.int 0), .unset] [])
      exact tE _ _ _ _ _ Xt Nt et Ot hS hkt hZ hown ki ei _ _ _ _ _ _ _ _ _ _ _ _ _ hxx (Or.inl rfl) (hE.trans (by simp only [hs0, not_true_eq_false, not_false_eq_true, and_true, true_and, and_false, false_and, if_false, own_01]))
    · refine own_st (fun _ k => XS.ifNo Xt.here hx rfl (hb hby at_380) rfl ((if0 _ _).trans (flt (hs0 : ¬ (st < (0 : Int32)))).1) k) ?_
      refine own_st (fun _ k => XS.iload Xt.here hx rfl (hb hby at_383) rfl k) ?_
      refine own_st (fun _ k => XS.i2l Xt.here hx rfl (hb hby at_385) rfl k) ?_
      refine own_st (fun _ k => XS.iload Xt.here hx rfl (hb hby at_386) rfl k) ?_
      refine own_st (fun _ k => XS.i2l Xt.here hx rfl (hb hby at_388) rfl k) ?_
      show own_Go _ _ _ _ Tt (mkF m 389 #[.val (.int p1), .val (.int p2), .val (.int p3), .val (.long q4), .second, .val (.long q5), .second, .val (.int p6), .val (.int ki), .val (.int ei), .val (.int sp), .val (.int r), .val (.int 3), .val (.int st), .val (.int en), .val (.ref sc), .val (.ref ta), .val (.ref u1), .val (.ref u2), .val (.ref tka), .val (.int av), .val (.int xa), .unset, .unset] [(.long ((3 : Int32).toInt64)), (.long (st.toInt64))])
      rw [show ((3 : Int32).toInt64) = (3 : Int64) from by decide]
      refine own_st (fun _ k => XS.ladd Xt.here hx rfl (hb hby at_389) rfl k) ?_
      refine own_st (fun _ k => XS.iload Xt.here hx rfl (hb hby at_390) rfl k) ?_
      refine own_st (fun _ k => XS.i2l Xt.here hx rfl (hb hby at_392) rfl k) ?_
      refine own_st (fun _ k => XS.lcmp Xt.here hx rfl (hb hby at_393) rfl k) ?_
      by_cases hs1 : (0 : Int32) < (lcmpW ((st.toInt64) + (3 : Int64)) (r.toInt64))
      · refine own_st (fun _ k => XS.ifYes Xt.here hx rfl (pc0 := 394) (pc' := 477) rfl (hb hby at_394) rfl ((if0 _ _).trans (tlt (hs1 : (0 : Int32) < (lcmpW ((st.toInt64) + (3 : Int64)) (r.toInt64)))).2.2.1) (by decide) (by decide) k) ?_
        refine own_st (fun _ k => XS.iconst Xt.here hx rfl (hb hby at_477) k) ?_
        refine own_st (fun _ k => XS.istore Xt.here hx rfl (hb hby at_478) rfl (l' := #[.val (.int p1), .val (.int p2), .val (.int p3), .val (.long q4), .second, .val (.long q5), .second, .val (.int p6), .val (.int ki), .val (.int ei), .val (.int sp), .val (.int r), .val (.int 3), .val (.int st), .val (.int en), .val (.ref sc), .val (.ref ta), .val (.ref u1), .val (.ref u2), .val (.ref tka), .val (.int av), .val (.int xa), .val (.int 0), .unset]) rfl k) ?_
        show own_Go _ _ _ _ Tt (mkF m 480 #[.val (.int p1), .val (.int p2), .val (.int p3), .val (.long q4), .second, .val (.long q5), .second, .val (.int p6), .val (.int ki), .val (.int ei), .val (.int sp), .val (.int r), .val (.int 3), .val (.int st), .val (.int en), .val (.ref sc), .val (.ref ta), .val (.ref u1), .val (.ref u2), .val (.ref tka), .val (.int av), .val (.int xa), .val (.int 0), .unset] [])
        exact tE _ _ _ _ _ Xt Nt et Ot hS hkt hZ hown ki ei _ _ _ _ _ _ _ _ _ _ _ _ _ hxx (Or.inl rfl) (hE.trans (by simp only [hs0, hs1, not_true_eq_false, not_false_eq_true, and_true, true_and, and_false, false_and, if_false, own_01]))
      · refine own_st (fun _ k => XS.ifNo Xt.here hx rfl (hb hby at_394) rfl ((if0 _ _).trans (flt (hs1 : ¬ ((0 : Int32) < (lcmpW ((st.toInt64) + (3 : Int64)) (r.toInt64))))).2.2.1) k) ?_
        refine own_st (fun _ k => XS.iload Xt.here hx rfl (hb hby at_397) rfl k) ?_
        refine own_st (fun _ k => XS.iconst Xt.here hx rfl (hb hby at_399) k) ?_
        show own_Go _ _ _ _ Tt (mkF m 400 #[.val (.int p1), .val (.int p2), .val (.int p3), .val (.long q4), .second, .val (.long q5), .second, .val (.int p6), .val (.int ki), .val (.int ei), .val (.int sp), .val (.int r), .val (.int 3), .val (.int st), .val (.int en), .val (.ref sc), .val (.ref ta), .val (.ref u1), .val (.ref u2), .val (.ref tka), .val (.int av), .val (.int xa), .unset, .unset] [(.int 1), (.int 3)])
        refine own_st (fun _ k => XS.icmpNo Xt.here hx rfl (hb hby at_400) rfl (flt (by decide : ¬ ((3 : Int32) < (1 : Int32)))).1 k) ?_
        refine own_st (fun _ k => XS.aload Xt.here hx rfl (hb hby at_403) rfl rfl k) ?_
        refine own_st (fun _ k => XS.iload Xt.here hx rfl (hb hby at_405) rfl k) ?_
        have hj0 : ¬ st < 0 ∧ st < 6 := own_in30 hs0 hs1 hr.2
        refine own_st (own_ldC Xt hx hZ et Vsc (j := st) hj0 (v := (.int (own_get s0 s1 s2 s3 s4 s5 st))) (own_gv s0 s1 s2 s3 s4 s5 _ hj0.1 hj0.2) (g := (mkF m 407 #[.val (.int p1), .val (.int p2), .val (.int p3), .val (.long q4), .second, .val (.long q5), .second, .val (.int p6), .val (.int ki), .val (.int ei), .val (.int sp), .val (.int r), .val (.int 3), .val (.int st), .val (.int en), .val (.ref sc), .val (.ref ta), .val (.ref u1), .val (.ref u2), .val (.ref tka), .val (.int av), .val (.int xa), .unset, .unset] [(.int st), (.ref sc)])) rfl rfl (hb hby at_407)) ?_
        obtain ⟨v22, T22, L22, hQ22, X22, st22⟩ := own_callS Xt hx hZ (y := (⟨"com/example/isoscope/isoscope/TokenIsPinLaw", "fold", "(C)I"⟩ : MethodName)) hown (own_w89 hw) (own_w90 hw) (own_w4 hw) (own_w91 hw) (by decide) (own_fd l hw [] (own_get s0 s1 s2 s3 s4 s5 st) ht n0 (Nat.le_trans Z0 Ot.1)) et (g := (mkF m 408 #[.val (.int p1), .val (.int p2), .val (.int p3), .val (.long q4), .second, .val (.long q5), .second, .val (.int p6), .val (.int ki), .val (.int ei), .val (.int sp), .val (.int r), .val (.int 3), .val (.int st), .val (.int en), .val (.ref sc), .val (.ref ta), .val (.ref u1), .val (.ref u2), .val (.ref tka), .val (.int av), .val (.int xa), .unset, .unset] [(.int (own_get s0 s1 s2 s3 s4 s5 st))])) rfl (by rw [hml]; rfl) (argsL := [(.int (own_get s0 s1 s2 s3 s4 s5 st))]) (rest := []) (lenOf own_pd14 rfl) rfl rfl (W := 0) (Nat.le_of_eq rfl) (hb hby at_408) (by decide) (by decide) (by decide) (by decide)
        obtain ⟨rfl, N22, e22⟩ := hQ22
        have N22' := Fr.app Nt N22
        refine own_st st22 ?_
        refine own_st (fun _ k => XS.aload X22.here hx rfl (hb hby at_411) rfl rfl k) ?_
        refine own_st (fun _ k => XS.iconst X22.here hx rfl (hb hby at_413) k) ?_
        refine own_st (own_ldC X22 hx hZ e22 Vta (j := (0 : Int32)) (by decide) (v := (.int t0)) rfl (g := (mkF m 414 #[.val (.int p1), .val (.int p2), .val (.int p3), .val (.long q4), .second, .val (.long q5), .second, .val (.int p6), .val (.int ki), .val (.int ei), .val (.int sp), .val (.int r), .val (.int 3), .val (.int st), .val (.int en), .val (.ref sc), .val (.ref ta), .val (.ref u1), .val (.ref u2), .val (.ref tka), .val (.int av), .val (.int xa), .unset, .unset] [(.int 0), (.ref ta), (.int (own_fold (own_get s0 s1 s2 s3 s4 s5 st)))])) rfl rfl (hb hby at_414)) ?_
        show own_Go _ _ _ _ T22 (mkF m 415 #[.val (.int p1), .val (.int p2), .val (.int p3), .val (.long q4), .second, .val (.long q5), .second, .val (.int p6), .val (.int ki), .val (.int ei), .val (.int sp), .val (.int r), .val (.int 3), .val (.int st), .val (.int en), .val (.ref sc), .val (.ref ta), .val (.ref u1), .val (.ref u2), .val (.ref tka), .val (.int av), .val (.int xa), .unset, .unset] [(.int t0), (.int (own_fold (own_get s0 s1 s2 s3 s4 s5 st)))])
        obtain ⟨v23, T23, L23, hQ23, X23, st23⟩ := own_callS X22 hx hZ (y := (⟨"com/example/isoscope/isoscope/TokenIsPinLaw", "fold", "(C)I"⟩ : MethodName)) hown (own_w89 hw) (own_w90 hw) (own_w4 hw) (own_w91 hw) (by decide) (own_fd l hw [] t0 ht n0 (Nat.le_trans Z0 Ot.1)) e22 (g := (mkF m 415 #[.val (.int p1), .val (.int p2), .val (.int p3), .val (.long q4), .second, .val (.long q5), .second, .val (.int p6), .val (.int ki), .val (.int ei), .val (.int sp), .val (.int r), .val (.int 3), .val (.int st), .val (.int en), .val (.ref sc), .val (.ref ta), .val (.ref u1), .val (.ref u2), .val (.ref tka), .val (.int av), .val (.int xa), .unset, .unset] [(.int t0), (.int (own_fold (own_get s0 s1 s2 s3 s4 s5 st)))])) rfl (by rw [hml]; rfl) (argsL := [(.int t0)]) (rest := [(.int (own_fold (own_get s0 s1 s2 s3 s4 s5 st)))]) (lenOf own_pd14 rfl) rfl rfl (W := 1) (Nat.le_of_eq rfl) (hb hby at_415) (by decide) (by decide) (by decide) (by decide)
        obtain ⟨rfl, N23, e23⟩ := hQ23
        have N23' := Fr.app N22' N23
        refine own_st st23 ?_
        by_cases hf0 : (own_fold (own_get s0 s1 s2 s3 s4 s5 st)) = (own_fold t0)
        · refine own_st (fun _ k => XS.icmpNo X23.here hx rfl (hb hby at_418) rfl (teq (hf0 : (own_fold (own_get s0 s1 s2 s3 s4 s5 st)) = (own_fold t0))).2 k) ?_
          refine own_st (fun _ k => XS.iload X23.here hx rfl (hb hby at_421) rfl k) ?_
          refine own_st (fun _ k => XS.iconst X23.here hx rfl (hb hby at_423) k) ?_
          refine own_st (fun _ k => XS.icmpNo X23.here hx rfl (hb hby at_424) rfl (flt (by decide : ¬ ((3 : Int32) < (2 : Int32)))).1 k) ?_
          refine own_st (fun _ k => XS.aload X23.here hx rfl (hb hby at_427) rfl rfl k) ?_
          refine own_st (fun _ k => XS.iload X23.here hx rfl (hb hby at_429) rfl k) ?_
          refine own_st (fun _ k => XS.iconst X23.here hx rfl (hb hby at_431) k) ?_
          show own_Go _ _ _ _ T23 (mkF m 432 #[.val (.int p1), .val (.int p2), .val (.int p3), .val (.long q4), .second, .val (.long q5), .second, .val (.int p6), .val (.int ki), .val (.int ei), .val (.int sp), .val (.int r), .val (.int 3), .val (.int st), .val (.int en), .val (.ref sc), .val (.ref ta), .val (.ref u1), .val (.ref u2), .val (.ref tka), .val (.int av), .val (.int xa), .unset, .unset] [(.int 1), (.int st), (.ref sc)])
          refine own_st (fun _ k => XS.iadd X23.here hx rfl (hb hby at_432) rfl k) ?_
          have hj1 : ¬ (st + (1 : Int32)) < 0 ∧ (st + (1 : Int32)) < 6 := own_in31 hs0 hs1 hr.2
          refine own_st (own_ldC X23 hx hZ e23 Vsc (j := (st + (1 : Int32))) hj1 (v := (.int (own_get s0 s1 s2 s3 s4 s5 (st + (1 : Int32))))) (own_gv s0 s1 s2 s3 s4 s5 _ hj1.1 hj1.2) (g := (mkF m 433 #[.val (.int p1), .val (.int p2), .val (.int p3), .val (.long q4), .second, .val (.long q5), .second, .val (.int p6), .val (.int ki), .val (.int ei), .val (.int sp), .val (.int r), .val (.int 3), .val (.int st), .val (.int en), .val (.ref sc), .val (.ref ta), .val (.ref u1), .val (.ref u2), .val (.ref tka), .val (.int av), .val (.int xa), .unset, .unset] [(.int (st + (1 : Int32))), (.ref sc)])) rfl rfl (hb hby at_433)) ?_
          obtain ⟨v24, T24, L24, hQ24, X24, st24⟩ := own_callS X23 hx hZ (y := (⟨"com/example/isoscope/isoscope/TokenIsPinLaw", "fold", "(C)I"⟩ : MethodName)) hown (own_w89 hw) (own_w90 hw) (own_w4 hw) (own_w91 hw) (by decide) (own_fd l hw [] (own_get s0 s1 s2 s3 s4 s5 (st + (1 : Int32))) ht n0 (Nat.le_trans Z0 Ot.1)) e23 (g := (mkF m 434 #[.val (.int p1), .val (.int p2), .val (.int p3), .val (.long q4), .second, .val (.long q5), .second, .val (.int p6), .val (.int ki), .val (.int ei), .val (.int sp), .val (.int r), .val (.int 3), .val (.int st), .val (.int en), .val (.ref sc), .val (.ref ta), .val (.ref u1), .val (.ref u2), .val (.ref tka), .val (.int av), .val (.int xa), .unset, .unset] [(.int (own_get s0 s1 s2 s3 s4 s5 (st + (1 : Int32))))])) rfl (by rw [hml]; rfl) (argsL := [(.int (own_get s0 s1 s2 s3 s4 s5 (st + (1 : Int32))))]) (rest := []) (lenOf own_pd14 rfl) rfl rfl (W := 0) (Nat.le_of_eq rfl) (hb hby at_434) (by decide) (by decide) (by decide) (by decide)
          obtain ⟨rfl, N24, e24⟩ := hQ24
          have N24' := Fr.app N23' N24
          refine own_st st24 ?_
          refine own_st (fun _ k => XS.aload X24.here hx rfl (hb hby at_437) rfl rfl k) ?_
          refine own_st (fun _ k => XS.iconst X24.here hx rfl (hb hby at_439) k) ?_
          refine own_st (own_ldC X24 hx hZ e24 Vta (j := (1 : Int32)) (by decide) (v := (.int t1)) rfl (g := (mkF m 440 #[.val (.int p1), .val (.int p2), .val (.int p3), .val (.long q4), .second, .val (.long q5), .second, .val (.int p6), .val (.int ki), .val (.int ei), .val (.int sp), .val (.int r), .val (.int 3), .val (.int st), .val (.int en), .val (.ref sc), .val (.ref ta), .val (.ref u1), .val (.ref u2), .val (.ref tka), .val (.int av), .val (.int xa), .unset, .unset] [(.int 1), (.ref ta), (.int (own_fold (own_get s0 s1 s2 s3 s4 s5 (st + (1 : Int32)))))])) rfl rfl (hb hby at_440)) ?_
          obtain ⟨v25, T25, L25, hQ25, X25, st25⟩ := own_callS X24 hx hZ (y := (⟨"com/example/isoscope/isoscope/TokenIsPinLaw", "fold", "(C)I"⟩ : MethodName)) hown (own_w89 hw) (own_w90 hw) (own_w4 hw) (own_w91 hw) (by decide) (own_fd l hw [] t1 ht n0 (Nat.le_trans Z0 Ot.1)) e24 (g := (mkF m 441 #[.val (.int p1), .val (.int p2), .val (.int p3), .val (.long q4), .second, .val (.long q5), .second, .val (.int p6), .val (.int ki), .val (.int ei), .val (.int sp), .val (.int r), .val (.int 3), .val (.int st), .val (.int en), .val (.ref sc), .val (.ref ta), .val (.ref u1), .val (.ref u2), .val (.ref tka), .val (.int av), .val (.int xa), .unset, .unset] [(.int t1), (.int (own_fold (own_get s0 s1 s2 s3 s4 s5 (st + (1 : Int32)))))])) rfl (by rw [hml]; rfl) (argsL := [(.int t1)]) (rest := [(.int (own_fold (own_get s0 s1 s2 s3 s4 s5 (st + (1 : Int32)))))]) (lenOf own_pd14 rfl) rfl rfl (W := 1) (Nat.le_of_eq rfl) (hb hby at_441) (by decide) (by decide) (by decide) (by decide)
          obtain ⟨rfl, N25, e25⟩ := hQ25
          have N25' := Fr.app N24' N25
          refine own_st st25 ?_
          by_cases hf1 : (own_fold (own_get s0 s1 s2 s3 s4 s5 (st + (1 : Int32)))) = (own_fold t1)
          · refine own_st (fun _ k => XS.icmpNo X25.here hx rfl (hb hby at_444) rfl (teq (hf1 : (own_fold (own_get s0 s1 s2 s3 s4 s5 (st + (1 : Int32)))) = (own_fold t1))).2 k) ?_
            show own_Go _ _ _ _ T25 (mkF m 447 #[.val (.int p1), .val (.int p2), .val (.int p3), .val (.long q4), .second, .val (.long q5), .second, .val (.int p6), .val (.int ki), .val (.int ei), .val (.int sp), .val (.int r), .val (.int 3), .val (.int st), .val (.int en), .val (.ref sc), .val (.ref ta), .val (.ref u1), .val (.ref u2), .val (.ref tka), .val (.int av), .val (.int xa), .unset, .unset] [])
            refine own_st (fun _ k => XS.iload X25.here hx rfl (hb hby at_447) rfl k) ?_
            refine own_st (fun _ k => XS.iconst X25.here hx rfl (hb hby at_449) k) ?_
            refine own_st (fun _ k => XS.icmpNo X25.here hx rfl (hb hby at_450) rfl (flt (by decide : ¬ ((3 : Int32) < (3 : Int32)))).1 k) ?_
            refine own_st (fun _ k => XS.aload X25.here hx rfl (hb hby at_453) rfl rfl k) ?_
            refine own_st (fun _ k => XS.iload X25.here hx rfl (hb hby at_455) rfl k) ?_
            refine own_st (fun _ k => XS.iconst X25.here hx rfl (hb hby at_457) k) ?_
            refine own_st (fun _ k => XS.iadd X25.here hx rfl (hb hby at_458) rfl k) ?_
            have hj2 : ¬ (st + (2 : Int32)) < 0 ∧ (st + (2 : Int32)) < 6 := own_in32 hs0 hs1 hr.2
            refine own_st (own_ldC X25 hx hZ e25 Vsc (j := (st + (2 : Int32))) hj2 (v := (.int (own_get s0 s1 s2 s3 s4 s5 (st + (2 : Int32))))) (own_gv s0 s1 s2 s3 s4 s5 _ hj2.1 hj2.2) (g := (mkF m 459 #[.val (.int p1), .val (.int p2), .val (.int p3), .val (.long q4), .second, .val (.long q5), .second, .val (.int p6), .val (.int ki), .val (.int ei), .val (.int sp), .val (.int r), .val (.int 3), .val (.int st), .val (.int en), .val (.ref sc), .val (.ref ta), .val (.ref u1), .val (.ref u2), .val (.ref tka), .val (.int av), .val (.int xa), .unset, .unset] [(.int (st + (2 : Int32))), (.ref sc)])) rfl rfl (hb hby at_459)) ?_
            show own_Go _ _ _ _ T25 (mkF m 460 #[.val (.int p1), .val (.int p2), .val (.int p3), .val (.long q4), .second, .val (.long q5), .second, .val (.int p6), .val (.int ki), .val (.int ei), .val (.int sp), .val (.int r), .val (.int 3), .val (.int st), .val (.int en), .val (.ref sc), .val (.ref ta), .val (.ref u1), .val (.ref u2), .val (.ref tka), .val (.int av), .val (.int xa), .unset, .unset] [(.int (own_get s0 s1 s2 s3 s4 s5 (st + (2 : Int32))))])
            obtain ⟨v26, T26, L26, hQ26, X26, st26⟩ := own_callS X25 hx hZ (y := (⟨"com/example/isoscope/isoscope/TokenIsPinLaw", "fold", "(C)I"⟩ : MethodName)) hown (own_w89 hw) (own_w90 hw) (own_w4 hw) (own_w91 hw) (by decide) (own_fd l hw [] (own_get s0 s1 s2 s3 s4 s5 (st + (2 : Int32))) ht n0 (Nat.le_trans Z0 Ot.1)) e25 (g := (mkF m 460 #[.val (.int p1), .val (.int p2), .val (.int p3), .val (.long q4), .second, .val (.long q5), .second, .val (.int p6), .val (.int ki), .val (.int ei), .val (.int sp), .val (.int r), .val (.int 3), .val (.int st), .val (.int en), .val (.ref sc), .val (.ref ta), .val (.ref u1), .val (.ref u2), .val (.ref tka), .val (.int av), .val (.int xa), .unset, .unset] [(.int (own_get s0 s1 s2 s3 s4 s5 (st + (2 : Int32))))])) rfl (by rw [hml]; rfl) (argsL := [(.int (own_get s0 s1 s2 s3 s4 s5 (st + (2 : Int32))))]) (rest := []) (lenOf own_pd14 rfl) rfl rfl (W := 0) (Nat.le_of_eq rfl) (hb hby at_460) (by decide) (by decide) (by decide) (by decide)
            obtain ⟨rfl, N26, e26⟩ := hQ26
            have N26' := Fr.app N25' N26
            refine own_st st26 ?_
            refine own_st (fun _ k => XS.aload X26.here hx rfl (hb hby at_463) rfl rfl k) ?_
            refine own_st (fun _ k => XS.iconst X26.here hx rfl (hb hby at_465) k) ?_
            refine own_st (own_ldC X26 hx hZ e26 Vta (j := (2 : Int32)) (by decide) (v := (.int t2)) rfl (g := (mkF m 466 #[.val (.int p1), .val (.int p2), .val (.int p3), .val (.long q4), .second, .val (.long q5), .second, .val (.int p6), .val (.int ki), .val (.int ei), .val (.int sp), .val (.int r), .val (.int 3), .val (.int st), .val (.int en), .val (.ref sc), .val (.ref ta), .val (.ref u1), .val (.ref u2), .val (.ref tka), .val (.int av), .val (.int xa), .unset, .unset] [(.int 2), (.ref ta), (.int (own_fold (own_get s0 s1 s2 s3 s4 s5 (st + (2 : Int32)))))])) rfl rfl (hb hby at_466)) ?_
            obtain ⟨v27, T27, L27, hQ27, X27, st27⟩ := own_callS X26 hx hZ (y := (⟨"com/example/isoscope/isoscope/TokenIsPinLaw", "fold", "(C)I"⟩ : MethodName)) hown (own_w89 hw) (own_w90 hw) (own_w4 hw) (own_w91 hw) (by decide) (own_fd l hw [] t2 ht n0 (Nat.le_trans Z0 Ot.1)) e26 (g := (mkF m 467 #[.val (.int p1), .val (.int p2), .val (.int p3), .val (.long q4), .second, .val (.long q5), .second, .val (.int p6), .val (.int ki), .val (.int ei), .val (.int sp), .val (.int r), .val (.int 3), .val (.int st), .val (.int en), .val (.ref sc), .val (.ref ta), .val (.ref u1), .val (.ref u2), .val (.ref tka), .val (.int av), .val (.int xa), .unset, .unset] [(.int t2), (.int (own_fold (own_get s0 s1 s2 s3 s4 s5 (st + (2 : Int32)))))])) rfl (by rw [hml]; rfl) (argsL := [(.int t2)]) (rest := [(.int (own_fold (own_get s0 s1 s2 s3 s4 s5 (st + (2 : Int32)))))]) (lenOf own_pd14 rfl) rfl rfl (W := 1) (Nat.le_of_eq rfl) (hb hby at_467) (by decide) (by decide) (by decide) (by decide)
            obtain ⟨rfl, N27, e27⟩ := hQ27
            have N27' := Fr.app N26' N27
            refine own_st st27 ?_
            by_cases hf2 : (own_fold (own_get s0 s1 s2 s3 s4 s5 (st + (2 : Int32)))) = (own_fold t2)
            · refine own_st (fun _ k => XS.icmpNo X27.here hx rfl (hb hby at_470) rfl (teq (hf2 : (own_fold (own_get s0 s1 s2 s3 s4 s5 (st + (2 : Int32)))) = (own_fold t2))).2 k) ?_
              refine own_st (fun _ k => XS.iconst X27.here hx rfl (hb hby at_473) k) ?_
              refine own_st (fun _ k => XS.goto X27.here hx rfl (pc0 := 474) (pc' := 478) rfl (hb hby at_474) (by decide) (by decide) k) ?_
              show own_Go _ _ _ _ T27 (mkF m 478 #[.val (.int p1), .val (.int p2), .val (.int p3), .val (.long q4), .second, .val (.long q5), .second, .val (.int p6), .val (.int ki), .val (.int ei), .val (.int sp), .val (.int r), .val (.int 3), .val (.int st), .val (.int en), .val (.ref sc), .val (.ref ta), .val (.ref u1), .val (.ref u2), .val (.ref tka), .val (.int av), .val (.int xa), .unset, .unset] [(.int 1)])
              refine own_st (fun _ k => XS.istore X27.here hx rfl (hb hby at_478) rfl (l' := #[.val (.int p1), .val (.int p2), .val (.int p3), .val (.long q4), .second, .val (.long q5), .second, .val (.int p6), .val (.int ki), .val (.int ei), .val (.int sp), .val (.int r), .val (.int 3), .val (.int st), .val (.int en), .val (.ref sc), .val (.ref ta), .val (.ref u1), .val (.ref u2), .val (.ref tka), .val (.int av), .val (.int xa), .val (.int 1), .unset]) rfl k) ?_
              show own_Go _ _ _ _ T27 (mkF m 480 #[.val (.int p1), .val (.int p2), .val (.int p3), .val (.long q4), .second, .val (.long q5), .second, .val (.int p6), .val (.int ki), .val (.int ei), .val (.int sp), .val (.int r), .val (.int 3), .val (.int st), .val (.int en), .val (.ref sc), .val (.ref ta), .val (.ref u1), .val (.ref u2), .val (.ref tka), .val (.int av), .val (.int xa), .val (.int 1), .unset] [])
              exact tE _ _ _ _ _ X27 N27' e27 Ot hS hkt hZ hown ki ei _ _ _ _ _ _ _ _ _ _ _ _ _ hxx (Or.inr rfl) (hE.trans (by simp only [hs0, hs1, hf0, hf1, hf2, not_true_eq_false, not_false_eq_true, and_true, true_and, and_false, false_and, if_false, own_01]))
            · refine own_st (fun _ k => XS.icmpYes X27.here hx rfl (pc0 := 470) (pc' := 477) rfl (hb hby at_470) rfl (feq (hf2 : ¬ ((own_fold (own_get s0 s1 s2 s3 s4 s5 (st + (2 : Int32)))) = (own_fold t2)))).2 (by decide) (by decide) k) ?_
              refine own_st (fun _ k => XS.iconst X27.here hx rfl (hb hby at_477) k) ?_
              refine own_st (fun _ k => XS.istore X27.here hx rfl (hb hby at_478) rfl (l' := #[.val (.int p1), .val (.int p2), .val (.int p3), .val (.long q4), .second, .val (.long q5), .second, .val (.int p6), .val (.int ki), .val (.int ei), .val (.int sp), .val (.int r), .val (.int 3), .val (.int st), .val (.int en), .val (.ref sc), .val (.ref ta), .val (.ref u1), .val (.ref u2), .val (.ref tka), .val (.int av), .val (.int xa), .val (.int 0), .unset]) rfl k) ?_
              show own_Go _ _ _ _ T27 (mkF m 480 #[.val (.int p1), .val (.int p2), .val (.int p3), .val (.long q4), .second, .val (.long q5), .second, .val (.int p6), .val (.int ki), .val (.int ei), .val (.int sp), .val (.int r), .val (.int 3), .val (.int st), .val (.int en), .val (.ref sc), .val (.ref ta), .val (.ref u1), .val (.ref u2), .val (.ref tka), .val (.int av), .val (.int xa), .val (.int 0), .unset] [])
              exact tE _ _ _ _ _ X27 N27' e27 Ot hS hkt hZ hown ki ei _ _ _ _ _ _ _ _ _ _ _ _ _ hxx (Or.inl rfl) (hE.trans (by simp only [hs0, hs1, hf0, hf1, hf2, not_true_eq_false, not_false_eq_true, and_true, true_and, and_false, false_and, if_false, own_01]))
          · refine own_st (fun _ k => XS.icmpYes X25.here hx rfl (pc0 := 444) (pc' := 477) rfl (hb hby at_444) rfl (feq (hf1 : ¬ ((own_fold (own_get s0 s1 s2 s3 s4 s5 (st + (1 : Int32)))) = (own_fold t1)))).2 (by decide) (by decide) k) ?_
            show own_Go _ _ _ _ T25 (mkF m 477 #[.val (.int p1), .val (.int p2), .val (.int p3), .val (.long q4), .second, .val (.long q5), .second, .val (.int p6), .val (.int ki), .val (.int ei), .val (.int sp), .val (.int r), .val (.int 3), .val (.int st), .val (.int en), .val (.ref sc), .val (.ref ta), .val (.ref u1), .val (.ref u2), .val (.ref tka), .val (.int av), .val (.int xa), .unset, .unset] [])
            refine own_st (fun _ k => XS.iconst X25.here hx rfl (hb hby at_477) k) ?_
            refine own_st (fun _ k => XS.istore X25.here hx rfl (hb hby at_478) rfl (l' := #[.val (.int p1), .val (.int p2), .val (.int p3), .val (.long q4), .second, .val (.long q5), .second, .val (.int p6), .val (.int ki), .val (.int ei), .val (.int sp), .val (.int r), .val (.int 3), .val (.int st), .val (.int en), .val (.ref sc), .val (.ref ta), .val (.ref u1), .val (.ref u2), .val (.ref tka), .val (.int av), .val (.int xa), .val (.int 0), .unset]) rfl k) ?_
            show own_Go _ _ _ _ T25 (mkF m 480 #[.val (.int p1), .val (.int p2), .val (.int p3), .val (.long q4), .second, .val (.long q5), .second, .val (.int p6), .val (.int ki), .val (.int ei), .val (.int sp), .val (.int r), .val (.int 3), .val (.int st), .val (.int en), .val (.ref sc), .val (.ref ta), .val (.ref u1), .val (.ref u2), .val (.ref tka), .val (.int av), .val (.int xa), .val (.int 0), .unset] [])
            exact tE _ _ _ _ _ X25 N25' e25 Ot hS hkt hZ hown ki ei _ _ _ _ _ _ _ _ _ _ _ _ _ hxx (Or.inl rfl) (hE.trans (by simp only [hs0, hs1, hf0, hf1, not_true_eq_false, not_false_eq_true, and_true, true_and, and_false, false_and, if_false, own_01]))
        · refine own_st (fun _ k => XS.icmpYes X23.here hx rfl (pc0 := 418) (pc' := 477) rfl (hb hby at_418) rfl (feq (hf0 : ¬ ((own_fold (own_get s0 s1 s2 s3 s4 s5 st)) = (own_fold t0)))).2 (by decide) (by decide) k) ?_
          refine own_st (fun _ k => XS.iconst X23.here hx rfl (hb hby at_477) k) ?_
          refine own_st (fun _ k => XS.istore X23.here hx rfl (hb hby at_478) rfl (l' := #[.val (.int p1), .val (.int p2), .val (.int p3), .val (.long q4), .second, .val (.long q5), .second, .val (.int p6), .val (.int ki), .val (.int ei), .val (.int sp), .val (.int r), .val (.int 3), .val (.int st), .val (.int en), .val (.ref sc), .val (.ref ta), .val (.ref u1), .val (.ref u2), .val (.ref tka), .val (.int av), .val (.int xa), .val (.int 0), .unset]) rfl k) ?_
          show own_Go _ _ _ _ T23 (mkF m 480 #[.val (.int p1), .val (.int p2), .val (.int p3), .val (.long q4), .second, .val (.long q5), .second, .val (.int p6), .val (.int ki), .val (.int ei), .val (.int sp), .val (.int r), .val (.int 3), .val (.int st), .val (.int en), .val (.ref sc), .val (.ref ta), .val (.ref u1), .val (.ref u2), .val (.ref tka), .val (.int av), .val (.int xa), .val (.int 0), .unset] [])
          exact tE _ _ _ _ _ X23 N23' e23 Ot hS hkt hZ hown ki ei _ _ _ _ _ _ _ _ _ _ _ _ _ hxx (Or.inl rfl) (hE.trans (by simp only [hs0, hs1, hf0, not_true_eq_false, not_false_eq_true, and_true, true_and, and_false, false_and, if_false, own_01]))
  have tl3_3 : ∀ (Tt : State) (lt : List Loc) (ht : Heap) (vmt : Vm) (kt : Nat) (Xt : Stand p l e room_1 (s.setVm vmt) m #[(.int p1), (.int p2), (.int p3), (.long q4), (.long q5), (.int p6)] below meth c Tt lt 10 41) (Nt : Fr n0 lt) (et : Tt.heap = ht) (Ot : Ext h0 ht) (hS : s.Since vmt kt) (hkt : kt ≤ ht.size) (hZ : Z.Warmed39 (s.setVm vmt).vm) (hown : (s.setVm vmt).vm.findClass "com/example/isoscope/isoscope/TokenIsPinLaw" = some m.cls) (ki ei sp r st en : Int32) (hki : 0 ≤ ki.toInt ∧ ki.toInt < 9) (hei : 0 ≤ ei.toInt ∧ ei.toInt < 9) (hr : 0 ≤ r.toInt ∧ r.toInt < 6) (sc ta : Addr) (ksc kta : ClassId) (s0 s1 s2 s3 s4 s5 t0 t1 t2 : Int32) (gc0 : own_ch s0) (gc1 : own_ch s1) (gc2 : own_ch s2) (gc3 : own_ch s3) (gc4 : own_ch s4) (gc5 : own_ch s5) (d0 : own_ch t0) (d1 : own_ch t1) (d2 : own_ch t2) (Vsc : Arv Z ht sc ksc .char (6 : Int32) [(.int s0), (.int s1), (.int s2), (.int s3), (.int s4), (.int s5)] (.int 0)) (Vta : Arv Z ht ta kta .char (3 : Int32) [(.int t0), (.int t1), (.int t2)] (.int 0)) (u1 v1 : Addr) (k1 : ClassId) (vs : List Value) (Eu1 : Exa Z ht u1 "java/lang/String") (Fv1 : Fld Z ht u1 "java/lang/String" "value" "[B" (.ref v1)) (Fc1 : Fld Z ht u1 "java/lang/String" "coder" "B" (.int 0)) (Vu1 : Arv Z ht v1 k1 .byte r vs (.int 0)) (hB : ∀ j : Int32, ¬ j < 0 → j < r → vs.getD j.toNatClampNeg (.int 0) = .int (own_bf s0 s1 s2 s3 s4 s5 j)) (u2 v2 : Addr) (k2 : ClassId) (Eu2 : Exa Z ht u2 "java/lang/String") (Fv2 : Fld Z ht u2 "java/lang/String" "value" "[B" (.ref v2)) (Fc2 : Fld Z ht u2 "java/lang/String" "coder" "B" (.int 0)) (Vu2 : Arv Z ht v2 k2 .byte (3 : Int32) [(.int (nar .byte (t0.toInt8.toInt32))), (.int (nar .byte (t1.toInt8.toInt32))), (.int (nar .byte (t2.toInt8.toInt32)))] (.int 0)), own_Go p.tables e below (own_FW below s (own_law_Q Z p1 p2 p3 q4 q5 p6 w0 w1 w2 w3 w4 w5 w6 w7 w8 cs h0 n0) 32 1216) Tt (mkF m 321 #[.val (.int p1), .val (.int p2), .val (.int p3), .val (.long q4), .second, .val (.long q5), .second, .val (.int p6), .val (.int ki), .val (.int ei), .val (.int sp), .val (.int r), .val (.int 3), .val (.int st), .val (.int en), .val (.ref sc), .val (.ref ta), .val (.ref u1), .val (.ref u2), .unset, .unset, .unset, .unset, .unset] []) := by
    intro Tt lt ht vmt kt Xt Nt et Ot hS hkt hZ hown ki ei sp r st en hki hei hr sc ta ksc kta s0 s1 s2 s3 s4 s5 t0 t1 t2 gc0 gc1 gc2 gc3 gc4 gc5 d0 d1 d2 Vsc Vta u1 v1 k1 vs Eu1 Fv1 Fc1 Vu1 hB u2 v2 k2 Eu2 Fv2 Fc2 Vu2
    obtain ⟨T28, hp28, X28, e28, Et28, A28, D28, -, st28⟩ := newO Xt hx hZ hown (own_w41 hw) (own_w42 hw) (own_w43 hw) et (g := (mkF m 321 #[.val (.int p1), .val (.int p2), .val (.int p3), .val (.long q4), .second, .val (.long q5), .second, .val (.int p6), .val (.int ki), .val (.int ei), .val (.int sp), .val (.int r), .val (.int 3), .val (.int st), .val (.int en), .val (.ref sc), .val (.ref ta), .val (.ref u1), .val (.ref u2), .unset, .unset, .unset, .unset, .unset] [])) rfl (hb hby at_321) (by decide) (by decide)
    obtain ⟨b28, g28⟩ : ∃ z, z = ht.size := ⟨_, rfl⟩
    rw [← g28] at A28 D28 st28
    have s_b28 : h0.size ≤ b28 := Nat.le_trans Ot.1 (Nat.le_of_eq g28.symm)
    have g_b28 : n0 ≤ b28 := Nat.le_trans Z0 s_b28
    have lt_sc_b28 : sc < b28 := Nat.lt_of_lt_of_le Vsc.lt (Nat.le_of_eq g28.symm)
    have lt_ta_b28 : ta < b28 := Nat.lt_of_lt_of_le Vta.lt (Nat.le_of_eq g28.symm)
    have lt_u1_b28 : u1 < b28 := Nat.lt_of_lt_of_le Eu1.lt (Nat.le_of_eq g28.symm)
    have lt_v1_b28 : v1 < b28 := Nat.lt_of_lt_of_le Vu1.lt (Nat.le_of_eq g28.symm)
    have lt_u2_b28 : u2 < b28 := Nat.lt_of_lt_of_le Eu2.lt (Nat.le_of_eq g28.symm)
    have lt_v2_b28 : v2 < b28 := Nat.lt_of_lt_of_le Vu2.lt (Nat.le_of_eq g28.symm)
    have hk28 := Nat.le_trans hkt Et28.1
    have O28 := own_extt Ot Et28
    have V_sc_28 := Vsc.ext Et28
    have V_ta_28 := Vta.ext Et28
    have V_v1_28 := Vu1.ext Et28
    have V_v2_28 := Vu2.ext Et28
    have Ex_u1_28 := Eu1.ext Et28
    have Ex_u2_28 := Eu2.ext Et28
    have F_value_u1_28 := Fv1.ext Et28
    have F_coder_u1_28 := Fc1.ext Et28
    have F_value_u2_28 := Fv2.ext Et28
    have F_coder_u2_28 := Fc2.ext Et28
    have F_kind_b28 : Fld Z hp28 b28 "com/example/isoscope/isoscope/SqlLexer$Token" "kind" "Lcom/example/isoscope/isoscope/SqlLexer$Kind;" .null := D28 (Or.inr (own_w60 hw)) (ty := (.object "com/example/isoscope/isoscope/SqlLexer$Kind")) (by decide)
    have F_start_b28 : Fld Z hp28 b28 "com/example/isoscope/isoscope/SqlLexer$Token" "start" "I" (.int 0) := D28 (Or.inr (own_w62 hw)) (ty := .int) (by decide)
    have F_end_b28 : Fld Z hp28 b28 "com/example/isoscope/isoscope/SqlLexer$Token" "end" "I" (.int 0) := D28 (Or.inr (own_w64 hw)) (ty := .int) (by decide)
    have F_spaced_b28 : Fld Z hp28 b28 "com/example/isoscope/isoscope/SqlLexer$Token" "spaced" "Z" (.int 0) := D28 (Or.inr (own_w66 hw)) (ty := .boolean) (by decide)
    refine own_st st28 ?_
    refine own_st (fun _ k => XS.dup X28.here hx rfl (hb hby at_324) rfl rfl k) ?_
    refine own_st (fun _ k => XS.iload X28.here hx rfl (hb hby at_325) rfl k) ?_
    obtain ⟨v29, T29, L29, hQ29, X29, st29⟩ := own_callS X28 hx hZ (y := (⟨"com/example/isoscope/isoscope/TokenIsPinLaw", "kind", "(I)Lcom/example/isoscope/isoscope/SqlLexer$Kind;"⟩ : MethodName)) hown (own_w44 hw) (own_w45 hw) (own_w4 hw) (own_w46 hw) (by decide) (own_kind l hw [] ki w0 w1 w2 w3 w4 w5 w6 w7 w8 hp28 n0 (Nat.le_trans Z0 O28.1) (S0.ext O28) (S1.ext O28) (S2.ext O28) (S3.ext O28) (S4.ext O28) (S5.ext O28) (S6.ext O28) (S7.ext O28) (S8.ext O28)) e28 (g := (mkF m 327 #[.val (.int p1), .val (.int p2), .val (.int p3), .val (.long q4), .second, .val (.long q5), .second, .val (.int p6), .val (.int ki), .val (.int ei), .val (.int sp), .val (.int r), .val (.int 3), .val (.int st), .val (.int en), .val (.ref sc), .val (.ref ta), .val (.ref u1), .val (.ref u2), .unset, .unset, .unset, .unset, .unset] [(.int ki), (.ref b28), (.ref b28)])) rfl (by rw [hml]; rfl) (argsL := [(.int ki)]) (rest := [(.ref b28), (.ref b28)]) (lenOf own_pd11 rfl) rfl rfl (W := 2) (Nat.le_of_eq rfl) (hb hby at_327) (by decide) (by decide) (by decide) (by decide)
    obtain ⟨rfl, N29, e29⟩ := hQ29
    have N29' := Fr.app Nt N29
    refine own_st st29 ?_
    refine own_st (fun _ k => XS.iload X29.here hx rfl (hb hby at_330) rfl k) ?_
    refine own_st (fun _ k => XS.iload X29.here hx rfl (hb hby at_332) rfl k) ?_
    refine own_st (fun _ k => XS.iload X29.here hx rfl (hb hby at_334) rfl k) ?_
    obtain ⟨v30, T30, L30, hQ30, X30, st30⟩ := own_callI X29 hx hZ (y := (⟨"com/example/isoscope/isoscope/SqlLexer$Token", "<init>", "(Lcom/example/isoscope/isoscope/SqlLexer$Kind;IIZ)V"⟩ : MethodName)) rfl hown (own_w50 hw) (own_w51 hw) (own_w43 hw) (own_w52 hw) (by decide) (own_tk l hw [] b28 (own_kd ki w0 w1 w2 w3 w4 w5 w6 w7 w8) st en sp hp28 n0 (Nat.le_trans Z0 O28.1) g_b28 A28 F_kind_b28 F_start_b28 F_end_b28 F_spaced_b28) e29 (g := (mkF m 336 #[.val (.int p1), .val (.int p2), .val (.int p3), .val (.long q4), .second, .val (.long q5), .second, .val (.int p6), .val (.int ki), .val (.int ei), .val (.int sp), .val (.int r), .val (.int 3), .val (.int st), .val (.int en), .val (.ref sc), .val (.ref ta), .val (.ref u1), .val (.ref u2), .unset, .unset, .unset, .unset, .unset] [(.int sp), (.int en), (.int st), (.ref (own_kd ki w0 w1 w2 w3 w4 w5 w6 w7 w8)), (.ref b28), (.ref b28)])) rfl (by rw [hml]; rfl) (argsL := [(.ref (own_kd ki w0 w1 w2 w3 w4 w5 w6 w7 w8)), (.int st), (.int en), (.int sp)]) (rest := [(.ref b28)]) (lenOf own_pd12 rfl) rfl rfl (W := 1) (Nat.le_of_eq rfl) (hb hby at_336) (by decide) (by decide) (by decide) (by decide)
    obtain ⟨rfl, N30, K30, Tk30, Ts30, Te30⟩ := hQ30
    have O30 := own_extk O28 K30 s_b28
    have hk30 := Nat.le_trans hk28 K30.1
    have V_sc_30 := V_sc_28.keep K30 (ninS (Nat.ne_of_lt lt_sc_b28) nin0)
    have V_ta_30 := V_ta_28.keep K30 (ninS (Nat.ne_of_lt lt_ta_b28) nin0)
    have V_v1_30 := V_v1_28.keep K30 (ninS (Nat.ne_of_lt lt_v1_b28) nin0)
    have V_v2_30 := V_v2_28.keep K30 (ninS (Nat.ne_of_lt lt_v2_b28) nin0)
    have Ex_u1_30 := Ex_u1_28.keep K30
    have Ex_u2_30 := Ex_u2_28.keep K30
    have Ex_b28_30 := A28.keep K30
    have F_value_u1_30 := F_value_u1_28.keep K30 (ninS (Nat.ne_of_lt lt_u1_b28) nin0)
    have F_coder_u1_30 := F_coder_u1_28.keep K30 (ninS (Nat.ne_of_lt lt_u1_b28) nin0)
    have F_value_u2_30 := F_value_u2_28.keep K30 (ninS (Nat.ne_of_lt lt_u2_b28) nin0)
    have F_coder_u2_30 := F_coder_u2_28.keep K30 (ninS (Nat.ne_of_lt lt_u2_b28) nin0)
    have N30' := Fr.app N29' N30
    refine own_st st30 ?_
    show own_Go _ _ _ _ T30 (mkF m 339 #[.val (.int p1), .val (.int p2), .val (.int p3), .val (.long q4), .second, .val (.long q5), .second, .val (.int p6), .val (.int ki), .val (.int ei), .val (.int sp), .val (.int r), .val (.int 3), .val (.int st), .val (.int en), .val (.ref sc), .val (.ref ta), .val (.ref u1), .val (.ref u2), .unset, .unset, .unset, .unset, .unset] [(.ref b28)])
    refine own_st (fun _ k => XS.astore X30.here hx rfl (hb hby at_339) rfl rfl (l' := #[.val (.int p1), .val (.int p2), .val (.int p3), .val (.long q4), .second, .val (.long q5), .second, .val (.int p6), .val (.int ki), .val (.int ei), .val (.int sp), .val (.int r), .val (.int 3), .val (.int st), .val (.int en), .val (.ref sc), .val (.ref ta), .val (.ref u1), .val (.ref u2), .val (.ref b28), .unset, .unset, .unset, .unset]) rfl k) ?_
    refine own_st (fun _ k => XS.aload X30.here hx rfl (hb hby at_341) rfl rfl k) ?_
    refine own_st (fun _ k => XS.aload X30.here hx rfl (hb hby at_343) rfl rfl k) ?_
    refine own_st (fun _ k => XS.iload X30.here hx rfl (hb hby at_345) rfl k) ?_
    obtain ⟨v31, T31, L31, hQ31, X31, st31⟩ := own_callS X30 hx hZ (y := (⟨"com/example/isoscope/isoscope/TokenIsPinLaw", "kind", "(I)Lcom/example/isoscope/isoscope/SqlLexer$Kind;"⟩ : MethodName)) hown (own_w44 hw) (own_w45 hw) (own_w4 hw) (own_w46 hw) (by decide) (own_kind l hw [] ei w0 w1 w2 w3 w4 w5 w6 w7 w8 T30.heap n0 (Nat.le_trans Z0 O30.1) (S0.ext O30) (S1.ext O30) (S2.ext O30) (S3.ext O30) (S4.ext O30) (S5.ext O30) (S6.ext O30) (S7.ext O30) (S8.ext O30)) rfl (g := (mkF m 347 #[.val (.int p1), .val (.int p2), .val (.int p3), .val (.long q4), .second, .val (.long q5), .second, .val (.int p6), .val (.int ki), .val (.int ei), .val (.int sp), .val (.int r), .val (.int 3), .val (.int st), .val (.int en), .val (.ref sc), .val (.ref ta), .val (.ref u1), .val (.ref u2), .val (.ref b28), .unset, .unset, .unset, .unset] [(.int ei), (.ref u1), (.ref b28)])) rfl (by rw [hml]; rfl) (argsL := [(.int ei)]) (rest := [(.ref u1), (.ref b28)]) (lenOf own_pd11 rfl) rfl rfl (W := 2) (Nat.le_of_eq rfl) (hb hby at_347) (by decide) (by decide) (by decide) (by decide)
    obtain ⟨rfl, N31, e31⟩ := hQ31
    have N31' := Fr.app N30' N31
    refine own_st st31 ?_
    refine own_st (fun _ k => XS.aload X31.here hx rfl (hb hby at_350) rfl rfl k) ?_
    obtain ⟨v32, T32, L32, hQ32, X32, st32⟩ := own_callV X31 hx hZ (y := (⟨"com/example/isoscope/isoscope/SqlLexer$Token", "is", "(Ljava/lang/String;Lcom/example/isoscope/isoscope/SqlLexer$Kind;Ljava/lang/String;)Z"⟩ : MethodName)) hown (own_w67 hw) (own_w68 hw) (own_w70 hw) (own_w69 hw) (own_w43 hw) (own_w71 hw) (by decide) (own_is3 l hw [] b28 u1 (own_kd ei w0 w1 w2 w3 w4 w5 w6 w7 w8) u2 (own_kd ki w0 w1 w2 w3 w4 w5 w6 w7 w8) v1 v2 st en r cs k1 k2 vs (own_bf s0 s1 s2 s3 s4 s5) (nar .byte (t0.toInt8.toInt32)) (nar .byte (t1.toInt8.toInt32)) (nar .byte (t2.toInt8.toInt32)) T30.heap n0 (Nat.le_trans Z0 O30.1) (by omega) Tk30 Ts30 Te30 (Scs.ext O30) hcs Ex_u1_30 F_value_u1_30 F_coder_u1_30 V_v1_30 hB Ex_u2_30 F_value_u2_30 F_coder_u2_30 V_v2_30) e31 Ex_b28_30 (g := (mkF m 352 #[.val (.int p1), .val (.int p2), .val (.int p3), .val (.long q4), .second, .val (.long q5), .second, .val (.int p6), .val (.int ki), .val (.int ei), .val (.int sp), .val (.int r), .val (.int 3), .val (.int st), .val (.int en), .val (.ref sc), .val (.ref ta), .val (.ref u1), .val (.ref u2), .val (.ref b28), .unset, .unset, .unset, .unset] [(.ref u2), (.ref (own_kd ei w0 w1 w2 w3 w4 w5 w6 w7 w8)), (.ref u1), (.ref b28)])) rfl (by rw [hml]; rfl) (argsL := [(.ref u1), (.ref (own_kd ei w0 w1 w2 w3 w4 w5 w6 w7 w8)), (.ref u2)]) (rest := []) (lenOf own_pd13 rfl) rfl rfl (W := 0) (Nat.le_of_eq rfl) (hb hby at_352) (by decide) (by decide) (by decide) (by decide)
    obtain ⟨rfl, N32, e32⟩ := hQ32
    have N32' := Fr.app N31' N32
    refine own_st st32 ?_
    show own_Go _ _ _ _ T32 (mkF m 355 #[.val (.int p1), .val (.int p2), .val (.int p3), .val (.long q4), .second, .val (.long q5), .second, .val (.int p6), .val (.int ki), .val (.int ei), .val (.int sp), .val (.int r), .val (.int 3), .val (.int st), .val (.int en), .val (.ref sc), .val (.ref ta), .val (.ref u1), .val (.ref u2), .val (.ref b28), .unset, .unset, .unset, .unset] [(.int (if own_kd ki w0 w1 w2 w3 w4 w5 w6 w7 w8 = own_kd ei w0 w1 w2 w3 w4 w5 w6 w7 w8 then (if en - st = (3 : Int32) then (if st < 0 then (0 : Int32) else if (0 : Int32) < lcmpW st.toInt64 (r.toInt64 - (3 : Int64)) then (0 : Int32) else (if own_eic ((own_bf s0 s1 s2 s3 s4 s5) st) (nar .byte (t0.toInt8.toInt32)) = 0 then (0 : Int32) else (if own_eic ((own_bf s0 s1 s2 s3 s4 s5) (st + (1 : Int32))) (nar .byte (t1.toInt8.toInt32)) = 0 then (0 : Int32) else (if own_eic ((own_bf s0 s1 s2 s3 s4 s5) ((st + (1 : Int32)) + (1 : Int32))) (nar .byte (t2.toInt8.toInt32)) = 0 then (0 : Int32) else (1 : Int32))))) else (0 : Int32)) else (0 : Int32)))])
    generalize hav : (if own_kd ki w0 w1 w2 w3 w4 w5 w6 w7 w8 = own_kd ei w0 w1 w2 w3 w4 w5 w6 w7 w8 then (if en - st = (3 : Int32) then (if st < 0 then (0 : Int32) else if (0 : Int32) < lcmpW st.toInt64 (r.toInt64 - (3 : Int64)) then (0 : Int32) else (if own_eic ((own_bf s0 s1 s2 s3 s4 s5) st) (nar .byte (t0.toInt8.toInt32)) = 0 then (0 : Int32) else (if own_eic ((own_bf s0 s1 s2 s3 s4 s5) (st + (1 : Int32))) (nar .byte (t1.toInt8.toInt32)) = 0 then (0 : Int32) else (if own_eic ((own_bf s0 s1 s2 s3 s4 s5) ((st + (1 : Int32)) + (1 : Int32))) (nar .byte (t2.toInt8.toInt32)) = 0 then (0 : Int32) else (1 : Int32))))) else (0 : Int32)) else (0 : Int32)) = av
    show own_Go _ _ _ _ T32 (mkF m 355 #[.val (.int p1), .val (.int p2), .val (.int p3), .val (.long q4), .second, .val (.long q5), .second, .val (.int p6), .val (.int ki), .val (.int ei), .val (.int sp), .val (.int r), .val (.int 3), .val (.int st), .val (.int en), .val (.ref sc), .val (.ref ta), .val (.ref u1), .val (.ref u2), .val (.ref b28), .unset, .unset, .unset, .unset] [(.int av)])
    have Hkd : (own_kd ki w0 w1 w2 w3 w4 w5 w6 w7 w8 = own_kd ei w0 w1 w2 w3 w4 w5 w6 w7 w8) ↔ ki = ei := ⟨fun q => Decidable.byContradiction fun n => Fld.ne (Fk ki hki.1 (by omega)) (Fk ei hei.1 (by omega)) (fun z => n (Value.int.inj z)) q, fun q => by rw [q]⟩
    have E3_0 : own_eic (own_bf s0 s1 s2 s3 s4 s5 st) (nar .byte (t0.toInt8.toInt32)) = if own_fold (own_get s0 s1 s2 s3 s4 s5 st) = own_fold t0 then 1 else 0 := own_ci (own_gch gc0 gc1 gc2 gc3 gc4 gc5 _) d0
    have E3_1 : own_eic (own_bf s0 s1 s2 s3 s4 s5 (st + (1 : Int32))) (nar .byte (t1.toInt8.toInt32)) = if own_fold (own_get s0 s1 s2 s3 s4 s5 (st + (1 : Int32))) = own_fold t1 then 1 else 0 := own_ci (own_gch gc0 gc1 gc2 gc3 gc4 gc5 _) d1
    have E3_2 : own_eic (own_bf s0 s1 s2 s3 s4 s5 ((st + (1 : Int32)) + (1 : Int32))) (nar .byte (t2.toInt8.toInt32)) = if own_fold (own_get s0 s1 s2 s3 s4 s5 (st + (2 : Int32))) = own_fold t2 then 1 else 0 := by rw [own_ix2]; exact own_ci (own_gch gc0 gc1 gc2 gc3 gc4 gc5 _) d2
    simp only [Hkd, own_E2 st r (3 : Int64) 3 (by decide) (by decide) (by decide), E3_0, E3_1, E3_2] at hav
    have hres : ∀ xa : Int32, (xa = if lcmpW (en.toInt64 - st.toInt64) (3 : Int64) = 0 then 1 else 0) → av = if ki = ei ∧ xa = 1 ∧ (¬ st < 0 ∧ ¬ (0 : Int32) < lcmpW (st.toInt64 + (3 : Int64)) r.toInt64 ∧ own_fold (own_get s0 s1 s2 s3 s4 s5 st) = own_fold t0 ∧ own_fold (own_get s0 s1 s2 s3 s4 s5 (st + (1 : Int32))) = own_fold t1 ∧ own_fold (own_get s0 s1 s2 s3 s4 s5 (st + (2 : Int32))) = own_fold t2) then 1 else 0 := fun xa hxa => hav.symm.trans (own_logic (A := lcmpW (en.toInt64 - st.toInt64) (3 : Int64) = 0) own_reg3 (fun q => own_E1 (k := 3) (by decide) (by decide) (by decide) (by decide) (by omega) q.1 q.2.1) hxa)
    refine own_st (fun _ k => XS.istore X32.here hx rfl (hb hby at_355) rfl (l' := #[.val (.int p1), .val (.int p2), .val (.int p3), .val (.long q4), .second, .val (.long q5), .second, .val (.int p6), .val (.int ki), .val (.int ei), .val (.int sp), .val (.int r), .val (.int 3), .val (.int st), .val (.int en), .val (.ref sc), .val (.ref ta), .val (.ref u1), .val (.ref u2), .val (.ref b28), .val (.int av), .unset, .unset, .unset]) rfl k) ?_
    refine own_st (fun _ k => XS.iload X32.here hx rfl (hb hby at_357) rfl k) ?_
    refine own_st (fun _ k => XS.i2l X32.here hx rfl (hb hby at_359) rfl k) ?_
    refine own_st (fun _ k => XS.iload X32.here hx rfl (hb hby at_360) rfl k) ?_
    refine own_st (fun _ k => XS.i2l X32.here hx rfl (hb hby at_362) rfl k) ?_
    refine own_st (fun _ k => XS.lsub X32.here hx rfl (hb hby at_363) rfl k) ?_
    refine own_st (fun _ k => XS.iload X32.here hx rfl (hb hby at_364) rfl k) ?_
    refine own_st (fun _ k => XS.i2l X32.here hx rfl (hb hby at_366) rfl k) ?_
    show own_Go _ _ _ _ T32 (mkF m 367 #[.val (.int p1), .val (.int p2), .val (.int p3), .val (.long q4), .second, .val (.long q5), .second, .val (.int p6), .val (.int ki), .val (.int ei), .val (.int sp), .val (.int r), .val (.int 3), .val (.int st), .val (.int en), .val (.ref sc), .val (.ref ta), .val (.ref u1), .val (.ref u2), .val (.ref b28), .val (.int av), .unset, .unset, .unset] [(.long ((3 : Int32).toInt64)), (.long ((en.toInt64) - (st.toInt64)))])
    rw [show ((3 : Int32).toInt64) = (3 : Int64) from by decide]
    refine own_st (fun _ k => XS.lcmp X32.here hx rfl (hb hby at_367) rfl k) ?_
    by_cases hA : (lcmpW ((en.toInt64) - (st.toInt64)) (3 : Int64)) = (0 : Int32)
    · refine own_st (fun _ k => XS.ifNo X32.here hx rfl (hb hby at_368) rfl ((if0 _ _).trans (teq (hA : (lcmpW ((en.toInt64) - (st.toInt64)) (3 : Int64)) = (0 : Int32))).2) k) ?_
      refine own_st (fun _ k => XS.iconst X32.here hx rfl (hb hby at_371) k) ?_
      refine own_st (fun _ k => XS.goto X32.here hx rfl (pc0 := 372) (pc' := 376) rfl (hb hby at_372) (by decide) (by decide) k) ?_
      refine own_st (fun _ k => XS.istore X32.here hx rfl (hb hby at_376) rfl (l' := #[.val (.int p1), .val (.int p2), .val (.int p3), .val (.long q4), .second, .val (.long q5), .second, .val (.int p6), .val (.int ki), .val (.int ei), .val (.int sp), .val (.int r), .val (.int 3), .val (.int st), .val (.int en), .val (.ref sc), .val (.ref ta), .val (.ref u1), .val (.ref u2), .val (.ref b28), .val (.int av), .val (.int 1), .unset, .unset]) rfl k) ?_
      show own_Go _ _ _ _ T32 (mkF m 378 #[.val (.int p1), .val (.int p2), .val (.int p3), .val (.long q4), .second, .val (.long q5), .second, .val (.int p6), .val (.int ki), .val (.int ei), .val (.int sp), .val (.int r), .val (.int 3), .val (.int st), .val (.int en), .val (.ref sc), .val (.ref ta), .val (.ref u1), .val (.ref u2), .val (.ref b28), .val (.int av), .val (.int 1), .unset, .unset] [])
      exact tR_3 _ _ _ _ _ X32 N32' e32 O30 hS hk30 hZ hown _ _ _ _ _ _ _ _ hr _ _ _ _ _ _ _ _ _ _ _ _ _ gc0 gc1 gc2 gc3 gc4 gc5 d0 d1 d2 V_sc_30 V_ta_30 _ _ _ (Or.inr rfl) (hres _ (by simp [hA]))
    · refine own_st (fun _ k => XS.ifYes X32.here hx rfl (pc0 := 368) (pc' := 375) rfl (hb hby at_368) rfl ((if0 _ _).trans (feq (hA : ¬ ((lcmpW ((en.toInt64) - (st.toInt64)) (3 : Int64)) = (0 : Int32)))).2) (by decide) (by decide) k) ?_
      refine own_st (fun _ k => XS.iconst X32.here hx rfl (hb hby at_375) k) ?_
      refine own_st (fun _ k => XS.istore X32.here hx rfl (hb hby at_376) rfl (l' := #[.val (.int p1), .val (.int p2), .val (.int p3), .val (.long q4), .second, .val (.long q5), .second, .val (.int p6), .val (.int ki), .val (.int ei), .val (.int sp), .val (.int r), .val (.int 3), .val (.int st), .val (.int en), .val (.ref sc), .val (.ref ta), .val (.ref u1), .val (.ref u2), .val (.ref b28), .val (.int av), .val (.int 0), .unset, .unset]) rfl k) ?_
      show own_Go _ _ _ _ T32 (mkF m 378 #[.val (.int p1), .val (.int p2), .val (.int p3), .val (.long q4), .second, .val (.long q5), .second, .val (.int p6), .val (.int ki), .val (.int ei), .val (.int sp), .val (.int r), .val (.int 3), .val (.int st), .val (.int en), .val (.ref sc), .val (.ref ta), .val (.ref u1), .val (.ref u2), .val (.ref b28), .val (.int av), .val (.int 0), .unset, .unset] [])
      exact tR_3 _ _ _ _ _ X32 N32' e32 O30 hS hk30 hZ hown _ _ _ _ _ _ _ _ hr _ _ _ _ _ _ _ _ _ _ _ _ _ gc0 gc1 gc2 gc3 gc4 gc5 d0 d1 d2 V_sc_30 V_ta_30 _ _ _ (Or.inl rfl) (hres _ (by simp [hA]))
  have tl2 : ∀ (Tt : State) (lt : List Loc) (ht : Heap) (vmt : Vm) (kt : Nat) (Xt : Stand p l e room_1 (s.setVm vmt) m #[(.int p1), (.int p2), (.int p3), (.long q4), (.long q5), (.int p6)] below meth c Tt lt 6 25) (Nt : Fr n0 lt) (et : Tt.heap = ht) (Ot : Ext h0 ht) (hS : s.Since vmt kt) (hkt : kt ≤ ht.size) (hZ : Z.Warmed39 (s.setVm vmt).vm) (hown : (s.setVm vmt).vm.findClass "com/example/isoscope/isoscope/TokenIsPinLaw" = some m.cls) (ki ei sp r tt st en : Int32) (htt : 0 ≤ tt.toInt ∧ tt.toInt < 4) (hki : 0 ≤ ki.toInt ∧ ki.toInt < 9) (hei : 0 ≤ ei.toInt ∧ ei.toInt < 9) (hr : 0 ≤ r.toInt ∧ r.toInt < 6) (sc ta : Addr) (ksc kta : ClassId) (s0 s1 s2 s3 s4 s5 t0 t1 t2 : Int32) (gc0 : own_ch s0) (gc1 : own_ch s1) (gc2 : own_ch s2) (gc3 : own_ch s3) (gc4 : own_ch s4) (gc5 : own_ch s5) (d0 : own_ch t0) (d1 : own_ch t1) (d2 : own_ch t2) (Vsc : Arv Z ht sc ksc .char (6 : Int32) [(.int s0), (.int s1), (.int s2), (.int s3), (.int s4), (.int s5)] (.int 0)) (Vta : Arv Z ht ta kta .char (3 : Int32) [(.int t0), (.int t1), (.int t2)] (.int 0)) (u1 v1 : Addr) (k1 : ClassId) (vs : List Value) (Eu1 : Exa Z ht u1 "java/lang/String") (Fv1 : Fld Z ht u1 "java/lang/String" "value" "[B" (.ref v1)) (Fc1 : Fld Z ht u1 "java/lang/String" "coder" "B" (.int 0)) (Vu1 : Arv Z ht v1 k1 .byte r vs (.int 0)) (hB : ∀ j : Int32, ¬ j < 0 → j < r → vs.getD j.toNatClampNeg (.int 0) = .int (own_bf s0 s1 s2 s3 s4 s5 j)) (hOr : IB Z vmt [] ∨ ∃ (sa sb : Addr) (ks : ClassId), Lit (Z.setVm vmt) "java/lang/String" 7 sa ∧ Fld Z ht sa "java/lang/String" "value" "[B" (.ref sb) ∧ Fld Z ht sa "java/lang/String" "coder" "B" (.int 0) ∧ Arv Z ht sb ks .byte (0 : Int32) [] (.int 0)), own_Go p.tables e below (own_FW below s (own_law_Q Z p1 p2 p3 q4 q5 p6 w0 w1 w2 w3 w4 w5 w6 w7 w8 cs h0 n0) 32 1216) Tt (mkF m 312 #[.val (.int p1), .val (.int p2), .val (.int p3), .val (.long q4), .second, .val (.long q5), .second, .val (.int p6), .val (.int ki), .val (.int ei), .val (.int sp), .val (.int r), .val (.int tt), .val (.int st), .val (.int en), .val (.ref sc), .val (.ref ta), .val (.ref u1), .unset, .unset, .unset, .unset, .unset, .unset] []) := by
    intro Tt lt ht vmt kt Xt Nt et Ot hS hkt hZ hown ki ei sp r tt st en htt hki hei hr sc ta ksc kta s0 s1 s2 s3 s4 s5 t0 t1 t2 gc0 gc1 gc2 gc3 gc4 gc5 d0 d1 d2 Vsc Vta u1 v1 k1 vs Eu1 Fv1 Fc1 Vu1 hB hOr
    rcases own_rg4 tt htt.1 htt.2 with rfl | rfl | rfl | rfl
    · show own_Go _ _ _ _ Tt (mkF m 312 #[.val (.int p1), .val (.int p2), .val (.int p3), .val (.long q4), .second, .val (.long q5), .second, .val (.int p6), .val (.int ki), .val (.int ei), .val (.int sp), .val (.int r), .val (.int 0), .val (.int st), .val (.int en), .val (.ref sc), .val (.ref ta), .val (.ref u1), .unset, .unset, .unset, .unset, .unset, .unset] [])
      refine own_st (fun _ k => XS.aload Xt.here hx rfl (hb hby at_312) rfl rfl k) ?_
      refine own_st (fun _ k => XS.iload Xt.here hx rfl (hb hby at_314) rfl k) ?_
      rcases hOr with hI | ⟨sa, sb, ks, hL, Fsv, Fsc, Vsb⟩
      · show own_Go _ _ _ _ Tt (mkF m 316 #[.val (.int p1), .val (.int p2), .val (.int p3), .val (.long q4), .second, .val (.long q5), .second, .val (.int p6), .val (.int ki), .val (.int ei), .val (.int sp), .val (.int r), .val (.int 0), .val (.int st), .val (.int en), .val (.ref sc), .val (.ref ta), .val (.ref u1), .unset, .unset, .unset, .unset, .unset, .unset] [(.int 0), (.ref ta)])
        obtain ⟨v33, T33, L33, hQ33, X33, hS, hZ, hown, st33⟩ := own_callSW (J := fun vm => IB Z vm []) Xt hS (by rw [et]; exact hkt) hx hZ (y := (⟨"com/example/isoscope/isoscope/TokenIsPinLaw", "prefix", "([CI)Ljava/lang/String;"⟩ : MethodName)) hown (own_w6 hw) (own_w7 hw) (own_w4 hw) (own_w8 hw) (by decide) (own_pf0 l hw [] ta (0 : Int32) ht n0 (Nat.le_trans Z0 Ot.1) rfl hh hcw (own_extt OZ Ot)) (fun vm q => own_ibw hI q) et (g := (mkF m 316 #[.val (.int p1), .val (.int p2), .val (.int p3), .val (.long q4), .second, .val (.long q5), .second, .val (.int p6), .val (.int ki), .val (.int ei), .val (.int sp), .val (.int r), .val (.int 0), .val (.int st), .val (.int en), .val (.ref sc), .val (.ref ta), .val (.ref u1), .unset, .unset, .unset, .unset, .unset, .unset] [(.int 0), (.ref ta)])) rfl (by rw [hml]; rfl) (argsL := [(.ref ta), (.int 0)]) (rest := []) (lenOf own_pd15 rfl) rfl rfl (W := 0) (Nat.le_of_eq rfl) (hb hby at_316) (by decide) (by decide) (by decide) (by decide)
        obtain ⟨u2, v2, k2, sa2, rfl, N33, Et33, sb2, Eu2, Fv2, Fc2, Vu2, -, -, -⟩ := hQ33
        have hk33 : T33.heap.size ≤ T33.heap.size := Nat.le_refl _
        have O33 := own_extt Ot Et33
        have V_sc_33 := Vsc.ext Et33
        have V_ta_33 := Vta.ext Et33
        have V_v1_33 := Vu1.ext Et33
        have Ex_u1_33 := Eu1.ext Et33
        have F_value_u1_33 := Fv1.ext Et33
        have F_coder_u1_33 := Fc1.ext Et33
        have N33' := Fr.app Nt N33
        refine own_st st33 ?_
        refine own_st (fun _ k => XS.astore X33.here hx rfl (hb hby at_319) rfl rfl (l' := #[.val (.int p1), .val (.int p2), .val (.int p3), .val (.long q4), .second, .val (.long q5), .second, .val (.int p6), .val (.int ki), .val (.int ei), .val (.int sp), .val (.int r), .val (.int 0), .val (.int st), .val (.int en), .val (.ref sc), .val (.ref ta), .val (.ref u1), .val (.ref u2), .unset, .unset, .unset, .unset, .unset]) rfl k) ?_
        exact tl3_0 _ _ _ _ _ X33 N33' rfl O33 hS hk33 hZ hown _ _ _ _ _ _ hki hei hr _ _ _ _ _ _ _ _ _ _ _ _ _ gc0 gc1 gc2 gc3 gc4 gc5 d0 d1 d2 V_sc_33 V_ta_33 _ _ _ _ Ex_u1_33 F_value_u1_33 F_coder_u1_33 V_v1_33 hB _ _ _ Eu2 Fv2 Fc2 Vu2
      · show own_Go _ _ _ _ Tt (mkF m 316 #[.val (.int p1), .val (.int p2), .val (.int p3), .val (.long q4), .second, .val (.long q5), .second, .val (.int p6), .val (.int ki), .val (.int ei), .val (.int sp), .val (.int r), .val (.int 0), .val (.int st), .val (.int en), .val (.ref sc), .val (.ref ta), .val (.ref u1), .unset, .unset, .unset, .unset, .unset, .unset] [(.int 0), (.ref ta)])
        obtain ⟨v34, T34, L34, hQ34, X34, hS, hZ, hown, st34⟩ := own_callSW (J := fun vm => Lit (Z.setVm vm) "java/lang/String" 7 sa) Xt hS (by rw [et]; exact hkt) hx hZ (y := (⟨"com/example/isoscope/isoscope/TokenIsPinLaw", "prefix", "([CI)Ljava/lang/String;"⟩ : MethodName)) hown (own_w6 hw) (own_w7 hw) (own_w4 hw) (own_w8 hw) (by decide) (own_pf1x l hw [] ta sa sb (0 : Int32) ks ht n0 (Nat.le_trans Z0 Ot.1) rfl Fsv Fsc Vsb) (fun vm q => own_lits (s := s) hL q) et (g := (mkF m 316 #[.val (.int p1), .val (.int p2), .val (.int p3), .val (.long q4), .second, .val (.long q5), .second, .val (.int p6), .val (.int ki), .val (.int ei), .val (.int sp), .val (.int r), .val (.int 0), .val (.int st), .val (.int en), .val (.ref sc), .val (.ref ta), .val (.ref u1), .unset, .unset, .unset, .unset, .unset, .unset] [(.int 0), (.ref ta)])) rfl (by rw [hml]; rfl) (argsL := [(.ref ta), (.int 0)]) (rest := []) (lenOf own_pd15 rfl) rfl rfl (W := 0) (Nat.le_of_eq rfl) (hb hby at_316) (by decide) (by decide) (by decide) (by decide)
        obtain ⟨u2, v2, k2, rfl, N34, Et34, sb2, Eu2, Fv2, Fc2, Vu2⟩ := hQ34
        have hk34 : T34.heap.size ≤ T34.heap.size := Nat.le_refl _
        have O34 := own_extt Ot Et34
        have V_sc_34 := Vsc.ext Et34
        have V_ta_34 := Vta.ext Et34
        have V_v1_34 := Vu1.ext Et34
        have Ex_u1_34 := Eu1.ext Et34
        have F_value_u1_34 := Fv1.ext Et34
        have F_coder_u1_34 := Fc1.ext Et34
        have N34' := Fr.app Nt N34
        refine own_st st34 ?_
        refine own_st (fun _ k => XS.astore X34.here hx rfl (hb hby at_319) rfl rfl (l' := #[.val (.int p1), .val (.int p2), .val (.int p3), .val (.long q4), .second, .val (.long q5), .second, .val (.int p6), .val (.int ki), .val (.int ei), .val (.int sp), .val (.int r), .val (.int 0), .val (.int st), .val (.int en), .val (.ref sc), .val (.ref ta), .val (.ref u1), .val (.ref u2), .unset, .unset, .unset, .unset, .unset]) rfl k) ?_
        exact tl3_0 _ _ _ _ _ X34 N34' rfl O34 hS hk34 hZ hown _ _ _ _ _ _ hki hei hr _ _ _ _ _ _ _ _ _ _ _ _ _ gc0 gc1 gc2 gc3 gc4 gc5 d0 d1 d2 V_sc_34 V_ta_34 _ _ _ _ Ex_u1_34 F_value_u1_34 F_coder_u1_34 V_v1_34 hB _ _ _ Eu2 Fv2 Fc2 Vu2
    · show own_Go _ _ _ _ Tt (mkF m 312 #[.val (.int p1), .val (.int p2), .val (.int p3), .val (.long q4), .second, .val (.long q5), .second, .val (.int p6), .val (.int ki), .val (.int ei), .val (.int sp), .val (.int r), .val (.int 1), .val (.int st), .val (.int en), .val (.ref sc), .val (.ref ta), .val (.ref u1), .unset, .unset, .unset, .unset, .unset, .unset] [])
      refine own_st (fun _ k => XS.aload Xt.here hx rfl (hb hby at_312) rfl rfl k) ?_
      refine own_st (fun _ k => XS.iload Xt.here hx rfl (hb hby at_314) rfl k) ?_
      obtain ⟨v35, T35, L35, hQ35, X35, st35⟩ := own_callS Xt hx hZ (y := (⟨"com/example/isoscope/isoscope/TokenIsPinLaw", "prefix", "([CI)Ljava/lang/String;"⟩ : MethodName)) hown (own_w6 hw) (own_w7 hw) (own_w4 hw) (own_w8 hw) (by decide) (own_pf1 l hw [] ta (1 : Int32) cs 3 kta [(.int t0), (.int t1), (.int t2)] t0 ht n0 (Nat.le_trans Z0 Ot.1) rfl d0 (Scs.ext Ot) hcs Vta (by decide) rfl) et (g := (mkF m 316 #[.val (.int p1), .val (.int p2), .val (.int p3), .val (.long q4), .second, .val (.long q5), .second, .val (.int p6), .val (.int ki), .val (.int ei), .val (.int sp), .val (.int r), .val (.int 1), .val (.int st), .val (.int en), .val (.ref sc), .val (.ref ta), .val (.ref u1), .unset, .unset, .unset, .unset, .unset, .unset] [(.int 1), (.ref ta)])) rfl (by rw [hml]; rfl) (argsL := [(.ref ta), (.int 1)]) (rest := []) (lenOf own_pd15 rfl) rfl rfl (W := 0) (Nat.le_of_eq rfl) (hb hby at_316) (by decide) (by decide) (by decide) (by decide)
      obtain ⟨u2, v2, k2, rfl, N35, Et35, sb2, Eu2, Fv2, Fc2, Vu2⟩ := hQ35
      have hk35 := Nat.le_trans hkt Et35.1
      have O35 := own_extt Ot Et35
      have V_sc_35 := Vsc.ext Et35
      have V_ta_35 := Vta.ext Et35
      have V_v1_35 := Vu1.ext Et35
      have Ex_u1_35 := Eu1.ext Et35
      have F_value_u1_35 := Fv1.ext Et35
      have F_coder_u1_35 := Fc1.ext Et35
      have N35' := Fr.app Nt N35
      refine own_st st35 ?_
      refine own_st (fun _ k => XS.astore X35.here hx rfl (hb hby at_319) rfl rfl (l' := #[.val (.int p1), .val (.int p2), .val (.int p3), .val (.long q4), .second, .val (.long q5), .second, .val (.int p6), .val (.int ki), .val (.int ei), .val (.int sp), .val (.int r), .val (.int 1), .val (.int st), .val (.int en), .val (.ref sc), .val (.ref ta), .val (.ref u1), .val (.ref u2), .unset, .unset, .unset, .unset, .unset]) rfl k) ?_
      exact tl3_1 _ _ _ _ _ X35 N35' rfl O35 hS hk35 hZ hown _ _ _ _ _ _ hki hei hr _ _ _ _ _ _ _ _ _ _ _ _ _ gc0 gc1 gc2 gc3 gc4 gc5 d0 d1 d2 V_sc_35 V_ta_35 _ _ _ _ Ex_u1_35 F_value_u1_35 F_coder_u1_35 V_v1_35 hB _ _ _ Eu2 Fv2 Fc2 Vu2
    · show own_Go _ _ _ _ Tt (mkF m 312 #[.val (.int p1), .val (.int p2), .val (.int p3), .val (.long q4), .second, .val (.long q5), .second, .val (.int p6), .val (.int ki), .val (.int ei), .val (.int sp), .val (.int r), .val (.int 2), .val (.int st), .val (.int en), .val (.ref sc), .val (.ref ta), .val (.ref u1), .unset, .unset, .unset, .unset, .unset, .unset] [])
      refine own_st (fun _ k => XS.aload Xt.here hx rfl (hb hby at_312) rfl rfl k) ?_
      refine own_st (fun _ k => XS.iload Xt.here hx rfl (hb hby at_314) rfl k) ?_
      obtain ⟨v36, T36, L36, hQ36, X36, st36⟩ := own_callS Xt hx hZ (y := (⟨"com/example/isoscope/isoscope/TokenIsPinLaw", "prefix", "([CI)Ljava/lang/String;"⟩ : MethodName)) hown (own_w6 hw) (own_w7 hw) (own_w4 hw) (own_w8 hw) (by decide) (own_pf2 l hw [] ta (2 : Int32) cs 3 kta [(.int t0), (.int t1), (.int t2)] t0 t1 ht n0 (Nat.le_trans Z0 Ot.1) rfl d0 d1 (Scs.ext Ot) hcs Vta (by decide) (by decide) rfl rfl) et (g := (mkF m 316 #[.val (.int p1), .val (.int p2), .val (.int p3), .val (.long q4), .second, .val (.long q5), .second, .val (.int p6), .val (.int ki), .val (.int ei), .val (.int sp), .val (.int r), .val (.int 2), .val (.int st), .val (.int en), .val (.ref sc), .val (.ref ta), .val (.ref u1), .unset, .unset, .unset, .unset, .unset, .unset] [(.int 2), (.ref ta)])) rfl (by rw [hml]; rfl) (argsL := [(.ref ta), (.int 2)]) (rest := []) (lenOf own_pd15 rfl) rfl rfl (W := 0) (Nat.le_of_eq rfl) (hb hby at_316) (by decide) (by decide) (by decide) (by decide)
      obtain ⟨u2, v2, k2, rfl, N36, Et36, sb2, Eu2, Fv2, Fc2, Vu2⟩ := hQ36
      have hk36 := Nat.le_trans hkt Et36.1
      have O36 := own_extt Ot Et36
      have V_sc_36 := Vsc.ext Et36
      have V_ta_36 := Vta.ext Et36
      have V_v1_36 := Vu1.ext Et36
      have Ex_u1_36 := Eu1.ext Et36
      have F_value_u1_36 := Fv1.ext Et36
      have F_coder_u1_36 := Fc1.ext Et36
      have N36' := Fr.app Nt N36
      refine own_st st36 ?_
      refine own_st (fun _ k => XS.astore X36.here hx rfl (hb hby at_319) rfl rfl (l' := #[.val (.int p1), .val (.int p2), .val (.int p3), .val (.long q4), .second, .val (.long q5), .second, .val (.int p6), .val (.int ki), .val (.int ei), .val (.int sp), .val (.int r), .val (.int 2), .val (.int st), .val (.int en), .val (.ref sc), .val (.ref ta), .val (.ref u1), .val (.ref u2), .unset, .unset, .unset, .unset, .unset]) rfl k) ?_
      exact tl3_2 _ _ _ _ _ X36 N36' rfl O36 hS hk36 hZ hown _ _ _ _ _ _ hki hei hr _ _ _ _ _ _ _ _ _ _ _ _ _ gc0 gc1 gc2 gc3 gc4 gc5 d0 d1 d2 V_sc_36 V_ta_36 _ _ _ _ Ex_u1_36 F_value_u1_36 F_coder_u1_36 V_v1_36 hB _ _ _ Eu2 Fv2 Fc2 Vu2
    · show own_Go _ _ _ _ Tt (mkF m 312 #[.val (.int p1), .val (.int p2), .val (.int p3), .val (.long q4), .second, .val (.long q5), .second, .val (.int p6), .val (.int ki), .val (.int ei), .val (.int sp), .val (.int r), .val (.int 3), .val (.int st), .val (.int en), .val (.ref sc), .val (.ref ta), .val (.ref u1), .unset, .unset, .unset, .unset, .unset, .unset] [])
      refine own_st (fun _ k => XS.aload Xt.here hx rfl (hb hby at_312) rfl rfl k) ?_
      refine own_st (fun _ k => XS.iload Xt.here hx rfl (hb hby at_314) rfl k) ?_
      obtain ⟨v37, T37, L37, hQ37, X37, st37⟩ := own_callS Xt hx hZ (y := (⟨"com/example/isoscope/isoscope/TokenIsPinLaw", "prefix", "([CI)Ljava/lang/String;"⟩ : MethodName)) hown (own_w6 hw) (own_w7 hw) (own_w4 hw) (own_w8 hw) (by decide) (own_pf3 l hw [] ta (3 : Int32) cs 3 kta [(.int t0), (.int t1), (.int t2)] t0 t1 t2 ht n0 (Nat.le_trans Z0 Ot.1) rfl d0 d1 d2 (Scs.ext Ot) hcs Vta (by decide) (by decide) (by decide) rfl rfl rfl) et (g := (mkF m 316 #[.val (.int p1), .val (.int p2), .val (.int p3), .val (.long q4), .second, .val (.long q5), .second, .val (.int p6), .val (.int ki), .val (.int ei), .val (.int sp), .val (.int r), .val (.int 3), .val (.int st), .val (.int en), .val (.ref sc), .val (.ref ta), .val (.ref u1), .unset, .unset, .unset, .unset, .unset, .unset] [(.int 3), (.ref ta)])) rfl (by rw [hml]; rfl) (argsL := [(.ref ta), (.int 3)]) (rest := []) (lenOf own_pd15 rfl) rfl rfl (W := 0) (Nat.le_of_eq rfl) (hb hby at_316) (by decide) (by decide) (by decide) (by decide)
      obtain ⟨u2, v2, k2, rfl, N37, Et37, sb2, Eu2, Fv2, Fc2, Vu2⟩ := hQ37
      have hk37 := Nat.le_trans hkt Et37.1
      have O37 := own_extt Ot Et37
      have V_sc_37 := Vsc.ext Et37
      have V_ta_37 := Vta.ext Et37
      have V_v1_37 := Vu1.ext Et37
      have Ex_u1_37 := Eu1.ext Et37
      have F_value_u1_37 := Fv1.ext Et37
      have F_coder_u1_37 := Fc1.ext Et37
      have N37' := Fr.app Nt N37
      refine own_st st37 ?_
      refine own_st (fun _ k => XS.astore X37.here hx rfl (hb hby at_319) rfl rfl (l' := #[.val (.int p1), .val (.int p2), .val (.int p3), .val (.long q4), .second, .val (.long q5), .second, .val (.int p6), .val (.int ki), .val (.int ei), .val (.int sp), .val (.int r), .val (.int 3), .val (.int st), .val (.int en), .val (.ref sc), .val (.ref ta), .val (.ref u1), .val (.ref u2), .unset, .unset, .unset, .unset, .unset]) rfl k) ?_
      exact tl3_3 _ _ _ _ _ X37 N37' rfl O37 hS hk37 hZ hown _ _ _ _ _ _ hki hei hr _ _ _ _ _ _ _ _ _ _ _ _ _ gc0 gc1 gc2 gc3 gc4 gc5 d0 d1 d2 V_sc_37 V_ta_37 _ _ _ _ Ex_u1_37 F_value_u1_37 F_coder_u1_37 V_v1_37 hB _ _ _ Eu2 Fv2 Fc2 Vu2
  have t121 : ∀ (Tt : State) (lt : List Loc) (ht : Heap) (Xt : Stand p l e room_1 (s.setVm s.vm) m #[(.int p1), (.int p2), (.int p3), (.long q4), (.long q5), (.int p6)] below meth c Tt lt 0 0) (Nt : Fr n0 lt) (et : Tt.heap = ht) (Ot : Ext h0 ht) (ki ei sp r tt st en : Int32) (htt : 0 ≤ tt.toInt ∧ tt.toInt < 4) (hki : 0 ≤ ki.toInt ∧ ki.toInt < 9) (hei : 0 ≤ ei.toInt ∧ ei.toInt < 9) (hr : 0 ≤ r.toInt ∧ r.toInt < 6), own_Go p.tables e below (own_FW below s (own_law_Q Z p1 p2 p3 q4 q5 p6 w0 w1 w2 w3 w4 w5 w6 w7 w8 cs h0 n0) 32 1216) Tt (mkF m 121 #[.val (.int p1), .val (.int p2), .val (.int p3), .val (.long q4), .second, .val (.long q5), .second, .val (.int p6), .val (.int ki), .val (.int ei), .val (.int sp), .val (.int r), .val (.int tt), .val (.int st), .val (.int en), .unset, .unset, .unset, .unset, .unset, .unset, .unset, .unset, .unset] []) := by
    intro Tt lt ht Xt Nt et Ot ki ei sp r tt st en htt hki hei hr
    have hkt := Nat.le_trans hk0 Ot.1
    refine own_st (fun _ k => XS.bipush Xt.here hx rfl (hb hby at_121) k) ?_
    obtain ⟨T38, hp38, kk38, X38, e38, Et38, A38, st38⟩ := newP Xt hx hZ (aty := .char) (own_w0 hw) et (g := (mkF m 123 #[.val (.int p1), .val (.int p2), .val (.int p3), .val (.long q4), .second, .val (.long q5), .second, .val (.int p6), .val (.int ki), .val (.int ei), .val (.int sp), .val (.int r), .val (.int tt), .val (.int st), .val (.int en), .unset, .unset, .unset, .unset, .unset, .unset, .unset, .unset, .unset] [(.int 6)])) rfl (hb hby at_123) rfl (by decide) (cap := 6) (by decide) (by decide) (by decide) (by decide)
    obtain ⟨b38, g38⟩ : ∃ z, z = ht.size := ⟨_, rfl⟩
    rw [← g38] at A38 st38
    have s_b38 : h0.size ≤ b38 := Nat.le_trans Ot.1 (Nat.le_of_eq g38.symm)
    have g_b38 : n0 ≤ b38 := Nat.le_trans Z0 s_b38
    have hk38 := Nat.le_trans hkt Et38.1
    have O38 := own_extt Ot Et38
    have Va38 : Arv Z hp38 b38 kk38 .char (6 : Int32) [(.int 0), (.int 0), (.int 0), (.int 0), (.int 0), (.int 0)] (.int 0) := (Arv.new A38 (by decide)).pad (pad_rep [] (.int 0) 6)
    refine own_st st38 ?_
    refine own_st (fun _ k => XS.astore X38.here hx rfl (hb hby at_125) rfl rfl (l' := #[.val (.int p1), .val (.int p2), .val (.int p3), .val (.long q4), .second, .val (.long q5), .second, .val (.int p6), .val (.int ki), .val (.int ei), .val (.int sp), .val (.int r), .val (.int tt), .val (.int st), .val (.int en), .val (.ref b38), .unset, .unset, .unset, .unset, .unset, .unset, .unset, .unset]) rfl k) ?_
    refine own_st (fun _ k => XS.aload X38.here hx rfl (hb hby at_127) rfl rfl k) ?_
    refine own_st (fun _ k => XS.iconst X38.here hx rfl (hb hby at_129) k) ?_
    refine own_st (fun _ k => XS.lloadN X38.here hx rfl (hb hby at_130) rfl k) ?_
    refine own_st (X38.ldc2Long hx hown (mvT hZ (own_w1 hw)) (g := (mkF m 131 #[.val (.int p1), .val (.int p2), .val (.int p3), .val (.long q4), .second, .val (.long q5), .second, .val (.int p6), .val (.int ki), .val (.int ei), .val (.int sp), .val (.int r), .val (.int tt), .val (.int st), .val (.int en), .val (.ref b38), .unset, .unset, .unset, .unset, .unset, .unset, .unset, .unset] [(.long q4), (.int 0), (.ref b38)])) rfl (hb hby at_131)) ?_
    refine own_st (fun _ k => XS.land X38.here hx rfl (hb hby at_134) rfl k) ?_
    show own_Go _ _ _ _ T38 (mkF m 135 #[.val (.int p1), .val (.int p2), .val (.int p3), .val (.long q4), .second, .val (.long q5), .second, .val (.int p6), .val (.int ki), .val (.int ei), .val (.int sp), .val (.int r), .val (.int tt), .val (.int st), .val (.int en), .val (.ref b38), .unset, .unset, .unset, .unset, .unset, .unset, .unset, .unset] [(.long (q4 &&& (255 : Int64))), (.int 0), (.ref b38)])
    refine own_st (fun _ k => XS.l2i X38.here hx rfl (hb hby at_135) rfl k) ?_
    refine own_st (fun _ k => XS.i2c X38.here hx rfl (hb hby at_136) rfl k) ?_
    obtain ⟨T39, hp39, X39, e39, W39, Va39, st39⟩ := own_stC X38 hx hZ e38 Va38 (by decide) 0 (by decide) (Nat.le_of_ble_eq_true rfl) (g := (mkF m 137 #[.val (.int p1), .val (.int p2), .val (.int p3), .val (.long q4), .second, .val (.long q5), .second, .val (.int p6), .val (.int ki), .val (.int ei), .val (.int sp), .val (.int r), .val (.int tt), .val (.int st), .val (.int en), .val (.ref b38), .unset, .unset, .unset, .unset, .unset, .unset, .unset, .unset] [(.int (((q4 &&& (255 : Int64)).toInt32).toUInt32.toUInt16.toUInt32.toInt32)), (.int 0), (.ref b38)])) rfl rfl (hb hby at_137)
    have hk39 := Nat.le_trans hk38 (Keep.of_wr W39).1
    have O39 := own_extw O38 W39 s_b38
    have Va39 : Arv Z hp39 b38 kk38 .char (6 : Int32) [(.int (nar .char (((q4 &&& (255 : Int64)).toInt32).toUInt32.toUInt16.toUInt32.toInt32))), (.int 0), (.int 0), (.int 0), (.int 0), (.int 0)] (.int 0) := Va39
    have N39 := Fr.snoc X39 Nt g_b38
    refine own_st st39 ?_
    refine own_st (fun _ k => XS.aload X39.here hx rfl (hb hby at_138) rfl rfl k) ?_
    refine own_st (fun _ k => XS.iconst X39.here hx rfl (hb hby at_140) k) ?_
    refine own_st (fun _ k => XS.lloadN X39.here hx rfl (hb hby at_141) rfl k) ?_
    refine own_st (fun _ k => XS.bipush X39.here hx rfl (hb hby at_142) k) ?_
    refine own_st (fun _ k => XS.lushr X39.here hx rfl (hb hby at_144) rfl k) ?_
    show own_Go _ _ _ _ T39 (mkF m 145 #[.val (.int p1), .val (.int p2), .val (.int p3), .val (.long q4), .second, .val (.long q5), .second, .val (.int p6), .val (.int ki), .val (.int ei), .val (.int sp), .val (.int r), .val (.int tt), .val (.int st), .val (.int en), .val (.ref b38), .unset, .unset, .unset, .unset, .unset, .unset, .unset, .unset] [(.long ((q4.toUInt64 >>> ((8 : Int32) &&& 0x3f).toInt64.toUInt64).toInt64)), (.int 1), (.ref b38)])
    refine own_st (X39.ldc2Long hx hown (mvT hZ (own_w1 hw)) (g := (mkF m 145 #[.val (.int p1), .val (.int p2), .val (.int p3), .val (.long q4), .second, .val (.long q5), .second, .val (.int p6), .val (.int ki), .val (.int ei), .val (.int sp), .val (.int r), .val (.int tt), .val (.int st), .val (.int en), .val (.ref b38), .unset, .unset, .unset, .unset, .unset, .unset, .unset, .unset] [(.long ((q4.toUInt64 >>> ((8 : Int32) &&& 0x3f).toInt64.toUInt64).toInt64)), (.int 1), (.ref b38)])) rfl (hb hby at_145)) ?_
    refine own_st (fun _ k => XS.land X39.here hx rfl (hb hby at_148) rfl k) ?_
    refine own_st (fun _ k => XS.l2i X39.here hx rfl (hb hby at_149) rfl k) ?_
    refine own_st (fun _ k => XS.i2c X39.here hx rfl (hb hby at_150) rfl k) ?_
    obtain ⟨T40, hp40, X40, e40, W40, Va40, st40⟩ := own_stC X39 hx hZ e39 Va39 (by decide) 1 (by decide) (Nat.le_of_ble_eq_true rfl) (g := (mkF m 151 #[.val (.int p1), .val (.int p2), .val (.int p3), .val (.long q4), .second, .val (.long q5), .second, .val (.int p6), .val (.int ki), .val (.int ei), .val (.int sp), .val (.int r), .val (.int tt), .val (.int st), .val (.int en), .val (.ref b38), .unset, .unset, .unset, .unset, .unset, .unset, .unset, .unset] [(.int (((((q4.toUInt64 >>> ((8 : Int32) &&& 0x3f).toInt64.toUInt64).toInt64) &&& (255 : Int64)).toInt32).toUInt32.toUInt16.toUInt32.toInt32)), (.int 1), (.ref b38)])) rfl rfl (hb hby at_151)
    have hk40 := Nat.le_trans hk39 (Keep.of_wr W40).1
    have O40 := own_extw O39 W40 s_b38
    have Va40 : Arv Z hp40 b38 kk38 .char (6 : Int32) [(.int (nar .char (((q4 &&& (255 : Int64)).toInt32).toUInt32.toUInt16.toUInt32.toInt32))), (.int (nar .char (((((q4.toUInt64 >>> ((8 : Int32) &&& 0x3f).toInt64.toUInt64).toInt64) &&& (255 : Int64)).toInt32).toUInt32.toUInt16.toUInt32.toInt32))), (.int 0), (.int 0), (.int 0), (.int 0)] (.int 0) := Va40
    have N40 := Fr.snoc X40 N39 g_b38
    refine own_st st40 ?_
    refine own_st (fun _ k => XS.aload X40.here hx rfl (hb hby at_152) rfl rfl k) ?_
    refine own_st (fun _ k => XS.iconst X40.here hx rfl (hb hby at_154) k) ?_
    refine own_st (fun _ k => XS.lloadN X40.here hx rfl (hb hby at_155) rfl k) ?_
    show own_Go _ _ _ _ T40 (mkF m 156 #[.val (.int p1), .val (.int p2), .val (.int p3), .val (.long q4), .second, .val (.long q5), .second, .val (.int p6), .val (.int ki), .val (.int ei), .val (.int sp), .val (.int r), .val (.int tt), .val (.int st), .val (.int en), .val (.ref b38), .unset, .unset, .unset, .unset, .unset, .unset, .unset, .unset] [(.long q4), (.int 2), (.ref b38)])
    refine own_st (fun _ k => XS.bipush X40.here hx rfl (hb hby at_156) k) ?_
    refine own_st (fun _ k => XS.lushr X40.here hx rfl (hb hby at_158) rfl k) ?_
    refine own_st (X40.ldc2Long hx hown (mvT hZ (own_w1 hw)) (g := (mkF m 159 #[.val (.int p1), .val (.int p2), .val (.int p3), .val (.long q4), .second, .val (.long q5), .second, .val (.int p6), .val (.int ki), .val (.int ei), .val (.int sp), .val (.int r), .val (.int tt), .val (.int st), .val (.int en), .val (.ref b38), .unset, .unset, .unset, .unset, .unset, .unset, .unset, .unset] [(.long ((q4.toUInt64 >>> ((16 : Int32) &&& 0x3f).toInt64.toUInt64).toInt64)), (.int 2), (.ref b38)])) rfl (hb hby at_159)) ?_
    refine own_st (fun _ k => XS.land X40.here hx rfl (hb hby at_162) rfl k) ?_
    refine own_st (fun _ k => XS.l2i X40.here hx rfl (hb hby at_163) rfl k) ?_
    refine own_st (fun _ k => XS.i2c X40.here hx rfl (hb hby at_164) rfl k) ?_
    obtain ⟨T41, hp41, X41, e41, W41, Va41, st41⟩ := own_stC X40 hx hZ e40 Va40 (by decide) 2 (by decide) (Nat.le_of_ble_eq_true rfl) (g := (mkF m 165 #[.val (.int p1), .val (.int p2), .val (.int p3), .val (.long q4), .second, .val (.long q5), .second, .val (.int p6), .val (.int ki), .val (.int ei), .val (.int sp), .val (.int r), .val (.int tt), .val (.int st), .val (.int en), .val (.ref b38), .unset, .unset, .unset, .unset, .unset, .unset, .unset, .unset] [(.int (((((q4.toUInt64 >>> ((16 : Int32) &&& 0x3f).toInt64.toUInt64).toInt64) &&& (255 : Int64)).toInt32).toUInt32.toUInt16.toUInt32.toInt32)), (.int 2), (.ref b38)])) rfl rfl (hb hby at_165)
    have hk41 := Nat.le_trans hk40 (Keep.of_wr W41).1
    have O41 := own_extw O40 W41 s_b38
    have Va41 : Arv Z hp41 b38 kk38 .char (6 : Int32) [(.int (nar .char (((q4 &&& (255 : Int64)).toInt32).toUInt32.toUInt16.toUInt32.toInt32))), (.int (nar .char (((((q4.toUInt64 >>> ((8 : Int32) &&& 0x3f).toInt64.toUInt64).toInt64) &&& (255 : Int64)).toInt32).toUInt32.toUInt16.toUInt32.toInt32))), (.int (nar .char (((((q4.toUInt64 >>> ((16 : Int32) &&& 0x3f).toInt64.toUInt64).toInt64) &&& (255 : Int64)).toInt32).toUInt32.toUInt16.toUInt32.toInt32))), (.int 0), (.int 0), (.int 0)] (.int 0) := Va41
    have N41 := Fr.snoc X41 N40 g_b38
    refine own_st st41 ?_
    refine own_st (fun _ k => XS.aload X41.here hx rfl (hb hby at_166) rfl rfl k) ?_
    show own_Go _ _ _ _ T41 (mkF m 168 #[.val (.int p1), .val (.int p2), .val (.int p3), .val (.long q4), .second, .val (.long q5), .second, .val (.int p6), .val (.int ki), .val (.int ei), .val (.int sp), .val (.int r), .val (.int tt), .val (.int st), .val (.int en), .val (.ref b38), .unset, .unset, .unset, .unset, .unset, .unset, .unset, .unset] [(.ref b38)])
    refine own_st (fun _ k => XS.iconst X41.here hx rfl (hb hby at_168) k) ?_
    refine own_st (fun _ k => XS.lloadN X41.here hx rfl (hb hby at_169) rfl k) ?_
    refine own_st (fun _ k => XS.bipush X41.here hx rfl (hb hby at_170) k) ?_
    refine own_st (fun _ k => XS.lushr X41.here hx rfl (hb hby at_172) rfl k) ?_
    refine own_st (X41.ldc2Long hx hown (mvT hZ (own_w1 hw)) (g := (mkF m 173 #[.val (.int p1), .val (.int p2), .val (.int p3), .val (.long q4), .second, .val (.long q5), .second, .val (.int p6), .val (.int ki), .val (.int ei), .val (.int sp), .val (.int r), .val (.int tt), .val (.int st), .val (.int en), .val (.ref b38), .unset, .unset, .unset, .unset, .unset, .unset, .unset, .unset] [(.long ((q4.toUInt64 >>> ((24 : Int32) &&& 0x3f).toInt64.toUInt64).toInt64)), (.int 3), (.ref b38)])) rfl (hb hby at_173)) ?_
    refine own_st (fun _ k => XS.land X41.here hx rfl (hb hby at_176) rfl k) ?_
    refine own_st (fun _ k => XS.l2i X41.here hx rfl (hb hby at_177) rfl k) ?_
    refine own_st (fun _ k => XS.i2c X41.here hx rfl (hb hby at_178) rfl k) ?_
    show own_Go _ _ _ _ T41 (mkF m 179 #[.val (.int p1), .val (.int p2), .val (.int p3), .val (.long q4), .second, .val (.long q5), .second, .val (.int p6), .val (.int ki), .val (.int ei), .val (.int sp), .val (.int r), .val (.int tt), .val (.int st), .val (.int en), .val (.ref b38), .unset, .unset, .unset, .unset, .unset, .unset, .unset, .unset] [(.int (((((q4.toUInt64 >>> ((24 : Int32) &&& 0x3f).toInt64.toUInt64).toInt64) &&& (255 : Int64)).toInt32).toUInt32.toUInt16.toUInt32.toInt32)), (.int 3), (.ref b38)])
    obtain ⟨T42, hp42, X42, e42, W42, Va42, st42⟩ := own_stC X41 hx hZ e41 Va41 (by decide) 3 (by decide) (Nat.le_of_ble_eq_true rfl) (g := (mkF m 179 #[.val (.int p1), .val (.int p2), .val (.int p3), .val (.long q4), .second, .val (.long q5), .second, .val (.int p6), .val (.int ki), .val (.int ei), .val (.int sp), .val (.int r), .val (.int tt), .val (.int st), .val (.int en), .val (.ref b38), .unset, .unset, .unset, .unset, .unset, .unset, .unset, .unset] [(.int (((((q4.toUInt64 >>> ((24 : Int32) &&& 0x3f).toInt64.toUInt64).toInt64) &&& (255 : Int64)).toInt32).toUInt32.toUInt16.toUInt32.toInt32)), (.int 3), (.ref b38)])) rfl rfl (hb hby at_179)
    have hk42 := Nat.le_trans hk41 (Keep.of_wr W42).1
    have O42 := own_extw O41 W42 s_b38
    have Va42 : Arv Z hp42 b38 kk38 .char (6 : Int32) [(.int (nar .char (((q4 &&& (255 : Int64)).toInt32).toUInt32.toUInt16.toUInt32.toInt32))), (.int (nar .char (((((q4.toUInt64 >>> ((8 : Int32) &&& 0x3f).toInt64.toUInt64).toInt64) &&& (255 : Int64)).toInt32).toUInt32.toUInt16.toUInt32.toInt32))), (.int (nar .char (((((q4.toUInt64 >>> ((16 : Int32) &&& 0x3f).toInt64.toUInt64).toInt64) &&& (255 : Int64)).toInt32).toUInt32.toUInt16.toUInt32.toInt32))), (.int (nar .char (((((q4.toUInt64 >>> ((24 : Int32) &&& 0x3f).toInt64.toUInt64).toInt64) &&& (255 : Int64)).toInt32).toUInt32.toUInt16.toUInt32.toInt32))), (.int 0), (.int 0)] (.int 0) := Va42
    have N42 := Fr.snoc X42 N41 g_b38
    refine own_st st42 ?_
    refine own_st (fun _ k => XS.aload X42.here hx rfl (hb hby at_180) rfl rfl k) ?_
    refine own_st (fun _ k => XS.iconst X42.here hx rfl (hb hby at_182) k) ?_
    refine own_st (fun _ k => XS.lloadN X42.here hx rfl (hb hby at_183) rfl k) ?_
    refine own_st (fun _ k => XS.bipush X42.here hx rfl (hb hby at_184) k) ?_
    refine own_st (fun _ k => XS.lushr X42.here hx rfl (hb hby at_186) rfl k) ?_
    refine own_st (X42.ldc2Long hx hown (mvT hZ (own_w1 hw)) (g := (mkF m 187 #[.val (.int p1), .val (.int p2), .val (.int p3), .val (.long q4), .second, .val (.long q5), .second, .val (.int p6), .val (.int ki), .val (.int ei), .val (.int sp), .val (.int r), .val (.int tt), .val (.int st), .val (.int en), .val (.ref b38), .unset, .unset, .unset, .unset, .unset, .unset, .unset, .unset] [(.long ((q4.toUInt64 >>> ((32 : Int32) &&& 0x3f).toInt64.toUInt64).toInt64)), (.int 4), (.ref b38)])) rfl (hb hby at_187)) ?_
    refine own_st (fun _ k => XS.land X42.here hx rfl (hb hby at_190) rfl k) ?_
    show own_Go _ _ _ _ T42 (mkF m 191 #[.val (.int p1), .val (.int p2), .val (.int p3), .val (.long q4), .second, .val (.long q5), .second, .val (.int p6), .val (.int ki), .val (.int ei), .val (.int sp), .val (.int r), .val (.int tt), .val (.int st), .val (.int en), .val (.ref b38), .unset, .unset, .unset, .unset, .unset, .unset, .unset, .unset] [(.long (((q4.toUInt64 >>> ((32 : Int32) &&& 0x3f).toInt64.toUInt64).toInt64) &&& (255 : Int64))), (.int 4), (.ref b38)])
    refine own_st (fun _ k => XS.l2i X42.here hx rfl (hb hby at_191) rfl k) ?_
    refine own_st (fun _ k => XS.i2c X42.here hx rfl (hb hby at_192) rfl k) ?_
    obtain ⟨T43, hp43, X43, e43, W43, Va43, st43⟩ := own_stC X42 hx hZ e42 Va42 (by decide) 4 (by decide) (Nat.le_of_ble_eq_true rfl) (g := (mkF m 193 #[.val (.int p1), .val (.int p2), .val (.int p3), .val (.long q4), .second, .val (.long q5), .second, .val (.int p6), .val (.int ki), .val (.int ei), .val (.int sp), .val (.int r), .val (.int tt), .val (.int st), .val (.int en), .val (.ref b38), .unset, .unset, .unset, .unset, .unset, .unset, .unset, .unset] [(.int (((((q4.toUInt64 >>> ((32 : Int32) &&& 0x3f).toInt64.toUInt64).toInt64) &&& (255 : Int64)).toInt32).toUInt32.toUInt16.toUInt32.toInt32)), (.int 4), (.ref b38)])) rfl rfl (hb hby at_193)
    have hk43 := Nat.le_trans hk42 (Keep.of_wr W43).1
    have O43 := own_extw O42 W43 s_b38
    have Va43 : Arv Z hp43 b38 kk38 .char (6 : Int32) [(.int (nar .char (((q4 &&& (255 : Int64)).toInt32).toUInt32.toUInt16.toUInt32.toInt32))), (.int (nar .char (((((q4.toUInt64 >>> ((8 : Int32) &&& 0x3f).toInt64.toUInt64).toInt64) &&& (255 : Int64)).toInt32).toUInt32.toUInt16.toUInt32.toInt32))), (.int (nar .char (((((q4.toUInt64 >>> ((16 : Int32) &&& 0x3f).toInt64.toUInt64).toInt64) &&& (255 : Int64)).toInt32).toUInt32.toUInt16.toUInt32.toInt32))), (.int (nar .char (((((q4.toUInt64 >>> ((24 : Int32) &&& 0x3f).toInt64.toUInt64).toInt64) &&& (255 : Int64)).toInt32).toUInt32.toUInt16.toUInt32.toInt32))), (.int (nar .char (((((q4.toUInt64 >>> ((32 : Int32) &&& 0x3f).toInt64.toUInt64).toInt64) &&& (255 : Int64)).toInt32).toUInt32.toUInt16.toUInt32.toInt32))), (.int 0)] (.int 0) := Va43
    have N43 := Fr.snoc X43 N42 g_b38
    refine own_st st43 ?_
    refine own_st (fun _ k => XS.aload X43.here hx rfl (hb hby at_194) rfl rfl k) ?_
    refine own_st (fun _ k => XS.iconst X43.here hx rfl (hb hby at_196) k) ?_
    refine own_st (fun _ k => XS.lloadN X43.here hx rfl (hb hby at_197) rfl k) ?_
    refine own_st (fun _ k => XS.bipush X43.here hx rfl (hb hby at_198) k) ?_
    refine own_st (fun _ k => XS.lushr X43.here hx rfl (hb hby at_200) rfl k) ?_
    show own_Go _ _ _ _ T43 (mkF m 201 #[.val (.int p1), .val (.int p2), .val (.int p3), .val (.long q4), .second, .val (.long q5), .second, .val (.int p6), .val (.int ki), .val (.int ei), .val (.int sp), .val (.int r), .val (.int tt), .val (.int st), .val (.int en), .val (.ref b38), .unset, .unset, .unset, .unset, .unset, .unset, .unset, .unset] [(.long ((q4.toUInt64 >>> ((40 : Int32) &&& 0x3f).toInt64.toUInt64).toInt64)), (.int 5), (.ref b38)])
    refine own_st (X43.ldc2Long hx hown (mvT hZ (own_w1 hw)) (g := (mkF m 201 #[.val (.int p1), .val (.int p2), .val (.int p3), .val (.long q4), .second, .val (.long q5), .second, .val (.int p6), .val (.int ki), .val (.int ei), .val (.int sp), .val (.int r), .val (.int tt), .val (.int st), .val (.int en), .val (.ref b38), .unset, .unset, .unset, .unset, .unset, .unset, .unset, .unset] [(.long ((q4.toUInt64 >>> ((40 : Int32) &&& 0x3f).toInt64.toUInt64).toInt64)), (.int 5), (.ref b38)])) rfl (hb hby at_201)) ?_
    refine own_st (fun _ k => XS.land X43.here hx rfl (hb hby at_204) rfl k) ?_
    refine own_st (fun _ k => XS.l2i X43.here hx rfl (hb hby at_205) rfl k) ?_
    refine own_st (fun _ k => XS.i2c X43.here hx rfl (hb hby at_206) rfl k) ?_
    obtain ⟨T44, hp44, X44, e44, W44, Va44, st44⟩ := own_stC X43 hx hZ e43 Va43 (by decide) 5 (by decide) (Nat.le_of_ble_eq_true rfl) (g := (mkF m 207 #[.val (.int p1), .val (.int p2), .val (.int p3), .val (.long q4), .second, .val (.long q5), .second, .val (.int p6), .val (.int ki), .val (.int ei), .val (.int sp), .val (.int r), .val (.int tt), .val (.int st), .val (.int en), .val (.ref b38), .unset, .unset, .unset, .unset, .unset, .unset, .unset, .unset] [(.int (((((q4.toUInt64 >>> ((40 : Int32) &&& 0x3f).toInt64.toUInt64).toInt64) &&& (255 : Int64)).toInt32).toUInt32.toUInt16.toUInt32.toInt32)), (.int 5), (.ref b38)])) rfl rfl (hb hby at_207)
    have hk44 := Nat.le_trans hk43 (Keep.of_wr W44).1
    have O44 := own_extw O43 W44 s_b38
    have Va44 : Arv Z hp44 b38 kk38 .char (6 : Int32) [(.int (nar .char (((q4 &&& (255 : Int64)).toInt32).toUInt32.toUInt16.toUInt32.toInt32))), (.int (nar .char (((((q4.toUInt64 >>> ((8 : Int32) &&& 0x3f).toInt64.toUInt64).toInt64) &&& (255 : Int64)).toInt32).toUInt32.toUInt16.toUInt32.toInt32))), (.int (nar .char (((((q4.toUInt64 >>> ((16 : Int32) &&& 0x3f).toInt64.toUInt64).toInt64) &&& (255 : Int64)).toInt32).toUInt32.toUInt16.toUInt32.toInt32))), (.int (nar .char (((((q4.toUInt64 >>> ((24 : Int32) &&& 0x3f).toInt64.toUInt64).toInt64) &&& (255 : Int64)).toInt32).toUInt32.toUInt16.toUInt32.toInt32))), (.int (nar .char (((((q4.toUInt64 >>> ((32 : Int32) &&& 0x3f).toInt64.toUInt64).toInt64) &&& (255 : Int64)).toInt32).toUInt32.toUInt16.toUInt32.toInt32))), (.int (nar .char (((((q4.toUInt64 >>> ((40 : Int32) &&& 0x3f).toInt64.toUInt64).toInt64) &&& (255 : Int64)).toInt32).toUInt32.toUInt16.toUInt32.toInt32)))] (.int 0) := Va44
    have N44 := Fr.snoc X44 N43 g_b38
    refine own_st st44 ?_
    obtain ⟨s0, hs0⟩ : ∃ z, z = (nar .char (((q4 &&& (255 : Int64)).toInt32).toUInt32.toUInt16.toUInt32.toInt32)) := ⟨_, rfl⟩
    rw [← hs0] at Va44
    have gc0 : own_ch s0 := by rw [hs0]; exact own_i2c (own_lb _)
    obtain ⟨s1, hs1⟩ : ∃ z, z = (nar .char (((((q4.toUInt64 >>> ((8 : Int32) &&& 0x3f).toInt64.toUInt64).toInt64) &&& (255 : Int64)).toInt32).toUInt32.toUInt16.toUInt32.toInt32)) := ⟨_, rfl⟩
    rw [← hs1] at Va44
    have gc1 : own_ch s1 := by rw [hs1]; exact own_i2c (own_lb _)
    obtain ⟨s2, hs2⟩ : ∃ z, z = (nar .char (((((q4.toUInt64 >>> ((16 : Int32) &&& 0x3f).toInt64.toUInt64).toInt64) &&& (255 : Int64)).toInt32).toUInt32.toUInt16.toUInt32.toInt32)) := ⟨_, rfl⟩
    rw [← hs2] at Va44
    have gc2 : own_ch s2 := by rw [hs2]; exact own_i2c (own_lb _)
    obtain ⟨s3, hs3⟩ : ∃ z, z = (nar .char (((((q4.toUInt64 >>> ((24 : Int32) &&& 0x3f).toInt64.toUInt64).toInt64) &&& (255 : Int64)).toInt32).toUInt32.toUInt16.toUInt32.toInt32)) := ⟨_, rfl⟩
    rw [← hs3] at Va44
    have gc3 : own_ch s3 := by rw [hs3]; exact own_i2c (own_lb _)
    obtain ⟨s4, hs4⟩ : ∃ z, z = (nar .char (((((q4.toUInt64 >>> ((32 : Int32) &&& 0x3f).toInt64.toUInt64).toInt64) &&& (255 : Int64)).toInt32).toUInt32.toUInt16.toUInt32.toInt32)) := ⟨_, rfl⟩
    rw [← hs4] at Va44
    have gc4 : own_ch s4 := by rw [hs4]; exact own_i2c (own_lb _)
    obtain ⟨s5, hs5⟩ : ∃ z, z = (nar .char (((((q4.toUInt64 >>> ((40 : Int32) &&& 0x3f).toInt64.toUInt64).toInt64) &&& (255 : Int64)).toInt32).toUInt32.toUInt16.toUInt32.toInt32)) := ⟨_, rfl⟩
    rw [← hs5] at Va44
    have gc5 : own_ch s5 := by rw [hs5]; exact own_i2c (own_lb _)
    refine own_st (fun _ k => XS.iconst X44.here hx rfl (hb hby at_208) k) ?_
    obtain ⟨T45, hp45, kk45, X45, e45, Et45, A45, st45⟩ := newP X44 hx hZ (aty := .char) (own_w0 hw) e44 (g := (mkF m 209 #[.val (.int p1), .val (.int p2), .val (.int p3), .val (.long q4), .second, .val (.long q5), .second, .val (.int p6), .val (.int ki), .val (.int ei), .val (.int sp), .val (.int r), .val (.int tt), .val (.int st), .val (.int en), .val (.ref b38), .unset, .unset, .unset, .unset, .unset, .unset, .unset, .unset] [(.int 3)])) rfl (hb hby at_209) rfl (by decide) (cap := 3) (by decide) (by decide) (by decide) (by decide)
    obtain ⟨b45, g45⟩ : ∃ z, z = hp44.size := ⟨_, rfl⟩
    rw [← g45] at A45 st45
    have s_b45 : h0.size ≤ b45 := Nat.le_trans O44.1 (Nat.le_of_eq g45.symm)
    have g_b45 : n0 ≤ b45 := Nat.le_trans Z0 s_b45
    have lt_b38_b45 : b38 < b45 := Nat.lt_of_lt_of_le Va44.lt (Nat.le_of_eq g45.symm)
    have hk45 := Nat.le_trans hk44 Et45.1
    have O45 := own_extt O44 Et45
    have V_b38_45 := Va44.ext Et45
    have Va45 : Arv Z hp45 b45 kk45 .char (3 : Int32) [(.int 0), (.int 0), (.int 0)] (.int 0) := (Arv.new A45 (by decide)).pad (pad_rep [] (.int 0) 3)
    refine own_st st45 ?_
    refine own_st (fun _ k => XS.astore X45.here hx rfl (hb hby at_211) rfl rfl (l' := #[.val (.int p1), .val (.int p2), .val (.int p3), .val (.long q4), .second, .val (.long q5), .second, .val (.int p6), .val (.int ki), .val (.int ei), .val (.int sp), .val (.int r), .val (.int tt), .val (.int st), .val (.int en), .val (.ref b38), .val (.ref b45), .unset, .unset, .unset, .unset, .unset, .unset, .unset]) rfl k) ?_
    show own_Go _ _ _ _ T45 (mkF m 213 #[.val (.int p1), .val (.int p2), .val (.int p3), .val (.long q4), .second, .val (.long q5), .second, .val (.int p6), .val (.int ki), .val (.int ei), .val (.int sp), .val (.int r), .val (.int tt), .val (.int st), .val (.int en), .val (.ref b38), .val (.ref b45), .unset, .unset, .unset, .unset, .unset, .unset, .unset] [])
    refine own_st (fun _ k => XS.aload X45.here hx rfl (hb hby at_213) rfl rfl k) ?_
    refine own_st (fun _ k => XS.iconst X45.here hx rfl (hb hby at_215) k) ?_
    refine own_st (fun _ k => XS.iconst X45.here hx rfl (hb hby at_216) k) ?_
    refine own_st (fun _ k => XS.iload X45.here hx rfl (hb hby at_217) rfl k) ?_
    refine own_st (fun _ k => XS.bipush X45.here hx rfl (hb hby at_219) k) ?_
    refine own_st (fun _ k => XS.iushr X45.here hx rfl (hb hby at_221) rfl k) ?_
    refine own_st (fun _ k => XS.iconst X45.here hx rfl (hb hby at_222) k) ?_
    refine own_st (fun _ k => XS.iand X45.here hx rfl (hb hby at_223) rfl k) ?_
    show own_Go _ _ _ _ T45 (mkF m 224 #[.val (.int p1), .val (.int p2), .val (.int p3), .val (.long q4), .second, .val (.long q5), .second, .val (.int p6), .val (.int ki), .val (.int ei), .val (.int sp), .val (.int r), .val (.int tt), .val (.int st), .val (.int en), .val (.ref b38), .val (.ref b45), .unset, .unset, .unset, .unset, .unset, .unset, .unset] [(.int (((p6.toUInt32 >>> ((7 : Int32) &&& 31).toUInt32).toInt32) &&& (3 : Int32))), (.int 0), (.int 0), (.ref b45)])
    refine own_st (fun _ k => XS.lload X45.here hx rfl (hb hby at_224) rfl k) ?_
    refine own_st (X45.ldc2Long hx hown (mvT hZ (own_w1 hw)) (g := (mkF m 226 #[.val (.int p1), .val (.int p2), .val (.int p3), .val (.long q4), .second, .val (.long q5), .second, .val (.int p6), .val (.int ki), .val (.int ei), .val (.int sp), .val (.int r), .val (.int tt), .val (.int st), .val (.int en), .val (.ref b38), .val (.ref b45), .unset, .unset, .unset, .unset, .unset, .unset, .unset] [(.long q5), (.int (((p6.toUInt32 >>> ((7 : Int32) &&& 31).toUInt32).toInt32) &&& (3 : Int32))), (.int 0), (.int 0), (.ref b45)])) rfl (hb hby at_226)) ?_
    refine own_st (fun _ k => XS.land X45.here hx rfl (hb hby at_229) rfl k) ?_
    refine own_st (fun _ k => XS.l2i X45.here hx rfl (hb hby at_230) rfl k) ?_
    refine own_st (fun _ k => XS.aload X45.here hx rfl (hb hby at_231) rfl rfl k) ?_
    refine own_st (fun _ k => XS.iload X45.here hx rfl (hb hby at_233) rfl k) ?_
    refine own_st (fun _ k => XS.iload X45.here hx rfl (hb hby at_235) rfl k) ?_
    obtain ⟨v46, T46, L46, hQ46, X46, st46⟩ := own_callS X45 hx hZ (y := (⟨"com/example/isoscope/isoscope/TokenIsPinLaw", "tc", "(III[CII)C"⟩ : MethodName)) hown (own_w2 hw) (own_w3 hw) (own_w4 hw) (own_w5 hw) (by decide) (own_tc l hw [] b38 (0 : Int32) (((p6.toUInt32 >>> ((7 : Int32) &&& 31).toUInt32).toInt32) &&& (3 : Int32)) ((q5 &&& (255 : Int64)).toInt32) r st s0 s1 s2 s3 s4 s5 kk38 hp45 n0 (Nat.le_trans Z0 O45.1) (own_lb _) (by omega) gc0 gc1 gc2 gc3 gc4 gc5 V_b38_45) e45 (g := (mkF m 237 #[.val (.int p1), .val (.int p2), .val (.int p3), .val (.long q4), .second, .val (.long q5), .second, .val (.int p6), .val (.int ki), .val (.int ei), .val (.int sp), .val (.int r), .val (.int tt), .val (.int st), .val (.int en), .val (.ref b38), .val (.ref b45), .unset, .unset, .unset, .unset, .unset, .unset, .unset] [(.int st), (.int r), (.ref b38), (.int ((q5 &&& (255 : Int64)).toInt32)), (.int (((p6.toUInt32 >>> ((7 : Int32) &&& 31).toUInt32).toInt32) &&& (3 : Int32))), (.int 0), (.int 0), (.ref b45)])) rfl (by rw [hml]; rfl) (argsL := [(.int 0), (.int (((p6.toUInt32 >>> ((7 : Int32) &&& 31).toUInt32).toInt32) &&& (3 : Int32))), (.int ((q5 &&& (255 : Int64)).toInt32)), (.ref b38), (.int r), (.int st)]) (rest := [(.int 0), (.ref b45)]) (lenOf own_pd16 rfl) rfl rfl (W := 2) (Nat.le_of_eq rfl) (hb hby at_237) (by decide) (by decide) (by decide) (by decide)
    obtain ⟨t0, rfl, d0, N46, e46⟩ := hQ46
    have N46' := Fr.app N44 N46
    refine own_st st46 ?_
    show own_Go _ _ _ _ T46 (mkF m 240 #[.val (.int p1), .val (.int p2), .val (.int p3), .val (.long q4), .second, .val (.long q5), .second, .val (.int p6), .val (.int ki), .val (.int ei), .val (.int sp), .val (.int r), .val (.int tt), .val (.int st), .val (.int en), .val (.ref b38), .val (.ref b45), .unset, .unset, .unset, .unset, .unset, .unset, .unset] [(.int t0), (.int 0), (.ref b45)])
    obtain ⟨T47, hp47, X47, e47, W47, Va47, st47⟩ := own_stC X46 hx hZ e46 Va45 (by decide) 0 (by decide) (Nat.le_of_ble_eq_true rfl) (g := (mkF m 240 #[.val (.int p1), .val (.int p2), .val (.int p3), .val (.long q4), .second, .val (.long q5), .second, .val (.int p6), .val (.int ki), .val (.int ei), .val (.int sp), .val (.int r), .val (.int tt), .val (.int st), .val (.int en), .val (.ref b38), .val (.ref b45), .unset, .unset, .unset, .unset, .unset, .unset, .unset] [(.int t0), (.int 0), (.ref b45)])) rfl rfl (hb hby at_240)
    have hk47 := Nat.le_trans hk45 (Keep.of_wr W47).1
    have O47 := own_extw O45 W47 s_b45
    have V_b38_47 := V_b38_45.other W47 (Nat.ne_of_lt lt_b38_b45)
    have Va47 : Arv Z hp47 b45 kk45 .char (3 : Int32) [(.int (nar .char t0)), (.int 0), (.int 0)] (.int 0) := Va47
    have N47 := Fr.snoc X47 N46' g_b45
    refine own_st st47 ?_
    rw [own_narc d0] at Va47
    refine own_st (fun _ k => XS.aload X47.here hx rfl (hb hby at_241) rfl rfl k) ?_
    refine own_st (fun _ k => XS.iconst X47.here hx rfl (hb hby at_243) k) ?_
    refine own_st (fun _ k => XS.iconst X47.here hx rfl (hb hby at_244) k) ?_
    refine own_st (fun _ k => XS.iload X47.here hx rfl (hb hby at_245) rfl k) ?_
    refine own_st (fun _ k => XS.bipush X47.here hx rfl (hb hby at_247) k) ?_
    refine own_st (fun _ k => XS.iushr X47.here hx rfl (hb hby at_249) rfl k) ?_
    refine own_st (fun _ k => XS.iconst X47.here hx rfl (hb hby at_250) k) ?_
    show own_Go _ _ _ _ T47 (mkF m 251 #[.val (.int p1), .val (.int p2), .val (.int p3), .val (.long q4), .second, .val (.long q5), .second, .val (.int p6), .val (.int ki), .val (.int ei), .val (.int sp), .val (.int r), .val (.int tt), .val (.int st), .val (.int en), .val (.ref b38), .val (.ref b45), .unset, .unset, .unset, .unset, .unset, .unset, .unset] [(.int 3), (.int ((p6.toUInt32 >>> ((9 : Int32) &&& 31).toUInt32).toInt32)), (.int 1), (.int 1), (.ref b45)])
    refine own_st (fun _ k => XS.iand X47.here hx rfl (hb hby at_251) rfl k) ?_
    refine own_st (fun _ k => XS.lload X47.here hx rfl (hb hby at_252) rfl k) ?_
    refine own_st (fun _ k => XS.bipush X47.here hx rfl (hb hby at_254) k) ?_
    refine own_st (fun _ k => XS.lushr X47.here hx rfl (hb hby at_256) rfl k) ?_
    refine own_st (X47.ldc2Long hx hown (mvT hZ (own_w1 hw)) (g := (mkF m 257 #[.val (.int p1), .val (.int p2), .val (.int p3), .val (.long q4), .second, .val (.long q5), .second, .val (.int p6), .val (.int ki), .val (.int ei), .val (.int sp), .val (.int r), .val (.int tt), .val (.int st), .val (.int en), .val (.ref b38), .val (.ref b45), .unset, .unset, .unset, .unset, .unset, .unset, .unset] [(.long ((q5.toUInt64 >>> ((8 : Int32) &&& 0x3f).toInt64.toUInt64).toInt64)), (.int (((p6.toUInt32 >>> ((9 : Int32) &&& 31).toUInt32).toInt32) &&& (3 : Int32))), (.int 1), (.int 1), (.ref b45)])) rfl (hb hby at_257)) ?_
    refine own_st (fun _ k => XS.land X47.here hx rfl (hb hby at_260) rfl k) ?_
    refine own_st (fun _ k => XS.l2i X47.here hx rfl (hb hby at_261) rfl k) ?_
    refine own_st (fun _ k => XS.aload X47.here hx rfl (hb hby at_262) rfl rfl k) ?_
    show own_Go _ _ _ _ T47 (mkF m 264 #[.val (.int p1), .val (.int p2), .val (.int p3), .val (.long q4), .second, .val (.long q5), .second, .val (.int p6), .val (.int ki), .val (.int ei), .val (.int sp), .val (.int r), .val (.int tt), .val (.int st), .val (.int en), .val (.ref b38), .val (.ref b45), .unset, .unset, .unset, .unset, .unset, .unset, .unset] [(.ref b38), (.int ((((q5.toUInt64 >>> ((8 : Int32) &&& 0x3f).toInt64.toUInt64).toInt64) &&& (255 : Int64)).toInt32)), (.int (((p6.toUInt32 >>> ((9 : Int32) &&& 31).toUInt32).toInt32) &&& (3 : Int32))), (.int 1), (.int 1), (.ref b45)])
    refine own_st (fun _ k => XS.iload X47.here hx rfl (hb hby at_264) rfl k) ?_
    refine own_st (fun _ k => XS.iload X47.here hx rfl (hb hby at_266) rfl k) ?_
    obtain ⟨v48, T48, L48, hQ48, X48, st48⟩ := own_callS X47 hx hZ (y := (⟨"com/example/isoscope/isoscope/TokenIsPinLaw", "tc", "(III[CII)C"⟩ : MethodName)) hown (own_w2 hw) (own_w3 hw) (own_w4 hw) (own_w5 hw) (by decide) (own_tc l hw [] b38 (1 : Int32) (((p6.toUInt32 >>> ((9 : Int32) &&& 31).toUInt32).toInt32) &&& (3 : Int32)) ((((q5.toUInt64 >>> ((8 : Int32) &&& 0x3f).toInt64.toUInt64).toInt64) &&& (255 : Int64)).toInt32) r st s0 s1 s2 s3 s4 s5 kk38 hp47 n0 (Nat.le_trans Z0 O47.1) (own_lb _) (by omega) gc0 gc1 gc2 gc3 gc4 gc5 V_b38_47) e47 (g := (mkF m 268 #[.val (.int p1), .val (.int p2), .val (.int p3), .val (.long q4), .second, .val (.long q5), .second, .val (.int p6), .val (.int ki), .val (.int ei), .val (.int sp), .val (.int r), .val (.int tt), .val (.int st), .val (.int en), .val (.ref b38), .val (.ref b45), .unset, .unset, .unset, .unset, .unset, .unset, .unset] [(.int st), (.int r), (.ref b38), (.int ((((q5.toUInt64 >>> ((8 : Int32) &&& 0x3f).toInt64.toUInt64).toInt64) &&& (255 : Int64)).toInt32)), (.int (((p6.toUInt32 >>> ((9 : Int32) &&& 31).toUInt32).toInt32) &&& (3 : Int32))), (.int 1), (.int 1), (.ref b45)])) rfl (by rw [hml]; rfl) (argsL := [(.int 1), (.int (((p6.toUInt32 >>> ((9 : Int32) &&& 31).toUInt32).toInt32) &&& (3 : Int32))), (.int ((((q5.toUInt64 >>> ((8 : Int32) &&& 0x3f).toInt64.toUInt64).toInt64) &&& (255 : Int64)).toInt32)), (.ref b38), (.int r), (.int st)]) (rest := [(.int 1), (.ref b45)]) (lenOf own_pd16 rfl) rfl rfl (W := 2) (Nat.le_of_eq rfl) (hb hby at_268) (by decide) (by decide) (by decide) (by decide)
    obtain ⟨t1, rfl, d1, N48, e48⟩ := hQ48
    have N48' := Fr.app N47 N48
    refine own_st st48 ?_
    obtain ⟨T49, hp49, X49, e49, W49, Va49, st49⟩ := own_stC X48 hx hZ e48 Va47 (by decide) 1 (by decide) (Nat.le_of_ble_eq_true rfl) (g := (mkF m 271 #[.val (.int p1), .val (.int p2), .val (.int p3), .val (.long q4), .second, .val (.long q5), .second, .val (.int p6), .val (.int ki), .val (.int ei), .val (.int sp), .val (.int r), .val (.int tt), .val (.int st), .val (.int en), .val (.ref b38), .val (.ref b45), .unset, .unset, .unset, .unset, .unset, .unset, .unset] [(.int t1), (.int 1), (.ref b45)])) rfl rfl (hb hby at_271)
    have hk49 := Nat.le_trans hk47 (Keep.of_wr W49).1
    have O49 := own_extw O47 W49 s_b45
    have V_b38_49 := V_b38_47.other W49 (Nat.ne_of_lt lt_b38_b45)
    have Va49 : Arv Z hp49 b45 kk45 .char (3 : Int32) [(.int t0), (.int (nar .char t1)), (.int 0)] (.int 0) := Va49
    have N49 := Fr.snoc X49 N48' g_b45
    refine own_st st49 ?_
    rw [own_narc d1] at Va49
    refine own_st (fun _ k => XS.aload X49.here hx rfl (hb hby at_272) rfl rfl k) ?_
    refine own_st (fun _ k => XS.iconst X49.here hx rfl (hb hby at_274) k) ?_
    refine own_st (fun _ k => XS.iconst X49.here hx rfl (hb hby at_275) k) ?_
    refine own_st (fun _ k => XS.iload X49.here hx rfl (hb hby at_276) rfl k) ?_
    show own_Go _ _ _ _ T49 (mkF m 278 #[.val (.int p1), .val (.int p2), .val (.int p3), .val (.long q4), .second, .val (.long q5), .second, .val (.int p6), .val (.int ki), .val (.int ei), .val (.int sp), .val (.int r), .val (.int tt), .val (.int st), .val (.int en), .val (.ref b38), .val (.ref b45), .unset, .unset, .unset, .unset, .unset, .unset, .unset] [(.int p6), (.int 2), (.int 2), (.ref b45)])
    refine own_st (fun _ k => XS.bipush X49.here hx rfl (hb hby at_278) k) ?_
    refine own_st (fun _ k => XS.iushr X49.here hx rfl (hb hby at_280) rfl k) ?_
    refine own_st (fun _ k => XS.iconst X49.here hx rfl (hb hby at_281) k) ?_
    refine own_st (fun _ k => XS.iand X49.here hx rfl (hb hby at_282) rfl k) ?_
    refine own_st (fun _ k => XS.lload X49.here hx rfl (hb hby at_283) rfl k) ?_
    refine own_st (fun _ k => XS.bipush X49.here hx rfl (hb hby at_285) k) ?_
    refine own_st (fun _ k => XS.lushr X49.here hx rfl (hb hby at_287) rfl k) ?_
    refine own_st (X49.ldc2Long hx hown (mvT hZ (own_w1 hw)) (g := (mkF m 288 #[.val (.int p1), .val (.int p2), .val (.int p3), .val (.long q4), .second, .val (.long q5), .second, .val (.int p6), .val (.int ki), .val (.int ei), .val (.int sp), .val (.int r), .val (.int tt), .val (.int st), .val (.int en), .val (.ref b38), .val (.ref b45), .unset, .unset, .unset, .unset, .unset, .unset, .unset] [(.long ((q5.toUInt64 >>> ((16 : Int32) &&& 0x3f).toInt64.toUInt64).toInt64)), (.int (((p6.toUInt32 >>> ((11 : Int32) &&& 31).toUInt32).toInt32) &&& (3 : Int32))), (.int 2), (.int 2), (.ref b45)])) rfl (hb hby at_288)) ?_
    show own_Go _ _ _ _ T49 (mkF m 291 #[.val (.int p1), .val (.int p2), .val (.int p3), .val (.long q4), .second, .val (.long q5), .second, .val (.int p6), .val (.int ki), .val (.int ei), .val (.int sp), .val (.int r), .val (.int tt), .val (.int st), .val (.int en), .val (.ref b38), .val (.ref b45), .unset, .unset, .unset, .unset, .unset, .unset, .unset] [(.long (255 : Int64)), (.long ((q5.toUInt64 >>> ((16 : Int32) &&& 0x3f).toInt64.toUInt64).toInt64)), (.int (((p6.toUInt32 >>> ((11 : Int32) &&& 31).toUInt32).toInt32) &&& (3 : Int32))), (.int 2), (.int 2), (.ref b45)])
    refine own_st (fun _ k => XS.land X49.here hx rfl (hb hby at_291) rfl k) ?_
    refine own_st (fun _ k => XS.l2i X49.here hx rfl (hb hby at_292) rfl k) ?_
    refine own_st (fun _ k => XS.aload X49.here hx rfl (hb hby at_293) rfl rfl k) ?_
    refine own_st (fun _ k => XS.iload X49.here hx rfl (hb hby at_295) rfl k) ?_
    refine own_st (fun _ k => XS.iload X49.here hx rfl (hb hby at_297) rfl k) ?_
    obtain ⟨v50, T50, L50, hQ50, X50, st50⟩ := own_callS X49 hx hZ (y := (⟨"com/example/isoscope/isoscope/TokenIsPinLaw", "tc", "(III[CII)C"⟩ : MethodName)) hown (own_w2 hw) (own_w3 hw) (own_w4 hw) (own_w5 hw) (by decide) (own_tc l hw [] b38 (2 : Int32) (((p6.toUInt32 >>> ((11 : Int32) &&& 31).toUInt32).toInt32) &&& (3 : Int32)) ((((q5.toUInt64 >>> ((16 : Int32) &&& 0x3f).toInt64.toUInt64).toInt64) &&& (255 : Int64)).toInt32) r st s0 s1 s2 s3 s4 s5 kk38 hp49 n0 (Nat.le_trans Z0 O49.1) (own_lb _) (by omega) gc0 gc1 gc2 gc3 gc4 gc5 V_b38_49) e49 (g := (mkF m 299 #[.val (.int p1), .val (.int p2), .val (.int p3), .val (.long q4), .second, .val (.long q5), .second, .val (.int p6), .val (.int ki), .val (.int ei), .val (.int sp), .val (.int r), .val (.int tt), .val (.int st), .val (.int en), .val (.ref b38), .val (.ref b45), .unset, .unset, .unset, .unset, .unset, .unset, .unset] [(.int st), (.int r), (.ref b38), (.int ((((q5.toUInt64 >>> ((16 : Int32) &&& 0x3f).toInt64.toUInt64).toInt64) &&& (255 : Int64)).toInt32)), (.int (((p6.toUInt32 >>> ((11 : Int32) &&& 31).toUInt32).toInt32) &&& (3 : Int32))), (.int 2), (.int 2), (.ref b45)])) rfl (by rw [hml]; rfl) (argsL := [(.int 2), (.int (((p6.toUInt32 >>> ((11 : Int32) &&& 31).toUInt32).toInt32) &&& (3 : Int32))), (.int ((((q5.toUInt64 >>> ((16 : Int32) &&& 0x3f).toInt64.toUInt64).toInt64) &&& (255 : Int64)).toInt32)), (.ref b38), (.int r), (.int st)]) (rest := [(.int 2), (.ref b45)]) (lenOf own_pd16 rfl) rfl rfl (W := 2) (Nat.le_of_eq rfl) (hb hby at_299) (by decide) (by decide) (by decide) (by decide)
    obtain ⟨t2, rfl, d2, N50, e50⟩ := hQ50
    have N50' := Fr.app N49 N50
    refine own_st st50 ?_
    obtain ⟨T51, hp51, X51, e51, W51, Va51, st51⟩ := own_stC X50 hx hZ e50 Va49 (by decide) 2 (by decide) (Nat.le_of_ble_eq_true rfl) (g := (mkF m 302 #[.val (.int p1), .val (.int p2), .val (.int p3), .val (.long q4), .second, .val (.long q5), .second, .val (.int p6), .val (.int ki), .val (.int ei), .val (.int sp), .val (.int r), .val (.int tt), .val (.int st), .val (.int en), .val (.ref b38), .val (.ref b45), .unset, .unset, .unset, .unset, .unset, .unset, .unset] [(.int t2), (.int 2), (.ref b45)])) rfl rfl (hb hby at_302)
    have hk51 := Nat.le_trans hk49 (Keep.of_wr W51).1
    have O51 := own_extw O49 W51 s_b45
    have V_b38_51 := V_b38_49.other W51 (Nat.ne_of_lt lt_b38_b45)
    have Va51 : Arv Z hp51 b45 kk45 .char (3 : Int32) [(.int t0), (.int t1), (.int (nar .char t2))] (.int 0) := Va51
    have N51 := Fr.snoc X51 N50' g_b45
    refine own_st st51 ?_
    rw [own_narc d2] at Va51
    show own_Go _ _ _ _ T51 (mkF m 303 #[.val (.int p1), .val (.int p2), .val (.int p3), .val (.long q4), .second, .val (.long q5), .second, .val (.int p6), .val (.int ki), .val (.int ei), .val (.int sp), .val (.int r), .val (.int tt), .val (.int st), .val (.int en), .val (.ref b38), .val (.ref b45), .unset, .unset, .unset, .unset, .unset, .unset, .unset] [])
    rcases own_rg6 r hr.1 hr.2 with rfl | rfl | rfl | rfl | rfl | rfl
    · show own_Go _ _ _ _ T51 (mkF m 303 #[.val (.int p1), .val (.int p2), .val (.int p3), .val (.long q4), .second, .val (.long q5), .second, .val (.int p6), .val (.int ki), .val (.int ei), .val (.int sp), .val (.int 0), .val (.int tt), .val (.int st), .val (.int en), .val (.ref b38), .val (.ref b45), .unset, .unset, .unset, .unset, .unset, .unset, .unset] [])
      refine own_st (fun _ k => XS.aload X51.here hx rfl (hb hby at_303) rfl rfl k) ?_
      refine own_st (fun _ k => XS.iload X51.here hx rfl (hb hby at_305) rfl k) ?_
      obtain ⟨v52, T52, L52, hQ52, X52, hS, hZ, hown, st52⟩ := own_callSW (J := fun vm => IB Z vm []) X51 hS (by rw [e51]; exact hk51) hx hZ (y := (⟨"com/example/isoscope/isoscope/TokenIsPinLaw", "prefix", "([CI)Ljava/lang/String;"⟩ : MethodName)) hown (own_w6 hw) (own_w7 hw) (own_w4 hw) (own_w8 hw) (by decide) (own_pf0 l hw [] b38 (0 : Int32) hp51 n0 (Nat.le_trans Z0 O51.1) rfl hh hcw (own_extt OZ O51)) (fun vm q => own_ibw hJ q) e51 (g := (mkF m 307 #[.val (.int p1), .val (.int p2), .val (.int p3), .val (.long q4), .second, .val (.long q5), .second, .val (.int p6), .val (.int ki), .val (.int ei), .val (.int sp), .val (.int 0), .val (.int tt), .val (.int st), .val (.int en), .val (.ref b38), .val (.ref b45), .unset, .unset, .unset, .unset, .unset, .unset, .unset] [(.int 0), (.ref b38)])) rfl (by rw [hml]; rfl) (argsL := [(.ref b38), (.int 0)]) (rest := []) (lenOf own_pd15 rfl) rfl rfl (W := 0) (Nat.le_of_eq rfl) (hb hby at_307) (by decide) (by decide) (by decide) (by decide)
      obtain ⟨u1, v1, k1, sa1, rfl, N52, Et52, sb1, Eu1, Fv1, Fc1, Vu1, hL1, Gsv, Gsc⟩ := hQ52
      have hk52 : T52.heap.size ≤ T52.heap.size := Nat.le_refl _
      have O52 := own_extt O51 Et52
      have V_b38_52 := V_b38_51.ext Et52
      have V_b45_52 := Va51.ext Et52
      have N52' := Fr.app N51 N52
      refine own_st st52 ?_
      refine own_st (fun _ k => XS.astore X52.here hx rfl (hb hby at_310) rfl rfl (l' := #[.val (.int p1), .val (.int p2), .val (.int p3), .val (.long q4), .second, .val (.long q5), .second, .val (.int p6), .val (.int ki), .val (.int ei), .val (.int sp), .val (.int 0), .val (.int tt), .val (.int st), .val (.int en), .val (.ref b38), .val (.ref b45), .val (.ref u1), .unset, .unset, .unset, .unset, .unset, .unset]) rfl k) ?_
      exact tl2 _ _ _ _ _ X52 N52' rfl O52 hS hk52 hZ hown _ _ _ _ _ _ _ htt hki hei (by decide) _ _ _ _ _ _ _ _ _ _ _ _ _ gc0 gc1 gc2 gc3 gc4 gc5 d0 d1 d2 V_b38_52 V_b45_52 _ _ _ _ Eu1 Fv1 Fc1 Vu1 (fun j j0 j1 => own_hb0 s0 s1 s2 s3 s4 s5 j j0 j1) (Or.inr ⟨sa1, v1, k1, hL1, Gsv, Gsc, Vu1⟩)
    · show own_Go _ _ _ _ T51 (mkF m 303 #[.val (.int p1), .val (.int p2), .val (.int p3), .val (.long q4), .second, .val (.long q5), .second, .val (.int p6), .val (.int ki), .val (.int ei), .val (.int sp), .val (.int 1), .val (.int tt), .val (.int st), .val (.int en), .val (.ref b38), .val (.ref b45), .unset, .unset, .unset, .unset, .unset, .unset, .unset] [])
      refine own_st (fun _ k => XS.aload X51.here hx rfl (hb hby at_303) rfl rfl k) ?_
      refine own_st (fun _ k => XS.iload X51.here hx rfl (hb hby at_305) rfl k) ?_
      obtain ⟨v53, T53, L53, hQ53, X53, st53⟩ := own_callS X51 hx hZ (y := (⟨"com/example/isoscope/isoscope/TokenIsPinLaw", "prefix", "([CI)Ljava/lang/String;"⟩ : MethodName)) hown (own_w6 hw) (own_w7 hw) (own_w4 hw) (own_w8 hw) (by decide) (own_pf1 l hw [] b38 (1 : Int32) cs 6 kk38 [(.int s0), (.int s1), (.int s2), (.int s3), (.int s4), (.int s5)] s0 hp51 n0 (Nat.le_trans Z0 O51.1) rfl gc0 (Scs.ext O51) hcs V_b38_51 (by decide) rfl) e51 (g := (mkF m 307 #[.val (.int p1), .val (.int p2), .val (.int p3), .val (.long q4), .second, .val (.long q5), .second, .val (.int p6), .val (.int ki), .val (.int ei), .val (.int sp), .val (.int 1), .val (.int tt), .val (.int st), .val (.int en), .val (.ref b38), .val (.ref b45), .unset, .unset, .unset, .unset, .unset, .unset, .unset] [(.int 1), (.ref b38)])) rfl (by rw [hml]; rfl) (argsL := [(.ref b38), (.int 1)]) (rest := []) (lenOf own_pd15 rfl) rfl rfl (W := 0) (Nat.le_of_eq rfl) (hb hby at_307) (by decide) (by decide) (by decide) (by decide)
      obtain ⟨u1, v1, k1, rfl, N53, Et53, sb1, Eu1, Fv1, Fc1, Vu1⟩ := hQ53
      have hk53 := Nat.le_trans hk51 Et53.1
      have O53 := own_extt O51 Et53
      have V_b38_53 := V_b38_51.ext Et53
      have V_b45_53 := Va51.ext Et53
      have N53' := Fr.app N51 N53
      refine own_st st53 ?_
      refine own_st (fun _ k => XS.astore X53.here hx rfl (hb hby at_310) rfl rfl (l' := #[.val (.int p1), .val (.int p2), .val (.int p3), .val (.long q4), .second, .val (.long q5), .second, .val (.int p6), .val (.int ki), .val (.int ei), .val (.int sp), .val (.int 1), .val (.int tt), .val (.int st), .val (.int en), .val (.ref b38), .val (.ref b45), .val (.ref u1), .unset, .unset, .unset, .unset, .unset, .unset]) rfl k) ?_
      exact tl2 _ _ _ _ _ X53 N53' rfl O53 hS hk53 hZ hown _ _ _ _ _ _ _ htt hki hei (by decide) _ _ _ _ _ _ _ _ _ _ _ _ _ gc0 gc1 gc2 gc3 gc4 gc5 d0 d1 d2 V_b38_53 V_b45_53 _ _ _ _ Eu1 Fv1 Fc1 Vu1 (fun j j0 j1 => own_hb1 s0 s1 s2 s3 s4 s5 j j0 j1) (Or.inl hJ)
    · show own_Go _ _ _ _ T51 (mkF m 303 #[.val (.int p1), .val (.int p2), .val (.int p3), .val (.long q4), .second, .val (.long q5), .second, .val (.int p6), .val (.int ki), .val (.int ei), .val (.int sp), .val (.int 2), .val (.int tt), .val (.int st), .val (.int en), .val (.ref b38), .val (.ref b45), .unset, .unset, .unset, .unset, .unset, .unset, .unset] [])
      refine own_st (fun _ k => XS.aload X51.here hx rfl (hb hby at_303) rfl rfl k) ?_
      refine own_st (fun _ k => XS.iload X51.here hx rfl (hb hby at_305) rfl k) ?_
      obtain ⟨v54, T54, L54, hQ54, X54, st54⟩ := own_callS X51 hx hZ (y := (⟨"com/example/isoscope/isoscope/TokenIsPinLaw", "prefix", "([CI)Ljava/lang/String;"⟩ : MethodName)) hown (own_w6 hw) (own_w7 hw) (own_w4 hw) (own_w8 hw) (by decide) (own_pf2 l hw [] b38 (2 : Int32) cs 6 kk38 [(.int s0), (.int s1), (.int s2), (.int s3), (.int s4), (.int s5)] s0 s1 hp51 n0 (Nat.le_trans Z0 O51.1) rfl gc0 gc1 (Scs.ext O51) hcs V_b38_51 (by decide) (by decide) rfl rfl) e51 (g := (mkF m 307 #[.val (.int p1), .val (.int p2), .val (.int p3), .val (.long q4), .second, .val (.long q5), .second, .val (.int p6), .val (.int ki), .val (.int ei), .val (.int sp), .val (.int 2), .val (.int tt), .val (.int st), .val (.int en), .val (.ref b38), .val (.ref b45), .unset, .unset, .unset, .unset, .unset, .unset, .unset] [(.int 2), (.ref b38)])) rfl (by rw [hml]; rfl) (argsL := [(.ref b38), (.int 2)]) (rest := []) (lenOf own_pd15 rfl) rfl rfl (W := 0) (Nat.le_of_eq rfl) (hb hby at_307) (by decide) (by decide) (by decide) (by decide)
      obtain ⟨u1, v1, k1, rfl, N54, Et54, sb1, Eu1, Fv1, Fc1, Vu1⟩ := hQ54
      have hk54 := Nat.le_trans hk51 Et54.1
      have O54 := own_extt O51 Et54
      have V_b38_54 := V_b38_51.ext Et54
      have V_b45_54 := Va51.ext Et54
      have N54' := Fr.app N51 N54
      refine own_st st54 ?_
      refine own_st (fun _ k => XS.astore X54.here hx rfl (hb hby at_310) rfl rfl (l' := #[.val (.int p1), .val (.int p2), .val (.int p3), .val (.long q4), .second, .val (.long q5), .second, .val (.int p6), .val (.int ki), .val (.int ei), .val (.int sp), .val (.int 2), .val (.int tt), .val (.int st), .val (.int en), .val (.ref b38), .val (.ref b45), .val (.ref u1), .unset, .unset, .unset, .unset, .unset, .unset]) rfl k) ?_
      exact tl2 _ _ _ _ _ X54 N54' rfl O54 hS hk54 hZ hown _ _ _ _ _ _ _ htt hki hei (by decide) _ _ _ _ _ _ _ _ _ _ _ _ _ gc0 gc1 gc2 gc3 gc4 gc5 d0 d1 d2 V_b38_54 V_b45_54 _ _ _ _ Eu1 Fv1 Fc1 Vu1 (fun j j0 j1 => own_hb2 s0 s1 s2 s3 s4 s5 j j0 j1) (Or.inl hJ)
    · show own_Go _ _ _ _ T51 (mkF m 303 #[.val (.int p1), .val (.int p2), .val (.int p3), .val (.long q4), .second, .val (.long q5), .second, .val (.int p6), .val (.int ki), .val (.int ei), .val (.int sp), .val (.int 3), .val (.int tt), .val (.int st), .val (.int en), .val (.ref b38), .val (.ref b45), .unset, .unset, .unset, .unset, .unset, .unset, .unset] [])
      refine own_st (fun _ k => XS.aload X51.here hx rfl (hb hby at_303) rfl rfl k) ?_
      refine own_st (fun _ k => XS.iload X51.here hx rfl (hb hby at_305) rfl k) ?_
      obtain ⟨v55, T55, L55, hQ55, X55, st55⟩ := own_callS X51 hx hZ (y := (⟨"com/example/isoscope/isoscope/TokenIsPinLaw", "prefix", "([CI)Ljava/lang/String;"⟩ : MethodName)) hown (own_w6 hw) (own_w7 hw) (own_w4 hw) (own_w8 hw) (by decide) (own_pf3 l hw [] b38 (3 : Int32) cs 6 kk38 [(.int s0), (.int s1), (.int s2), (.int s3), (.int s4), (.int s5)] s0 s1 s2 hp51 n0 (Nat.le_trans Z0 O51.1) rfl gc0 gc1 gc2 (Scs.ext O51) hcs V_b38_51 (by decide) (by decide) (by decide) rfl rfl rfl) e51 (g := (mkF m 307 #[.val (.int p1), .val (.int p2), .val (.int p3), .val (.long q4), .second, .val (.long q5), .second, .val (.int p6), .val (.int ki), .val (.int ei), .val (.int sp), .val (.int 3), .val (.int tt), .val (.int st), .val (.int en), .val (.ref b38), .val (.ref b45), .unset, .unset, .unset, .unset, .unset, .unset, .unset] [(.int 3), (.ref b38)])) rfl (by rw [hml]; rfl) (argsL := [(.ref b38), (.int 3)]) (rest := []) (lenOf own_pd15 rfl) rfl rfl (W := 0) (Nat.le_of_eq rfl) (hb hby at_307) (by decide) (by decide) (by decide) (by decide)
      obtain ⟨u1, v1, k1, rfl, N55, Et55, sb1, Eu1, Fv1, Fc1, Vu1⟩ := hQ55
      have hk55 := Nat.le_trans hk51 Et55.1
      have O55 := own_extt O51 Et55
      have V_b38_55 := V_b38_51.ext Et55
      have V_b45_55 := Va51.ext Et55
      have N55' := Fr.app N51 N55
      refine own_st st55 ?_
      refine own_st (fun _ k => XS.astore X55.here hx rfl (hb hby at_310) rfl rfl (l' := #[.val (.int p1), .val (.int p2), .val (.int p3), .val (.long q4), .second, .val (.long q5), .second, .val (.int p6), .val (.int ki), .val (.int ei), .val (.int sp), .val (.int 3), .val (.int tt), .val (.int st), .val (.int en), .val (.ref b38), .val (.ref b45), .val (.ref u1), .unset, .unset, .unset, .unset, .unset, .unset]) rfl k) ?_
      exact tl2 _ _ _ _ _ X55 N55' rfl O55 hS hk55 hZ hown _ _ _ _ _ _ _ htt hki hei (by decide) _ _ _ _ _ _ _ _ _ _ _ _ _ gc0 gc1 gc2 gc3 gc4 gc5 d0 d1 d2 V_b38_55 V_b45_55 _ _ _ _ Eu1 Fv1 Fc1 Vu1 (fun j j0 j1 => own_hb3 s0 s1 s2 s3 s4 s5 j j0 j1) (Or.inl hJ)
    · show own_Go _ _ _ _ T51 (mkF m 303 #[.val (.int p1), .val (.int p2), .val (.int p3), .val (.long q4), .second, .val (.long q5), .second, .val (.int p6), .val (.int ki), .val (.int ei), .val (.int sp), .val (.int 4), .val (.int tt), .val (.int st), .val (.int en), .val (.ref b38), .val (.ref b45), .unset, .unset, .unset, .unset, .unset, .unset, .unset] [])
      refine own_st (fun _ k => XS.aload X51.here hx rfl (hb hby at_303) rfl rfl k) ?_
      refine own_st (fun _ k => XS.iload X51.here hx rfl (hb hby at_305) rfl k) ?_
      obtain ⟨v56, T56, L56, hQ56, X56, st56⟩ := own_callS X51 hx hZ (y := (⟨"com/example/isoscope/isoscope/TokenIsPinLaw", "prefix", "([CI)Ljava/lang/String;"⟩ : MethodName)) hown (own_w6 hw) (own_w7 hw) (own_w4 hw) (own_w8 hw) (by decide) (own_pf4 l hw [] b38 (4 : Int32) cs 6 kk38 [(.int s0), (.int s1), (.int s2), (.int s3), (.int s4), (.int s5)] s0 s1 s2 s3 hp51 n0 (Nat.le_trans Z0 O51.1) rfl gc0 gc1 gc2 gc3 (Scs.ext O51) hcs V_b38_51 (by decide) (by decide) (by decide) (by decide) rfl rfl rfl rfl) e51 (g := (mkF m 307 #[.val (.int p1), .val (.int p2), .val (.int p3), .val (.long q4), .second, .val (.long q5), .second, .val (.int p6), .val (.int ki), .val (.int ei), .val (.int sp), .val (.int 4), .val (.int tt), .val (.int st), .val (.int en), .val (.ref b38), .val (.ref b45), .unset, .unset, .unset, .unset, .unset, .unset, .unset] [(.int 4), (.ref b38)])) rfl (by rw [hml]; rfl) (argsL := [(.ref b38), (.int 4)]) (rest := []) (lenOf own_pd15 rfl) rfl rfl (W := 0) (Nat.le_of_eq rfl) (hb hby at_307) (by decide) (by decide) (by decide) (by decide)
      obtain ⟨u1, v1, k1, rfl, N56, Et56, sb1, Eu1, Fv1, Fc1, Vu1⟩ := hQ56
      have hk56 := Nat.le_trans hk51 Et56.1
      have O56 := own_extt O51 Et56
      have V_b38_56 := V_b38_51.ext Et56
      have V_b45_56 := Va51.ext Et56
      have N56' := Fr.app N51 N56
      refine own_st st56 ?_
      refine own_st (fun _ k => XS.astore X56.here hx rfl (hb hby at_310) rfl rfl (l' := #[.val (.int p1), .val (.int p2), .val (.int p3), .val (.long q4), .second, .val (.long q5), .second, .val (.int p6), .val (.int ki), .val (.int ei), .val (.int sp), .val (.int 4), .val (.int tt), .val (.int st), .val (.int en), .val (.ref b38), .val (.ref b45), .val (.ref u1), .unset, .unset, .unset, .unset, .unset, .unset]) rfl k) ?_
      exact tl2 _ _ _ _ _ X56 N56' rfl O56 hS hk56 hZ hown _ _ _ _ _ _ _ htt hki hei (by decide) _ _ _ _ _ _ _ _ _ _ _ _ _ gc0 gc1 gc2 gc3 gc4 gc5 d0 d1 d2 V_b38_56 V_b45_56 _ _ _ _ Eu1 Fv1 Fc1 Vu1 (fun j j0 j1 => own_hb4 s0 s1 s2 s3 s4 s5 j j0 j1) (Or.inl hJ)
    · show own_Go _ _ _ _ T51 (mkF m 303 #[.val (.int p1), .val (.int p2), .val (.int p3), .val (.long q4), .second, .val (.long q5), .second, .val (.int p6), .val (.int ki), .val (.int ei), .val (.int sp), .val (.int 5), .val (.int tt), .val (.int st), .val (.int en), .val (.ref b38), .val (.ref b45), .unset, .unset, .unset, .unset, .unset, .unset, .unset] [])
      refine own_st (fun _ k => XS.aload X51.here hx rfl (hb hby at_303) rfl rfl k) ?_
      refine own_st (fun _ k => XS.iload X51.here hx rfl (hb hby at_305) rfl k) ?_
      obtain ⟨v57, T57, L57, hQ57, X57, st57⟩ := own_callS X51 hx hZ (y := (⟨"com/example/isoscope/isoscope/TokenIsPinLaw", "prefix", "([CI)Ljava/lang/String;"⟩ : MethodName)) hown (own_w6 hw) (own_w7 hw) (own_w4 hw) (own_w8 hw) (by decide) (own_pf5 l hw [] b38 (5 : Int32) cs 6 kk38 [(.int s0), (.int s1), (.int s2), (.int s3), (.int s4), (.int s5)] s0 s1 s2 s3 s4 hp51 n0 (Nat.le_trans Z0 O51.1) rfl gc0 gc1 gc2 gc3 gc4 (Scs.ext O51) hcs V_b38_51 (by decide) (by decide) (by decide) (by decide) (by decide) rfl rfl rfl rfl rfl) e51 (g := (mkF m 307 #[.val (.int p1), .val (.int p2), .val (.int p3), .val (.long q4), .second, .val (.long q5), .second, .val (.int p6), .val (.int ki), .val (.int ei), .val (.int sp), .val (.int 5), .val (.int tt), .val (.int st), .val (.int en), .val (.ref b38), .val (.ref b45), .unset, .unset, .unset, .unset, .unset, .unset, .unset] [(.int 5), (.ref b38)])) rfl (by rw [hml]; rfl) (argsL := [(.ref b38), (.int 5)]) (rest := []) (lenOf own_pd15 rfl) rfl rfl (W := 0) (Nat.le_of_eq rfl) (hb hby at_307) (by decide) (by decide) (by decide) (by decide)
      obtain ⟨u1, v1, k1, rfl, N57, Et57, sb1, Eu1, Fv1, Fc1, Vu1⟩ := hQ57
      have hk57 := Nat.le_trans hk51 Et57.1
      have O57 := own_extt O51 Et57
      have V_b38_57 := V_b38_51.ext Et57
      have V_b45_57 := Va51.ext Et57
      have N57' := Fr.app N51 N57
      refine own_st st57 ?_
      refine own_st (fun _ k => XS.astore X57.here hx rfl (hb hby at_310) rfl rfl (l' := #[.val (.int p1), .val (.int p2), .val (.int p3), .val (.long q4), .second, .val (.long q5), .second, .val (.int p6), .val (.int ki), .val (.int ei), .val (.int sp), .val (.int 5), .val (.int tt), .val (.int st), .val (.int en), .val (.ref b38), .val (.ref b45), .val (.ref u1), .unset, .unset, .unset, .unset, .unset, .unset]) rfl k) ?_
      exact tl2 _ _ _ _ _ X57 N57' rfl O57 hS hk57 hZ hown _ _ _ _ _ _ _ htt hki hei (by decide) _ _ _ _ _ _ _ _ _ _ _ _ _ gc0 gc1 gc2 gc3 gc4 gc5 d0 d1 d2 V_b38_57 V_b45_57 _ _ _ _ Eu1 Fv1 Fc1 Vu1 (fun j j0 j1 => own_hb5 s0 s1 s2 s3 s4 s5 j j0 j1) (Or.inl hJ)
  have t96 : ∀ (Tt : State) (lt : List Loc) (ht : Heap) (Xt : Stand p l e room_1 (s.setVm s.vm) m #[(.int p1), (.int p2), (.int p3), (.long q4), (.long q5), (.int p6)] below meth c Tt lt 0 0) (Nt : Fr n0 lt) (et : Tt.heap = ht) (Ot : Ext h0 ht) (ki ei sp r tt st : Int32) (htt : 0 ≤ tt.toInt ∧ tt.toInt < 4) (hki : 0 ≤ ki.toInt ∧ ki.toInt < 9) (hei : 0 ≤ ei.toInt ∧ ei.toInt < 9) (hr : 0 ≤ r.toInt ∧ r.toInt < 6), own_Go p.tables e below (own_FW below s (own_law_Q Z p1 p2 p3 q4 q5 p6 w0 w1 w2 w3 w4 w5 w6 w7 w8 cs h0 n0) 32 1216) Tt (mkF m 96 #[.val (.int p1), .val (.int p2), .val (.int p3), .val (.long q4), .second, .val (.long q5), .second, .val (.int p6), .val (.int ki), .val (.int ei), .val (.int sp), .val (.int r), .val (.int tt), .val (.int st), .unset, .unset, .unset, .unset, .unset, .unset, .unset, .unset, .unset, .unset] []) := by
    intro Tt lt ht Xt Nt et Ot ki ei sp r tt st htt hki hei hr
    have hkt := Nat.le_trans hk0 Ot.1
    refine own_st (fun _ k => XS.iload Xt.here hx rfl (hb hby at_96) rfl k) ?_
    refine own_st (fun _ k => XS.bipush Xt.here hx rfl (hb hby at_98) k) ?_
    refine own_st (fun _ k => XS.iushr Xt.here hx rfl (hb hby at_100) rfl k) ?_
    refine own_st (fun _ k => XS.iconst Xt.here hx rfl (hb hby at_101) k) ?_
    refine own_st (fun _ k => XS.iand Xt.here hx rfl (hb hby at_102) rfl k) ?_
    by_cases he : (((p6.toUInt32 >>> ((6 : Int32) &&& 31).toUInt32).toInt32) &&& (1 : Int32)) = (0 : Int32)
    · refine own_st (fun _ k => XS.ifYes Xt.here hx rfl (pc0 := 103) (pc' := 110) rfl (hb hby at_103) rfl ((if0 _ _).trans (teq (he : (((p6.toUInt32 >>> ((6 : Int32) &&& 31).toUInt32).toInt32) &&& (1 : Int32)) = (0 : Int32))).1) (by decide) (by decide) k) ?_
      refine own_st (fun _ k => XS.iload Xt.here hx rfl (hb hby at_110) rfl k) ?_
      refine own_st (fun _ k => XS.iloadN Xt.here hx rfl (hb hby at_112) rfl k) ?_
      show own_Go _ _ _ _ Tt (mkF m 113 #[.val (.int p1), .val (.int p2), .val (.int p3), .val (.long q4), .second, .val (.long q5), .second, .val (.int p6), .val (.int ki), .val (.int ei), .val (.int sp), .val (.int r), .val (.int tt), .val (.int st), .unset, .unset, .unset, .unset, .unset, .unset, .unset, .unset, .unset, .unset] [(.int p3), (.int st)])
      refine own_st (fun _ k => XS.bipush Xt.here hx rfl (hb hby at_113) k) ?_
      refine own_st (fun _ k => XS.iand Xt.here hx rfl (hb hby at_115) rfl k) ?_
      refine own_st (fun _ k => XS.iconst Xt.here hx rfl (hb hby at_116) k) ?_
      refine own_st (fun _ k => XS.isub Xt.here hx rfl (hb hby at_117) rfl k) ?_
      refine own_st (fun _ k => XS.iadd Xt.here hx rfl (hb hby at_118) rfl k) ?_
      refine own_st (fun _ k => XS.istore Xt.here hx rfl (hb hby at_119) rfl (l' := #[.val (.int p1), .val (.int p2), .val (.int p3), .val (.long q4), .second, .val (.long q5), .second, .val (.int p6), .val (.int ki), .val (.int ei), .val (.int sp), .val (.int r), .val (.int tt), .val (.int st), .val (.int (st + ((p3 &&& (7 : Int32)) - (2 : Int32)))), .unset, .unset, .unset, .unset, .unset, .unset, .unset, .unset, .unset]) rfl k) ?_
      exact t121 _ _ _ Xt Nt et Ot _ _ _ _ _ _ _ htt hki hei hr
    · refine own_st (fun _ k => XS.ifNo Xt.here hx rfl (hb hby at_103) rfl ((if0 _ _).trans (feq (he : ¬ ((((p6.toUInt32 >>> ((6 : Int32) &&& 31).toUInt32).toInt32) &&& (1 : Int32)) = (0 : Int32)))).1) k) ?_
      refine own_st (fun _ k => XS.iloadN Xt.here hx rfl (hb hby at_106) rfl k) ?_
      refine own_st (fun _ k => XS.goto Xt.here hx rfl (pc0 := 107) (pc' := 119) rfl (hb hby at_107) (by decide) (by decide) k) ?_
      show own_Go _ _ _ _ Tt (mkF m 119 #[.val (.int p1), .val (.int p2), .val (.int p3), .val (.long q4), .second, .val (.long q5), .second, .val (.int p6), .val (.int ki), .val (.int ei), .val (.int sp), .val (.int r), .val (.int tt), .val (.int st), .unset, .unset, .unset, .unset, .unset, .unset, .unset, .unset, .unset, .unset] [(.int p3)])
      refine own_st (fun _ k => XS.istore Xt.here hx rfl (hb hby at_119) rfl (l' := #[.val (.int p1), .val (.int p2), .val (.int p3), .val (.long q4), .second, .val (.long q5), .second, .val (.int p6), .val (.int ki), .val (.int ei), .val (.int sp), .val (.int r), .val (.int tt), .val (.int st), .val (.int p3), .unset, .unset, .unset, .unset, .unset, .unset, .unset, .unset, .unset]) rfl k) ?_
      exact t121 _ _ _ Xt Nt et Ot _ _ _ _ _ _ _ htt hki hei hr
  have t48 : ∀ (Tt : State) (lt : List Loc) (ht : Heap) (Xt : Stand p l e room_1 (s.setVm s.vm) m #[(.int p1), (.int p2), (.int p3), (.long q4), (.long q5), (.int p6)] below meth c Tt lt 0 0) (Nt : Fr n0 lt) (et : Tt.heap = ht) (Ot : Ext h0 ht) (ki ei sp : Int32) (hki : 0 ≤ ki.toInt ∧ ki.toInt < 9) (hei : 0 ≤ ei.toInt ∧ ei.toInt < 9), own_Go p.tables e below (own_FW below s (own_law_Q Z p1 p2 p3 q4 q5 p6 w0 w1 w2 w3 w4 w5 w6 w7 w8 cs h0 n0) 32 1216) Tt (mkF m 48 #[.val (.int p1), .val (.int p2), .val (.int p3), .val (.long q4), .second, .val (.long q5), .second, .val (.int p6), .val (.int ki), .val (.int ei), .val (.int sp), .unset, .unset, .unset, .unset, .unset, .unset, .unset, .unset, .unset, .unset, .unset, .unset, .unset] []) := by
    intro Tt lt ht Xt Nt et Ot ki ei sp hki hei
    have hkt := Nat.le_trans hk0 Ot.1
    refine own_st (fun _ k => XS.iload Xt.here hx rfl (hb hby at_48) rfl k) ?_
    refine own_st (fun _ k => XS.bipush Xt.here hx rfl (hb hby at_50) k) ?_
    refine own_st (fun _ k => XS.iand Xt.here hx rfl (hb hby at_52) rfl k) ?_
    refine own_st (fun _ k => XS.bipush Xt.here hx rfl (hb hby at_53) k) ?_
    refine own_st (fun _ k => iremM Xt hx rfl (hb hby at_55) rfl (by decide) k) ?_
    refine own_st (fun _ k => XS.istore Xt.here hx rfl (hb hby at_56) rfl (l' := #[.val (.int p1), .val (.int p2), .val (.int p3), .val (.long q4), .second, .val (.long q5), .second, .val (.int p6), .val (.int ki), .val (.int ei), .val (.int sp), .val (.int ((p6 &&& (7 : Int32)) % (6 : Int32))), .unset, .unset, .unset, .unset, .unset, .unset, .unset, .unset, .unset, .unset, .unset, .unset]) rfl k) ?_
    refine own_st (fun _ k => XS.iload Xt.here hx rfl (hb hby at_58) rfl k) ?_
    refine own_st (fun _ k => XS.iconst Xt.here hx rfl (hb hby at_60) k) ?_
    show own_Go _ _ _ _ Tt (mkF m 61 #[.val (.int p1), .val (.int p2), .val (.int p3), .val (.long q4), .second, .val (.long q5), .second, .val (.int p6), .val (.int ki), .val (.int ei), .val (.int sp), .val (.int ((p6 &&& (7 : Int32)) % (6 : Int32))), .unset, .unset, .unset, .unset, .unset, .unset, .unset, .unset, .unset, .unset, .unset, .unset] [(.int 3), (.int p6)])
    refine own_st (fun _ k => XS.iushr Xt.here hx rfl (hb hby at_61) rfl k) ?_
    refine own_st (fun _ k => XS.iconst Xt.here hx rfl (hb hby at_62) k) ?_
    refine own_st (fun _ k => XS.iand Xt.here hx rfl (hb hby at_63) rfl k) ?_
    refine own_st (fun _ k => XS.istore Xt.here hx rfl (hb hby at_64) rfl (l' := #[.val (.int p1), .val (.int p2), .val (.int p3), .val (.long q4), .second, .val (.long q5), .second, .val (.int p6), .val (.int ki), .val (.int ei), .val (.int sp), .val (.int ((p6 &&& (7 : Int32)) % (6 : Int32))), .val (.int (((p6.toUInt32 >>> ((3 : Int32) &&& 31).toUInt32).toInt32) &&& (3 : Int32))), .unset, .unset, .unset, .unset, .unset, .unset, .unset, .unset, .unset, .unset, .unset]) rfl k) ?_
    refine own_st (fun _ k => XS.iload Xt.here hx rfl (hb hby at_66) rfl k) ?_
    refine own_st (fun _ k => XS.iconst Xt.here hx rfl (hb hby at_68) k) ?_
    refine own_st (fun _ k => XS.icmpYes Xt.here hx rfl (pc0 := 69) (pc' := 75) rfl (hb hby at_69) rfl (flt (own_t3 p6 : ¬ ((3 : Int32) < (((p6.toUInt32 >>> ((3 : Int32) &&& 31).toUInt32).toInt32) &&& (3 : Int32))))).2.2.2 (by decide) (by decide) k) ?_
    refine own_st (fun _ k => XS.iload Xt.here hx rfl (hb hby at_75) rfl k) ?_
    show own_Go _ _ _ _ Tt (mkF m 77 #[.val (.int p1), .val (.int p2), .val (.int p3), .val (.long q4), .second, .val (.long q5), .second, .val (.int p6), .val (.int ki), .val (.int ei), .val (.int sp), .val (.int ((p6 &&& (7 : Int32)) % (6 : Int32))), .val (.int (((p6.toUInt32 >>> ((3 : Int32) &&& 31).toUInt32).toInt32) &&& (3 : Int32))), .unset, .unset, .unset, .unset, .unset, .unset, .unset, .unset, .unset, .unset, .unset] [(.int p6)])
    refine own_st (fun _ k => XS.iconst Xt.here hx rfl (hb hby at_77) k) ?_
    refine own_st (fun _ k => XS.iushr Xt.here hx rfl (hb hby at_78) rfl k) ?_
    refine own_st (fun _ k => XS.iconst Xt.here hx rfl (hb hby at_79) k) ?_
    refine own_st (fun _ k => XS.iand Xt.here hx rfl (hb hby at_80) rfl k) ?_
    by_cases hst : (((p6.toUInt32 >>> ((5 : Int32) &&& 31).toUInt32).toInt32) &&& (1 : Int32)) = (0 : Int32)
    · refine own_st (fun _ k => XS.ifYes Xt.here hx rfl (pc0 := 81) (pc' := 88) rfl (hb hby at_81) rfl ((if0 _ _).trans (teq (hst : (((p6.toUInt32 >>> ((5 : Int32) &&& 31).toUInt32).toInt32) &&& (1 : Int32)) = (0 : Int32))).1) (by decide) (by decide) k) ?_
      refine own_st (fun _ k => XS.iloadN Xt.here hx rfl (hb hby at_88) rfl k) ?_
      refine own_st (fun _ k => XS.bipush Xt.here hx rfl (hb hby at_89) k) ?_
      refine own_st (fun _ k => XS.iand Xt.here hx rfl (hb hby at_91) rfl k) ?_
      show own_Go _ _ _ _ Tt (mkF m 92 #[.val (.int p1), .val (.int p2), .val (.int p3), .val (.long q4), .second, .val (.long q5), .second, .val (.int p6), .val (.int ki), .val (.int ei), .val (.int sp), .val (.int ((p6 &&& (7 : Int32)) % (6 : Int32))), .val (.int (((p6.toUInt32 >>> ((3 : Int32) &&& 31).toUInt32).toInt32) &&& (3 : Int32))), .unset, .unset, .unset, .unset, .unset, .unset, .unset, .unset, .unset, .unset, .unset] [(.int (p2 &&& (15 : Int32)))])
      refine own_st (fun _ k => XS.iconst Xt.here hx rfl (hb hby at_92) k) ?_
      refine own_st (fun _ k => XS.isub Xt.here hx rfl (hb hby at_93) rfl k) ?_
      refine own_st (fun _ k => XS.istore Xt.here hx rfl (hb hby at_94) rfl (l' := #[.val (.int p1), .val (.int p2), .val (.int p3), .val (.long q4), .second, .val (.long q5), .second, .val (.int p6), .val (.int ki), .val (.int ei), .val (.int sp), .val (.int ((p6 &&& (7 : Int32)) % (6 : Int32))), .val (.int (((p6.toUInt32 >>> ((3 : Int32) &&& 31).toUInt32).toInt32) &&& (3 : Int32))), .val (.int ((p2 &&& (15 : Int32)) - (4 : Int32))), .unset, .unset, .unset, .unset, .unset, .unset, .unset, .unset, .unset, .unset]) rfl k) ?_
      exact t96 _ _ _ Xt Nt et Ot _ _ _ _ _ _ (own_c3 _) hki hei (own_remN _ 6 6 (c_and p6 7 (by decide)).1 (by decide) (by decide))
    · refine own_st (fun _ k => XS.ifNo Xt.here hx rfl (hb hby at_81) rfl ((if0 _ _).trans (feq (hst : ¬ ((((p6.toUInt32 >>> ((5 : Int32) &&& 31).toUInt32).toInt32) &&& (1 : Int32)) = (0 : Int32)))).1) k) ?_
      refine own_st (fun _ k => XS.iloadN Xt.here hx rfl (hb hby at_84) rfl k) ?_
      refine own_st (fun _ k => XS.goto Xt.here hx rfl (pc0 := 85) (pc' := 94) rfl (hb hby at_85) (by decide) (by decide) k) ?_
      refine own_st (fun _ k => XS.istore Xt.here hx rfl (hb hby at_94) rfl (l' := #[.val (.int p1), .val (.int p2), .val (.int p3), .val (.long q4), .second, .val (.long q5), .second, .val (.int p6), .val (.int ki), .val (.int ei), .val (.int sp), .val (.int ((p6 &&& (7 : Int32)) % (6 : Int32))), .val (.int (((p6.toUInt32 >>> ((3 : Int32) &&& 31).toUInt32).toInt32) &&& (3 : Int32))), .val (.int p2), .unset, .unset, .unset, .unset, .unset, .unset, .unset, .unset, .unset, .unset]) rfl k) ?_
      show own_Go _ _ _ _ Tt (mkF m 96 #[.val (.int p1), .val (.int p2), .val (.int p3), .val (.long q4), .second, .val (.long q5), .second, .val (.int p6), .val (.int ki), .val (.int ei), .val (.int sp), .val (.int ((p6 &&& (7 : Int32)) % (6 : Int32))), .val (.int (((p6.toUInt32 >>> ((3 : Int32) &&& 31).toUInt32).toInt32) &&& (3 : Int32))), .val (.int p2), .unset, .unset, .unset, .unset, .unset, .unset, .unset, .unset, .unset, .unset] [])
      exact t96 _ _ _ Xt Nt et Ot _ _ _ _ _ _ (own_c3 _) hki hei (own_remN _ 6 6 (c_and p6 7 (by decide)).1 (by decide) (by decide))
  have t37 : ∀ (Tt : State) (lt : List Loc) (ht : Heap) (Xt : Stand p l e room_1 (s.setVm s.vm) m #[(.int p1), (.int p2), (.int p3), (.long q4), (.long q5), (.int p6)] below meth c Tt lt 0 0) (Nt : Fr n0 lt) (et : Tt.heap = ht) (Ot : Ext h0 ht) (ki ei : Int32) (hki : 0 ≤ ki.toInt ∧ ki.toInt < 9) (hei : 0 ≤ ei.toInt ∧ ei.toInt < 9), own_Go p.tables e below (own_FW below s (own_law_Q Z p1 p2 p3 q4 q5 p6 w0 w1 w2 w3 w4 w5 w6 w7 w8 cs h0 n0) 32 1216) Tt (mkF m 37 #[.val (.int p1), .val (.int p2), .val (.int p3), .val (.long q4), .second, .val (.long q5), .second, .val (.int p6), .val (.int ki), .val (.int ei), .unset, .unset, .unset, .unset, .unset, .unset, .unset, .unset, .unset, .unset, .unset, .unset, .unset, .unset] []) := by
    intro Tt lt ht Xt Nt et Ot ki ei hki hei
    have hkt := Nat.le_trans hk0 Ot.1
    refine own_st (fun _ k => XS.iloadN Xt.here hx rfl (hb hby at_37) rfl k) ?_
    by_cases hsp : p1 < (0 : Int32)
    · refine own_st (fun _ k => XS.ifNo Xt.here hx rfl (hb hby at_38) rfl ((if0 _ _).trans (tlt (hsp : p1 < (0 : Int32))).2.1) k) ?_
      refine own_st (fun _ k => XS.iconst Xt.here hx rfl (hb hby at_41) k) ?_
      refine own_st (fun _ k => XS.goto Xt.here hx rfl (pc0 := 42) (pc' := 46) rfl (hb hby at_42) (by decide) (by decide) k) ?_
      refine own_st (fun _ k => XS.istore Xt.here hx rfl (hb hby at_46) rfl (l' := #[.val (.int p1), .val (.int p2), .val (.int p3), .val (.long q4), .second, .val (.long q5), .second, .val (.int p6), .val (.int ki), .val (.int ei), .val (.int 1), .unset, .unset, .unset, .unset, .unset, .unset, .unset, .unset, .unset, .unset, .unset, .unset, .unset]) rfl k) ?_
      exact t48 _ _ _ Xt Nt et Ot _ _ _ hki hei
    · refine own_st (fun _ k => XS.ifYes Xt.here hx rfl (pc0 := 38) (pc' := 45) rfl (hb hby at_38) rfl ((if0 _ _).trans (flt (hsp : ¬ (p1 < (0 : Int32)))).2.1) (by decide) (by decide) k) ?_
      refine own_st (fun _ k => XS.iconst Xt.here hx rfl (hb hby at_45) k) ?_
      refine own_st (fun _ k => XS.istore Xt.here hx rfl (hb hby at_46) rfl (l' := #[.val (.int p1), .val (.int p2), .val (.int p3), .val (.long q4), .second, .val (.long q5), .second, .val (.int p6), .val (.int ki), .val (.int ei), .val (.int 0), .unset, .unset, .unset, .unset, .unset, .unset, .unset, .unset, .unset, .unset, .unset, .unset, .unset]) rfl k) ?_
      exact t48 _ _ _ Xt Nt et Ot _ _ _ hki hei
  refine own_st (fun _ k => XS.iloadN X0.here hx rfl (hb hby at_0) rfl k) ?_
  refine own_st (fun _ k => XS.sipush X0.here hx rfl (hb hby at_1) k) ?_
  refine own_st (fun _ k => XS.iand X0.here hx rfl (hb hby at_4) rfl k) ?_
  refine own_st (fun _ k => XS.bipush X0.here hx rfl (hb hby at_5) k) ?_
  refine own_st (fun _ k => iremM X0 hx rfl (hb hby at_7) rfl (by decide) k) ?_
  refine own_st (fun _ k => XS.istore X0.here hx rfl (hb hby at_8) rfl (l' := #[.val (.int p1), .val (.int p2), .val (.int p3), .val (.long q4), .second, .val (.long q5), .second, .val (.int p6), .val (.int ((p1 &&& (32767 : Int32)) % (9 : Int32))), .unset, .unset, .unset, .unset, .unset, .unset, .unset, .unset, .unset, .unset, .unset, .unset, .unset, .unset, .unset]) rfl k) ?_
  refine own_st (fun _ k => XS.iloadN X0.here hx rfl (hb hby at_10) rfl k) ?_
  refine own_st (fun _ k => XS.bipush X0.here hx rfl (hb hby at_11) k) ?_
  show own_Go _ _ _ _ T0 (mkF m 13 #[.val (.int p1), .val (.int p2), .val (.int p3), .val (.long q4), .second, .val (.long q5), .second, .val (.int p6), .val (.int ((p1 &&& (32767 : Int32)) % (9 : Int32))), .unset, .unset, .unset, .unset, .unset, .unset, .unset, .unset, .unset, .unset, .unset, .unset, .unset, .unset, .unset] [(.int 15), (.int p1)])
  refine own_st (fun _ k => XS.iushr X0.here hx rfl (hb hby at_13) rfl k) ?_
  refine own_st (fun _ k => XS.iconst X0.here hx rfl (hb hby at_14) k) ?_
  refine own_st (fun _ k => XS.iand X0.here hx rfl (hb hby at_15) rfl k) ?_
  by_cases hb0 : (((p1.toUInt32 >>> ((15 : Int32) &&& 31).toUInt32).toInt32) &&& (1 : Int32)) = (0 : Int32)
  · refine own_st (fun _ k => XS.ifYes X0.here hx rfl (pc0 := 16) (pc' := 24) rfl (hb hby at_16) rfl ((if0 _ _).trans (teq (hb0 : (((p1.toUInt32 >>> ((15 : Int32) &&& 31).toUInt32).toInt32) &&& (1 : Int32)) = (0 : Int32))).1) (by decide) (by decide) k) ?_
    refine own_st (fun _ k => XS.iloadN X0.here hx rfl (hb hby at_24) rfl k) ?_
    refine own_st (fun _ k => XS.bipush X0.here hx rfl (hb hby at_25) k) ?_
    refine own_st (fun _ k => XS.iushr X0.here hx rfl (hb hby at_27) rfl k) ?_
    refine own_st (fun _ k => XS.sipush X0.here hx rfl (hb hby at_28) k) ?_
    show own_Go _ _ _ _ T0 (mkF m 31 #[.val (.int p1), .val (.int p2), .val (.int p3), .val (.long q4), .second, .val (.long q5), .second, .val (.int p6), .val (.int ((p1 &&& (32767 : Int32)) % (9 : Int32))), .unset, .unset, .unset, .unset, .unset, .unset, .unset, .unset, .unset, .unset, .unset, .unset, .unset, .unset, .unset] [(.int 32767), (.int ((p1.toUInt32 >>> ((16 : Int32) &&& 31).toUInt32).toInt32))])
    refine own_st (fun _ k => XS.iand X0.here hx rfl (hb hby at_31) rfl k) ?_
    refine own_st (fun _ k => XS.bipush X0.here hx rfl (hb hby at_32) k) ?_
    refine own_st (fun _ k => iremM X0 hx rfl (hb hby at_34) rfl (by decide) k) ?_
    refine own_st (fun _ k => XS.istore X0.here hx rfl (hb hby at_35) rfl (l' := #[.val (.int p1), .val (.int p2), .val (.int p3), .val (.long q4), .second, .val (.long q5), .second, .val (.int p6), .val (.int ((p1 &&& (32767 : Int32)) % (9 : Int32))), .val (.int ((((p1.toUInt32 >>> ((16 : Int32) &&& 31).toUInt32).toInt32) &&& (32767 : Int32)) % (9 : Int32))), .unset, .unset, .unset, .unset, .unset, .unset, .unset, .unset, .unset, .unset, .unset, .unset, .unset, .unset]) rfl k) ?_
    exact t37 _ _ _ X0 N0 e0 O0 _ _ (own_remN _ 9 9 (c_and p1 32767 (by decide)).1 (by decide) (by decide)) (own_remN _ 9 9 (c_and _ 32767 (by decide)).1 (by decide) (by decide))
  · refine own_st (fun _ k => XS.ifNo X0.here hx rfl (hb hby at_16) rfl ((if0 _ _).trans (feq (hb0 : ¬ ((((p1.toUInt32 >>> ((15 : Int32) &&& 31).toUInt32).toInt32) &&& (1 : Int32)) = (0 : Int32)))).1) k) ?_
    refine own_st (fun _ k => XS.iload X0.here hx rfl (hb hby at_19) rfl k) ?_
    refine own_st (fun _ k => XS.goto X0.here hx rfl (pc0 := 21) (pc' := 35) rfl (hb hby at_21) (by decide) (by decide) k) ?_
    refine own_st (fun _ k => XS.istore X0.here hx rfl (hb hby at_35) rfl (l' := #[.val (.int p1), .val (.int p2), .val (.int p3), .val (.long q4), .second, .val (.long q5), .second, .val (.int p6), .val (.int ((p1 &&& (32767 : Int32)) % (9 : Int32))), .val (.int ((p1 &&& (32767 : Int32)) % (9 : Int32))), .unset, .unset, .unset, .unset, .unset, .unset, .unset, .unset, .unset, .unset, .unset, .unset, .unset, .unset]) rfl k) ?_
    exact t37 _ _ _ X0 N0 e0 O0 _ _ (own_remN _ 9 9 (c_and p1 32767 (by decide)).1 (by decide) (by decide)) (own_remN _ 9 9 (c_and p1 32767 (by decide)).1 (by decide) (by decide))
set_option maxRecDepth 65536 in
set_option maxHeartbeats 40000000 in
theorem comes_1 {Post : Tables → Env → Array Value → State → Outcome → State → Prop} (hpost : ∀ tb e args s v u, (limb_1_1.after args s (.returned v) u = true ∧ limb_1_2.after args s (.returned v) u = true ∧ True) → ReturnedEndW s (.returned v) u (Jvm.fieldLocs frame_1_writes args s ++ Jvm.arrayLocs frame_1_arrays args s ++ Jvm.staticLocs frame_1_statics s) 32 1216 → Post tb e args s (.returned v) u) :
    ArmFor flags0 classFile x code maxLocals ret World_1 tables_1 room_1 Calls_1 rest_1 Pre_1 Post := by
  intro l hfl _ _ p e ha hc hk s m args below hf hA hF happ hP
  obtain ⟨hcalls, hrest, hpre⟩ := hP
  obtain ⟨-, -, -, hnamed, -, -, -, hat⟩ := (Spec.applies_iff hf).mp happ
  obtain ⟨hg, hn⟩ := and_e (Cond.before_iff.mp (show (Jvm.Cond.and given_1 narrow_1).before args s = true from hpre))
  obtain ⟨q1, q2⟩ := and_e hg
  obtain ⟨q3, q4⟩ := and_e q2
  obtain ⟨q5, q6⟩ := and_e q4
  obtain ⟨q7, q8⟩ := and_e q6
  obtain ⟨q9, q10⟩ := and_e q8
  obtain ⟨q11, q12⟩ := and_e q10
  obtain ⟨w0_, w1_, w2_, w3_, w4_, w5_, rfl⟩ : ∃ w0_ w1_ w2_ w3_ w4_ w5_ : Value, args = #[w0_, w1_, w2_, w3_, w4_, w5_] := by
    have hs : args.size = 6 := by simpa [Cond.value, given_1] using q1
    obtain ⟨L⟩ := args
    match L, hs with
    | [w0_, w1_, w2_, w3_, w4_, w5_], _ => exact ⟨w0_, w1_, w2_, w3_, w4_, w5_, rfl⟩
  have hw : own_W s _ := fun d (hd : d ∈ tables_1) => atoms_spec (ws := Jvm.Cond.code x code maxLocals ret :: tables_1) hat d (List.mem_cons_of_mem _ hd)
  have hfit : Fit s := fun {y c} hc i hi => by
    obtain ⟨ha, rfl⟩ := Array.getElem?_eq_some_iff.mp hc
    have q := List.all_eq_true.mp ((Array.all_eq_true_iff_forall_mem.mp hF) _ (Array.getElem_mem ha)) i (List.mem_range.mpr hi)
    simpa [Array.getElem?_eq_getElem hi] using q
  obtain ⟨i0, ei0⟩ := is_v q3
  obtain rfl : w0_ = (.int i0) := Option.some.inj ei0
  obtain ⟨i1, ei1⟩ := is_v q5
  obtain rfl : w1_ = (.int i1) := Option.some.inj ei1
  obtain ⟨i2, ei2⟩ := is_v q7
  obtain rfl : w2_ = (.int i2) := Option.some.inj ei2
  obtain ⟨i3, ei3⟩ := isL_v q9
  obtain rfl : w3_ = (.long i3) := Option.some.inj ei3
  obtain ⟨i4, ei4⟩ := isL_v q11
  obtain rfl : w4_ = (.long i4) := Option.some.inj ei4
  obtain ⟨i5, ei5⟩ := is_v q12
  obtain rfl : w5_ = (.int i5) := Option.some.inj ei5
  obtain ⟨hsets, hown0⟩ := atoms_of _ (rest_1_c_eq ▸ (show rest_1_c.before _ s = true from hrest))
  have hn : narrow_1.value _ s none s [] = some true := hn
  obtain ⟨q13, q14⟩ := and_e hn
  obtain ⟨q15, q16⟩ := and_e q14
  obtain ⟨q17, q18⟩ := and_e q16
  obtain ⟨q19, q20⟩ := and_e q18
  obtain ⟨q21, q22⟩ := and_e q20
  obtain ⟨q23, q24⟩ := and_e q22
  obtain ⟨q25, q26⟩ := and_e q24
  obtain ⟨q27, q28⟩ := and_e q26
  obtain ⟨q29, q30⟩ := and_e q28
  obtain ⟨q31, q32⟩ := and_e q30
  obtain ⟨q33, q34⟩ := and_e q32
  obtain ⟨q35, q36⟩ := and_e q34
  obtain ⟨q37, q38⟩ := and_e q36
  obtain ⟨q39, q40⟩ := and_e q38
  obtain ⟨q41, q42⟩ := and_e q40
  obtain ⟨q43, q44⟩ := and_e q42
  obtain ⟨q45, q46⟩ := and_e q44
  obtain ⟨w47, vw47⟩ := exa_v q13
  have E48 := Exa.start vw47 q13
  have S49 := Sta.start vw47 (Or.inr ⟨(own_w48 hw), (own_w49 hw)⟩)
  obtain ⟨w50, vw50⟩ := exa_v q15
  have E51 := Exa.start vw50 q15
  have S52 := Sta.start vw50 (Or.inr ⟨(own_w48 hw), (own_w88 hw)⟩)
  have F53 := Fld.start ((fld_at vw50).symm.trans (own_eqi q17))
  have F54 := Fld.start ((fld_at vw47).symm.trans (own_eqi q19))
  obtain ⟨w55, vw55⟩ := exa_v q21
  have E56 := Exa.start vw55 q21
  have S57 := Sta.start vw55 (Or.inr ⟨(own_w48 hw), (own_w93 hw)⟩)
  have F58 := Fld.start ((fld_at vw55).symm.trans (own_eqi q23))
  obtain ⟨w59, vw59⟩ := exa_v q25
  have E60 := Exa.start vw59 q25
  have S61 := Sta.start vw59 (Or.inr ⟨(own_w48 hw), (own_w95 hw)⟩)
  obtain ⟨w62, vw62⟩ := exa_v q27
  have E63 := Exa.start vw62 q27
  have S64 := Sta.start vw62 (Or.inr ⟨(own_w48 hw), (own_w97 hw)⟩)
  have F65 := Fld.start ((fld_at vw62).symm.trans (own_eqi q29))
  obtain ⟨w66, vw66⟩ := exa_v q31
  have E67 := Exa.start vw66 q31
  have S68 := Sta.start vw66 (Or.inr ⟨(own_w48 hw), (own_w99 hw)⟩)
  have F69 := Fld.start ((fld_at vw66).symm.trans (own_eqi q33))
  obtain ⟨w70, vw70⟩ := exa_v q35
  have E71 := Exa.start vw70 q35
  have S72 := Sta.start vw70 (Or.inr ⟨(own_w48 hw), (own_w101 hw)⟩)
  have F73 := Fld.start ((fld_at vw70).symm.trans (own_eqi q37))
  obtain ⟨w74, vw74⟩ := exa_v q39
  have E75 := Exa.start vw74 q39
  have S76 := Sta.start vw74 (Or.inr ⟨(own_w48 hw), (own_w103 hw)⟩)
  have F77 := Fld.start ((fld_at vw74).symm.trans (own_eqi q41))
  have F78 := Fld.start ((fld_at vw59).symm.trans (own_eqi q43))
  obtain ⟨w79, vw79⟩ := exa_v q45
  have E80 := Exa.start vw79 q45
  have S81 := Sta.start vw79 (Or.inr ⟨(own_w48 hw), (own_w105 hw)⟩)
  have F82 := Fld.start ((fld_at vw79).symm.trans (own_eqi q46))
  have z1 := Cond.before_iff.mp (hsets _ (List.mem_of_getElem? (i := 1) rfl))
  have z2 := not_v (Cond.before_iff.mp (hsets _ (List.mem_of_getElem? (i := 2) rfl)))
  obtain ⟨cs, vcs⟩ := is_v z1
  have Scs := Sta.start vcs (Or.inl (hsets _ (List.mem_of_getElem? (i := 0) rfl)))
  have hcs : ¬ cs = 0 := fun e => by
    have q := eq_i vcs (Term.int_eval 0) (congrArg Value.int e)
    rw [q] at z2
    cases z2
  have hcw : Jvm.Lit.compactW.before _ s = true := (hsets _ (List.mem_of_getElem? (i := 2) rfl))
  have hh : Jvm.Lit.constHeld s "java/lang/String" 7 := hcalls.1 ("java/lang/String", 7) (by simp [consts_1])
  have Fk : ∀ i : Int32, 0 ≤ i.toInt → i.toInt ≤ 8 → Fld s s.heap (own_kd i w47 w62 w70 w74 w79 w55 w59 w50 w66) "java/lang/Enum" "ordinal" "I" (.int i) := fun i h0 h1 => by
    rcases own_rg9 i h0 (by omega) with rfl | rfl | rfl | rfl | rfl | rfl | rfl | rfl | rfl
    · exact F54
    · exact F65
    · exact F73
    · exact F77
    · exact F82
    · exact F58
    · exact F78
    · exact F53
    · exact F69
  obtain ⟨n, o, r1, r2, r3, _, L, rfl, ⟨rfl, N⟩, hq⟩ := own_law l hw tables_1 i0 i1 i2 i3 i4 i5 w47 w62 w70 w74 w79 w55 w59 w50 w66 cs s.heap s.heap.size (Nat.le_refl _) hh hcw (own_extr _) Scs hcs S49 S64 S72 S76 S81 S57 S61 S52 S68 Fk p e ha hc hk s m _ below hf ((Spec.applies_iff_loose hf).mp happ).1 ⟨rfl, State.Warmed39.refl s, rfl, IB.start⟩ trivial
  refine ⟨n, _, r1, r2, r3, hpost _ _ _ _ _ _ ⟨Cond.after_iff.mpr rfl, Cond.after_iff.mpr (eq_i res_at (Term.int_eval (1)) rfl), trivial⟩ ⟨hq.1, hq.2.1, hq.2.2.1, (hq.2.2.2.sift fun y hy => Or.inr (N y hy)).mono (by decide) (by decide)⟩⟩
theorem main_1_1 : Claimed_1_1 := comes_1 fun _ _ _ _ _ _ h hF => ⟨h.1, hF⟩
theorem main_1_2 : Claimed_1_2 := comes_1 fun _ _ _ _ _ _ h hF => ⟨h.2.1, hF⟩
end Jvm.Pilot.@@N@@
namespace Jvm.Pilot.@@N@@
open Jvm Jvm.ClassFile Sem Op Lib Jvm.Free Jvm.Stand Jvm.Pilot.@@N@@.Jvm.D
/-! MADE BY PROGRAM (witnessworld.py) out of the Statement's table words and the real class files: 25 classes; the members and pool entries that the words name. The judged class is class 1, her method 1. -/
namespace start1
open Jvm.ClassFile
def u (s : String) : CpInfo := .utf8 (stringToUtf16 s)
/-- a pool by its gaps: so many unusable entries, then the entry; so many at the end -/
def gap : Nat → List CpInfo → List CpInfo
  | 0, r => r
  | n + 1, r => .unusable :: gap n r
def poolList (es : List (Nat × CpInfo)) (last : Nat) : List CpInfo := es.foldr (fun e r => gap e.1 (e.2 :: r)) (gap last [])
def pool (es : List (Nat × CpInfo)) (last : Nat) : Array CpInfo := ⟨poolList es last⟩
def fileOf (pool : Array CpInfo) (this : Nat) (attrs : Array Attribute := #[]) (ms : Array MethodInfo := #[]) (fl : Nat := 33) (sup : Nat := 0) (ifs : Array Nat := #[]) (fds : Array FieldInfo := #[]) : ClassFile where
  minorVersion := 0
  majorVersion := 65
  constantPool := pool
  accessFlags := fl
  thisClass := this
  superClass := sup
  interfaces := ifs
  fields := fds
  methods := ms
  attributes := attrs
def plain (name : String) (sup : Option ClassId) : Class where
  name := name
  kind := .ordinary
  loader := none
  accessFlags := 33
  super := sup
  interfaces := #[]
  cf := none
  fields := #[]
  methods := #[]
  instanceTypes := #[]
  staticTypes := #[]
  resolved := #[]
  callSites := []
  init := .initialized
  statics := none
  mirror := none

def pool0 : Array CpInfo := pool [(5, u "<init>"), (0, u "()V"), (1, .class_ 10), (1, u "java/lang/Object")] 113

def k0c0 : Code := { maxStack := 0, maxLocals := 1, code := object_method_1_code, exceptionTable := #[], attributes := #[] }
def k0m0 : Method := { name := "<init>", desc := "()V", sig := { parameters := [], returnType := none }, accessFlags := 1, code := some k0c0 }
/-- java/lang/Object -/
def k0 : Class := { plain "java/lang/Object" none with
  accessFlags := 33
  interfaces := #[]
  cf := some (fileOf pool0 8 #[] #[{ accessFlags := 1, nameIndex := 5, descriptorIndex := 6, attributes := #[] }] 33 0 #[] #[])
  fields := #[]
  methods := #[k0m0]
  instanceTypes := #[]
  staticTypes := #[]
  resolved := Array.replicate 124 none
  statics := none }

def pool1 : Array CpInfo := pool [(2, .class_ 4), (1, u "java/lang/Object"), (0, u "<init>"), (0, u "()V"), (0, .long 255), (1, .methodref 10 11), (0, .class_ 12), (0, .nameAndType 13 14), (0, u "com/example/isoscope/isoscope/TokenIsPinLaw"), (0, u "tc"), (0, u "(III[CII)C"), (0, .methodref 10 16), (0, .nameAndType 17 18), (0, u "prefix"), (0, u "([CI)Ljava/lang/String;"), (0, .class_ 20), (0, u "com/example/isoscope/isoscope/SqlLexer$Token"), (0, .methodref 10 22), (0, .nameAndType 23 24), (0, u "kind"), (0, u "(I)Lcom/example/isoscope/isoscope/SqlLexer$Kind;"), (0, .methodref 19 26), (0, .nameAndType 5 27), (0, u "(Lcom/example/isoscope/isoscope/SqlLexer$Kind;IIZ)V"), (0, .methodref 19 29), (0, .nameAndType 30 31), (0, u "is"), (0, u "(Ljava/lang/String;Lcom/example/isoscope/isoscope/SqlLexer$Kind;Ljava/lang/String;)Z"), (0, .methodref 10 33), (0, .nameAndType 34 35), (0, u "fold"), (0, u "(C)I"), (0, .class_ 37), (0, u "java/lang/String"), (0, .methodref 36 39), (0, .nameAndType 5 40), (0, u "([C)V"), (0, .fieldref 42 43), (0, .class_ 44), (0, .nameAndType 45 46), (0, u "com/example/isoscope/isoscope/SqlLexer$Kind"), (0, u "WORD"), (0, u "Lcom/example/isoscope/isoscope/SqlLexer$Kind;"), (0, .fieldref 42 48), (0, .nameAndType 49 46), (0, u "QUOTED_NAME"), (0, .fieldref 42 51), (0, .nameAndType 52 46), (0, u "STRING"), (0, .fieldref 42 54), (0, .nameAndType 55 46), (0, u "NUMBER"), (0, .fieldref 42 57), (0, .nameAndType 58 46), (0, u "PARAMETER"), (0, .fieldref 42 60), (0, .nameAndType 61 46), (0, u "OPERATOR"), (0, .fieldref 42 63), (0, .nameAndType 64 46), (0, u "SEMICOLON"), (0, .fieldref 42 66), (0, .nameAndType 67 46), (0, u "PUNCTUATION"), (0, .fieldref 42 69), (0, .nameAndType 70 46), (0, u "COMMENT"), (2, u "law"), (0, u "(IIIJJI)Z")] 10

def k1m0 : Method := { name := "<init>", desc := "()V", sig := { parameters := [], returnType := none }, accessFlags := 1, code := none }
def k1c1 : Code := { maxStack := 8, maxLocals := 24, code := code, exceptionTable := #[], attributes := #[] }
def k1m1 : Method := { name := "law", desc := "(IIIJJI)Z", sig := { parameters := [.int, .int, .int, .long, .long, .int], returnType := some .boolean }, accessFlags := 9, code := some k1c1 }
def k1c2 : Code := { maxStack := 4, maxLocals := 9, code := method_3_code, exceptionTable := #[], attributes := #[] }
def k1m2 : Method := { name := "tc", desc := "(III[CII)C", sig := { parameters := [.int, .int, .int, (.array .char), .int, .int], returnType := some .char }, accessFlags := 10, code := some k1c2 }
def k1c3 : Code := { maxStack := 2, maxLocals := 2, code := method_4_code, exceptionTable := #[], attributes := #[] }
def k1m3 : Method := { name := "fold", desc := "(C)I", sig := { parameters := [.char], returnType := some .int }, accessFlags := 10, code := some k1c3 }
def k1c4 : Code := { maxStack := 7, maxLocals := 2, code := method_5_code, exceptionTable := #[], attributes := #[] }
def k1m4 : Method := { name := "prefix", desc := "([CI)Ljava/lang/String;", sig := { parameters := [(.array .char), .int], returnType := some (.object "java/lang/String") }, accessFlags := 10, code := some k1c4 }
def k1c5 : Code := { maxStack := 2, maxLocals := 1, code := method_6_code, exceptionTable := #[], attributes := #[] }
def k1m5 : Method := { name := "kind", desc := "(I)Lcom/example/isoscope/isoscope/SqlLexer$Kind;", sig := { parameters := [.int], returnType := some (.object "com/example/isoscope/isoscope/SqlLexer$Kind") }, accessFlags := 10, code := some k1c5 }
/-- com/example/isoscope/isoscope/TokenIsPinLaw -/
def k1 : Class := { plain "com/example/isoscope/isoscope/TokenIsPinLaw" (some 0) with
  accessFlags := 49
  interfaces := #[]
  cf := some (fileOf pool1 10 #[] #[{ accessFlags := 1, nameIndex := 5, descriptorIndex := 6, attributes := #[] }, { accessFlags := 9, nameIndex := 73, descriptorIndex := 74, attributes := #[] }, { accessFlags := 10, nameIndex := 13, descriptorIndex := 14, attributes := #[] }, { accessFlags := 10, nameIndex := 34, descriptorIndex := 35, attributes := #[] }, { accessFlags := 10, nameIndex := 17, descriptorIndex := 18, attributes := #[] }, { accessFlags := 10, nameIndex := 23, descriptorIndex := 24, attributes := #[] }] 49 2 #[] #[])
  fields := #[]
  methods := #[k1m0, k1m1, k1m2, k1m3, k1m4, k1m5]
  instanceTypes := #[]
  staticTypes := #[]
  resolved := Array.replicate 85 none
  statics := none }

def pool2 : Array CpInfo := pool [(1, .class_ 2), (0, u "java/io/Serializable"), (0, .class_ 4), (0, u "java/lang/Object")] 2

/-- java/io/Serializable -/
def k2 : Class := { plain "java/io/Serializable" (some 0) with
  accessFlags := 1537
  interfaces := #[]
  cf := some (fileOf pool2 1 #[] #[] 1537 3 #[] #[])
  fields := #[]
  methods := #[]
  instanceTypes := #[]
  staticTypes := #[]
  resolved := Array.replicate 7 none
  statics := none }

def pool3 : Array CpInfo := pool [(1, .class_ 2), (0, u "java/lang/Comparable"), (0, .class_ 4), (0, u "java/lang/Object")] 7

/-- java/lang/Comparable -/
def k3 : Class := { plain "java/lang/Comparable" (some 0) with
  accessFlags := 1537
  interfaces := #[]
  cf := some (fileOf pool3 1 #[] #[] 1537 3 #[] #[])
  fields := #[]
  methods := #[]
  instanceTypes := #[]
  staticTypes := #[]
  resolved := Array.replicate 12 none
  statics := none }

def pool4 : Array CpInfo := pool [(2, .class_ 4), (1, u "java/lang/CharSequence"), (42, .class_ 48), (0, u "java/lang/CharSequence$1CodePointIterator"), (10, .class_ 60), (0, u "java/lang/CharSequence$1CharIterator"), (5, .class_ 67), (0, u "java/lang/Object")] 63

/-- java/lang/CharSequence -/
def k4 : Class := { plain "java/lang/CharSequence" (some 0) with
  accessFlags := 1537
  interfaces := #[]
  cf := some (fileOf pool4 2 #[.nestMembers #[47, 59]] #[] 1537 66 #[] #[])
  fields := #[]
  methods := #[]
  instanceTypes := #[]
  staticTypes := #[]
  resolved := Array.replicate 131 none
  statics := none }

def pool5 : Array CpInfo := pool [(1, .class_ 2), (0, u "java/lang/constant/Constable"), (0, .class_ 4), (0, u "java/lang/Object")] 6

/-- java/lang/constant/Constable -/
def k5 : Class := { plain "java/lang/constant/Constable" (some 0) with
  accessFlags := 1537
  interfaces := #[]
  cf := some (fileOf pool5 1 #[] #[] 1537 3 #[] #[])
  fields := #[]
  methods := #[]
  instanceTypes := #[]
  staticTypes := #[]
  resolved := Array.replicate 11 none
  statics := none }

def pool6 : Array CpInfo := pool [(1, .class_ 2), (0, u "java/lang/constant/ConstantDesc"), (0, .class_ 4), (0, u "java/lang/Object")] 32

/-- java/lang/constant/ConstantDesc -/
def k6 : Class := { plain "java/lang/constant/ConstantDesc" (some 0) with
  accessFlags := 1537
  interfaces := #[]
  cf := some (fileOf pool6 1 #[] #[] 1537 3 #[] #[])
  fields := #[]
  methods := #[]
  instanceTypes := #[]
  staticTypes := #[]
  resolved := Array.replicate 37 none
  statics := none }

def pool7 : Array CpInfo := pool [(1, .methodref 2 3), (0, .class_ 4), (0, .nameAndType 5 6), (0, u "java/lang/Object"), (0, u "<init>"), (0, u "()V"), (0, .string 8), (0, u ""), (0, .fieldref 10 11), (0, .class_ 12), (0, .nameAndType 13 14), (0, u "java/lang/String"), (0, u "value"), (0, u "[B"), (0, .fieldref 10 16), (0, .nameAndType 17 18), (0, u "coder"), (0, u "B"), (2, u "hash"), (0, u "I"), (2, u "hashIsZero"), (0, u "Z"), (0, .methodref 10 28), (0, .nameAndType 5 29), (0, u "([CIILjava/lang/Void;)V"), (8, .fieldref 10 39), (0, .nameAndType 40 26), (0, u "COMPACT_STRINGS"), (1, .class_ 44), (1, u "java/lang/StringUTF16"), (0, u "compress"), (1, .methodref 42 48), (0, .nameAndType 49 50), (0, u "coderFromArrayLen"), (0, u "([BI)B"), (56, .class_ 109), (1, u "java/lang/StringLatin1"), (67, .methodref 42 178), (0, .nameAndType 45 179), (0, u "([CII)[B"), (154, u "()I"), (0, .methodref 10 336), (0, .nameAndType 17 337), (0, u "()B"), (167, .methodref 10 506), (0, .nameAndType 507 334), (0, u "length"), (67, .class_ 576), (0, u "java/lang/CharSequence"), (7, u "regionMatches"), (0, u "(ZILjava/lang/String;II)Z"), (13, u "CASE_INSENSITIVE_ORDER"), (0, u "Ljava/util/Comparator;"), (12, .methodref 107 614), (0, .nameAndType 615 616), (0, u "regionMatchesCI"), (0, u "([BI[BII)Z"), (393, u "([C)V"), (90, u "serialPersistentFields"), (0, u "[Ljava/io/ObjectStreamField;"), (0, .class_ 1104), (0, u "java/lang/String$CaseInsensitiveComparator"), (1, .class_ 1107), (0, u "java/io/Serializable"), (0, .class_ 1109), (0, u "java/lang/Comparable"), (0, .class_ 1111), (0, u "java/lang/constant/Constable"), (0, .class_ 1113), (0, u "java/lang/constant/ConstantDesc"), (2, u "serialVersionUID"), (0, u "J"), (3, u "REPL"), (0, u "C"), (2, u "LATIN1"), (1, u "UTF16")] 323

def k7m0 : Method := { name := "<init>", desc := "()V", sig := { parameters := [], returnType := none }, accessFlags := 1, code := none }
def k7c1 : Code := { maxStack := 5, maxLocals := 2, code := jdk_42_method_3_code, exceptionTable := #[], attributes := #[] }
def k7m1 : Method := { name := "<init>", desc := "([C)V", sig := { parameters := [(.array .char)], returnType := none }, accessFlags := 1, code := some k7c1 }
def k7c2 : Code := { maxStack := 2, maxLocals := 1, code := jdk_42_method_54_code, exceptionTable := #[], attributes := #[] }
def k7m2 : Method := { name := "length", desc := "()I", sig := { parameters := [], returnType := some .int }, accessFlags := 1, code := some k7c2 }
def k7c3 : Code := { maxStack := 6, maxLocals := 9, code := jdk_42_method_74_code, exceptionTable := #[], attributes := #[] }
def k7m3 : Method := { name := "regionMatches", desc := "(ZILjava/lang/String;II)Z", sig := { parameters := [.boolean, .int, (.object "java/lang/String"), .int, .int], returnType := some .boolean }, accessFlags := 1, code := some k7c3 }
def k7c4 : Code := { maxStack := 4, maxLocals := 6, code := jdk_42_method_149_code, exceptionTable := #[], attributes := #[] }
def k7m4 : Method := { name := "<init>", desc := "([CIILjava/lang/Void;)V", sig := { parameters := [(.array .char), .int, .int, (.object "java/lang/Void")], returnType := none }, accessFlags := 2, code := some k7c4 }
def k7c5 : Code := { maxStack := 1, maxLocals := 1, code := jdk_42_method_152_code, exceptionTable := #[], attributes := #[] }
def k7m5 : Method := { name := "coder", desc := "()B", sig := { parameters := [], returnType := some .byte }, accessFlags := 0, code := some k7c5 }
/-- java/lang/String -/
def k7 : Class := { plain "java/lang/String" (some 0) with
  accessFlags := 49
  interfaces := #[2, 3, 4, 5, 6]
  cf := some (fileOf pool7 10 #[.nestMembers #[1103]] #[{ accessFlags := 1, nameIndex := 5, descriptorIndex := 6, attributes := #[] }, { accessFlags := 1, nameIndex := 5, descriptorIndex := 1010, attributes := #[] }, { accessFlags := 1, nameIndex := 507, descriptorIndex := 334, attributes := #[] }, { accessFlags := 1, nameIndex := 584, descriptorIndex := 585, attributes := #[] }, { accessFlags := 2, nameIndex := 5, descriptorIndex := 29, attributes := #[] }, { accessFlags := 0, nameIndex := 17, descriptorIndex := 337, attributes := #[] }] 49 2 #[1106, 1108, 575, 1110, 1112] #[{ accessFlags := 18, nameIndex := 13, descriptorIndex := 14, attributes := #[] }, { accessFlags := 18, nameIndex := 17, descriptorIndex := 18, attributes := #[] }, { accessFlags := 2, nameIndex := 21, descriptorIndex := 22, attributes := #[] }, { accessFlags := 2, nameIndex := 25, descriptorIndex := 26, attributes := #[] }, { accessFlags := 26, nameIndex := 1116, descriptorIndex := 1117, attributes := #[] }, { accessFlags := 24, nameIndex := 40, descriptorIndex := 26, attributes := #[] }, { accessFlags := 26, nameIndex := 1101, descriptorIndex := 1102, attributes := #[] }, { accessFlags := 26, nameIndex := 1121, descriptorIndex := 1122, attributes := #[] }, { accessFlags := 25, nameIndex := 599, descriptorIndex := 600, attributes := #[] }, { accessFlags := 24, nameIndex := 1125, descriptorIndex := 18, attributes := #[] }, { accessFlags := 24, nameIndex := 1127, descriptorIndex := 18, attributes := #[] }])
  fields := #[{ name := "value", type := (.array .byte), accessFlags := 18, slot := 0, constantValue := 0 }, { name := "coder", type := .byte, accessFlags := 18, slot := 1, constantValue := 0 }, { name := "hash", type := .int, accessFlags := 2, slot := 2, constantValue := 0 }, { name := "hashIsZero", type := .boolean, accessFlags := 2, slot := 3, constantValue := 0 }, { name := "serialVersionUID", type := .long, accessFlags := 26, slot := 0, constantValue := 0 }, { name := "COMPACT_STRINGS", type := .boolean, accessFlags := 24, slot := 1, constantValue := 0 }, { name := "serialPersistentFields", type := (.array (.object "java/io/ObjectStreamField")), accessFlags := 26, slot := 2, constantValue := 0 }, { name := "REPL", type := .char, accessFlags := 26, slot := 3, constantValue := 0 }, { name := "CASE_INSENSITIVE_ORDER", type := (.object "java/util/Comparator"), accessFlags := 25, slot := 4, constantValue := 0 }, { name := "LATIN1", type := .byte, accessFlags := 24, slot := 5, constantValue := 0 }, { name := "UTF16", type := .byte, accessFlags := 24, slot := 6, constantValue := 0 }]
  methods := #[k7m0, k7m1, k7m2, k7m3, k7m4, k7m5]
  instanceTypes := #[(.array .byte), .byte, .int, .boolean]
  staticTypes := #[.long, .boolean, (.array (.object "java/io/ObjectStreamField")), .char, (.object "java/util/Comparator"), .byte, .byte]
  resolved := Array.replicate 1451 none
  statics := some 0 }

def pool8 : Array CpInfo := pool [(6, .class_ 8), (1, u "java/lang/Object"), (0, u "<init>"), (0, u "()V"), (1, .class_ 14), (1, u "java/lang/StringUTF16"), (31, u "$assertionsDisabled"), (0, u "Z"), (13, u "HI_BYTE_SHIFT"), (0, u "I"), (2, u "LO_BYTE_SHIFT"), (49, .methodref 12 116), (0, .nameAndType 117 118), (0, u "compress"), (0, u "([CI[BII)I"), (3, u "([CII)[B"), (138, u "coderFromArrayLen"), (0, u "([BI)B"), (106, .class_ 371), (1, u "java/lang/StringUTF16$LinesSpliterator"), (58, u "MAX_LENGTH"), (196, .class_ 628), (0, u "java/lang/StringUTF16$CodePointsSpliterator"), (0, .class_ 630), (0, u "java/lang/StringUTF16$CharsSpliterator")] 4

def k8m0 : Method := { name := "<init>", desc := "()V", sig := { parameters := [], returnType := none }, accessFlags := 0, code := none }
def k8c1 : Code := { maxStack := 2, maxLocals := 2, code := jdk_52_method_15_code, exceptionTable := #[], attributes := #[] }
def k8m1 : Method := { name := "coderFromArrayLen", desc := "([BI)B", sig := { parameters := [(.array .byte), .int], returnType := some .byte }, accessFlags := 8, code := some k8c1 }
def k8c2 : Code := { maxStack := 5, maxLocals := 6, code := jdk_52_method_16_code, exceptionTable := #[], attributes := #[] }
def k8m2 : Method := { name := "compress", desc := "([CII)[B", sig := { parameters := [(.array .char), .int, .int], returnType := some (.array .byte) }, accessFlags := 9, code := some k8c2 }
def k8c3 : Code := { maxStack := 3, maxLocals := 7, code := jdk_52_method_21_code, exceptionTable := #[], attributes := #[] }
def k8m3 : Method := { name := "compress", desc := "([CI[BII)I", sig := { parameters := [(.array .char), .int, (.array .byte), .int, .int], returnType := some .int }, accessFlags := 9, code := some k8c3 }
/-- java/lang/StringUTF16 -/
def k8 : Class := { plain "java/lang/StringUTF16" (some 0) with
  accessFlags := 48
  interfaces := #[]
  cf := some (fileOf pool8 12 #[.nestMembers #[627, 629, 369]] #[{ accessFlags := 0, nameIndex := 9, descriptorIndex := 10, attributes := #[] }, { accessFlags := 8, nameIndex := 261, descriptorIndex := 262, attributes := #[] }, { accessFlags := 9, nameIndex := 117, descriptorIndex := 122, attributes := #[] }, { accessFlags := 9, nameIndex := 117, descriptorIndex := 118, attributes := #[] }] 48 6 #[] #[{ accessFlags := 26, nameIndex := 61, descriptorIndex := 62, attributes := #[] }, { accessFlags := 26, nameIndex := 65, descriptorIndex := 62, attributes := #[] }, { accessFlags := 24, nameIndex := 430, descriptorIndex := 62, attributes := #[] }, { accessFlags := 4120, nameIndex := 46, descriptorIndex := 47, attributes := #[] }])
  fields := #[{ name := "HI_BYTE_SHIFT", type := .int, accessFlags := 26, slot := 0, constantValue := 0 }, { name := "LO_BYTE_SHIFT", type := .int, accessFlags := 26, slot := 1, constantValue := 0 }, { name := "MAX_LENGTH", type := .int, accessFlags := 24, slot := 2, constantValue := 0 }, { name := "$assertionsDisabled", type := .boolean, accessFlags := 4120, slot := 3, constantValue := 0 }]
  methods := #[k8m0, k8m1, k8m2, k8m3]
  instanceTypes := #[]
  staticTypes := #[.int, .int, .int, .boolean]
  resolved := Array.replicate 635 none
  statics := none }

def pool9 : Array CpInfo := pool [(1, .methodref 2 3), (0, .class_ 4), (0, .nameAndType 5 6), (0, u "java/lang/Object"), (0, u "<init>"), (0, u "()V"), (0, .class_ 8), (0, u "java/lang/Record")] 13

def k9c0 : Code := { maxStack := 1, maxLocals := 1, code := jdk_30_method_1_code, exceptionTable := #[], attributes := #[] }
def k9m0 : Method := { name := "<init>", desc := "()V", sig := { parameters := [], returnType := none }, accessFlags := 4, code := some k9c0 }
/-- java/lang/Record -/
def k9 : Class := { plain "java/lang/Record" (some 0) with
  accessFlags := 1057
  interfaces := #[]
  cf := some (fileOf pool9 7 #[] #[{ accessFlags := 4, nameIndex := 5, descriptorIndex := 6, attributes := #[] }] 1057 2 #[] #[])
  fields := #[]
  methods := #[k9m0]
  instanceTypes := #[]
  staticTypes := #[]
  resolved := Array.replicate 22 none
  statics := none }

def pool10 : Array CpInfo := pool [(1, .methodref 2 3), (0, .class_ 4), (0, .nameAndType 5 6), (0, u "java/lang/Record"), (0, u "<init>"), (0, u "()V"), (0, .fieldref 8 9), (0, .class_ 10), (0, .nameAndType 11 12), (0, u "com/example/isoscope/isoscope/SqlLexer$Token"), (0, u "kind"), (0, u "Lcom/example/isoscope/isoscope/SqlLexer$Kind;"), (0, .fieldref 8 14), (0, .nameAndType 15 16), (0, u "start"), (0, u "I"), (0, .fieldref 8 18), (0, .nameAndType 19 16), (0, u "end"), (0, .fieldref 8 21), (0, .nameAndType 22 23), (0, u "spaced"), (0, u "Z"), (0, .methodref 25 26), (0, .class_ 27), (0, .nameAndType 28 29), (0, u "java/lang/String"), (0, u "length"), (0, u "()I"), (0, .methodref 25 31), (0, .nameAndType 32 33), (0, u "regionMatches"), (0, u "(ZILjava/lang/String;II)Z"), (12, u "(Lcom/example/isoscope/isoscope/SqlLexer$Kind;IIZ)V"), (3, u "is"), (0, u "(Ljava/lang/String;Lcom/example/isoscope/isoscope/SqlLexer$Kind;Ljava/lang/String;)Z"), (8, .class_ 61), (0, u "com/example/isoscope/isoscope/SqlLexer")] 25

def k10c0 : Code := { maxStack := 2, maxLocals := 5, code := prog_29_method_1_code, exceptionTable := #[], attributes := #[] }
def k10m0 : Method := { name := "<init>", desc := "(Lcom/example/isoscope/isoscope/SqlLexer$Kind;IIZ)V", sig := { parameters := [(.object "com/example/isoscope/isoscope/SqlLexer$Kind"), .int, .int, .boolean], returnType := none }, accessFlags := 0, code := some k10c0 }
def k10c1 : Code := { maxStack := 6, maxLocals := 4, code := prog_29_method_2_code, exceptionTable := #[], attributes := #[] }
def k10m1 : Method := { name := "is", desc := "(Ljava/lang/String;Lcom/example/isoscope/isoscope/SqlLexer$Kind;Ljava/lang/String;)Z", sig := { parameters := [(.object "java/lang/String"), (.object "com/example/isoscope/isoscope/SqlLexer$Kind"), (.object "java/lang/String")], returnType := some .boolean }, accessFlags := 0, code := some k10c1 }
/-- com/example/isoscope/isoscope/SqlLexer$Token -/
def k10 : Class := { plain "com/example/isoscope/isoscope/SqlLexer$Token" (some 9) with
  accessFlags := 48
  interfaces := #[]
  cf := some (fileOf pool10 8 #[.nestHost 60] #[{ accessFlags := 0, nameIndex := 5, descriptorIndex := 46, attributes := #[] }, { accessFlags := 0, nameIndex := 50, descriptorIndex := 51, attributes := #[] }] 48 2 #[] #[{ accessFlags := 18, nameIndex := 11, descriptorIndex := 12, attributes := #[] }, { accessFlags := 18, nameIndex := 15, descriptorIndex := 16, attributes := #[] }, { accessFlags := 18, nameIndex := 19, descriptorIndex := 16, attributes := #[] }, { accessFlags := 18, nameIndex := 22, descriptorIndex := 23, attributes := #[] }])
  fields := #[{ name := "kind", type := (.object "com/example/isoscope/isoscope/SqlLexer$Kind"), accessFlags := 18, slot := 0, constantValue := 0 }, { name := "start", type := .int, accessFlags := 18, slot := 1, constantValue := 0 }, { name := "end", type := .int, accessFlags := 18, slot := 2, constantValue := 0 }, { name := "spaced", type := .boolean, accessFlags := 18, slot := 3, constantValue := 0 }]
  methods := #[k10m0, k10m1]
  instanceTypes := #[(.object "com/example/isoscope/isoscope/SqlLexer$Kind"), .int, .int, .boolean]
  staticTypes := #[]
  resolved := Array.replicate 87 none
  statics := none }

def pool11 : Array CpInfo := pool [(2, .class_ 4), (1, u "java/lang/Enum"), (0, u "name"), (0, u "Ljava/lang/String;"), (2, u "ordinal"), (0, u "I"), (1, .class_ 14), (1, u "java/lang/Object"), (4, u "hash"), (86, .class_ 108), (1, u "java/lang/Enum$EnumDesc"), (2, .class_ 112), (0, u "java/lang/constant/Constable"), (0, .class_ 114), (0, u "java/lang/Comparable"), (0, .class_ 116), (0, u "java/io/Serializable")] 87

/-- java/lang/Enum -/
def k11 : Class := { plain "java/lang/Enum" (some 0) with
  accessFlags := 1057
  interfaces := #[5, 3, 2]
  cf := some (fileOf pool11 2 #[.nestMembers #[106]] #[] 1057 12 #[111, 113, 115] #[{ accessFlags := 18, nameIndex := 5, descriptorIndex := 6, attributes := #[] }, { accessFlags := 18, nameIndex := 9, descriptorIndex := 10, attributes := #[] }, { accessFlags := 2, nameIndex := 19, descriptorIndex := 10, attributes := #[] }])
  fields := #[{ name := "name", type := (.object "java/lang/String"), accessFlags := 18, slot := 0, constantValue := 0 }, { name := "ordinal", type := .int, accessFlags := 18, slot := 1, constantValue := 0 }, { name := "hash", type := .int, accessFlags := 2, slot := 2, constantValue := 0 }]
  methods := #[]
  instanceTypes := #[(.object "java/lang/String"), .int, .int]
  staticTypes := #[]
  resolved := Array.replicate 204 none
  statics := none }

def pool12 : Array CpInfo := pool [(1, .class_ 2), (0, u "com/example/isoscope/isoscope/SqlLexer$Kind"), (2, u "WORD"), (0, u "Lcom/example/isoscope/isoscope/SqlLexer$Kind;"), (2, u "QUOTED_NAME"), (2, u "STRING"), (2, u "NUMBER"), (2, u "PARAMETER"), (2, u "OPERATOR"), (2, u "SEMICOLON"), (2, u "PUNCTUATION"), (2, u "COMMENT"), (2, u "$VALUES"), (0, u "[Lcom/example/isoscope/isoscope/SqlLexer$Kind;"), (6, .class_ 43), (1, u "java/lang/Enum"), (32, .class_ 77), (0, u "com/example/isoscope/isoscope/SqlLexer")] 2

/-- com/example/isoscope/isoscope/SqlLexer$Kind -/
def k12 : Class := { plain "com/example/isoscope/isoscope/SqlLexer$Kind" (some 11) with
  accessFlags := 16432
  interfaces := #[]
  cf := some (fileOf pool12 1 #[.nestHost 76] #[] 16432 41 #[] #[{ accessFlags := 16409, nameIndex := 5, descriptorIndex := 6, attributes := #[] }, { accessFlags := 16409, nameIndex := 9, descriptorIndex := 6, attributes := #[] }, { accessFlags := 16409, nameIndex := 12, descriptorIndex := 6, attributes := #[] }, { accessFlags := 16409, nameIndex := 15, descriptorIndex := 6, attributes := #[] }, { accessFlags := 16409, nameIndex := 18, descriptorIndex := 6, attributes := #[] }, { accessFlags := 16409, nameIndex := 21, descriptorIndex := 6, attributes := #[] }, { accessFlags := 16409, nameIndex := 24, descriptorIndex := 6, attributes := #[] }, { accessFlags := 16409, nameIndex := 27, descriptorIndex := 6, attributes := #[] }, { accessFlags := 16409, nameIndex := 30, descriptorIndex := 6, attributes := #[] }, { accessFlags := 4122, nameIndex := 33, descriptorIndex := 34, attributes := #[] }])
  fields := #[{ name := "WORD", type := (.object "com/example/isoscope/isoscope/SqlLexer$Kind"), accessFlags := 16409, slot := 0, constantValue := 0 }, { name := "QUOTED_NAME", type := (.object "com/example/isoscope/isoscope/SqlLexer$Kind"), accessFlags := 16409, slot := 1, constantValue := 0 }, { name := "STRING", type := (.object "com/example/isoscope/isoscope/SqlLexer$Kind"), accessFlags := 16409, slot := 2, constantValue := 0 }, { name := "NUMBER", type := (.object "com/example/isoscope/isoscope/SqlLexer$Kind"), accessFlags := 16409, slot := 3, constantValue := 0 }, { name := "PARAMETER", type := (.object "com/example/isoscope/isoscope/SqlLexer$Kind"), accessFlags := 16409, slot := 4, constantValue := 0 }, { name := "OPERATOR", type := (.object "com/example/isoscope/isoscope/SqlLexer$Kind"), accessFlags := 16409, slot := 5, constantValue := 0 }, { name := "SEMICOLON", type := (.object "com/example/isoscope/isoscope/SqlLexer$Kind"), accessFlags := 16409, slot := 6, constantValue := 0 }, { name := "PUNCTUATION", type := (.object "com/example/isoscope/isoscope/SqlLexer$Kind"), accessFlags := 16409, slot := 7, constantValue := 0 }, { name := "COMMENT", type := (.object "com/example/isoscope/isoscope/SqlLexer$Kind"), accessFlags := 16409, slot := 8, constantValue := 0 }, { name := "$VALUES", type := (.array (.object "com/example/isoscope/isoscope/SqlLexer$Kind")), accessFlags := 4122, slot := 9, constantValue := 0 }]
  methods := #[]
  instanceTypes := #[(.object "java/lang/String"), .int, .int]
  staticTypes := #[(.object "com/example/isoscope/isoscope/SqlLexer$Kind"), (.object "com/example/isoscope/isoscope/SqlLexer$Kind"), (.object "com/example/isoscope/isoscope/SqlLexer$Kind"), (.object "com/example/isoscope/isoscope/SqlLexer$Kind"), (.object "com/example/isoscope/isoscope/SqlLexer$Kind"), (.object "com/example/isoscope/isoscope/SqlLexer$Kind"), (.object "com/example/isoscope/isoscope/SqlLexer$Kind"), (.object "com/example/isoscope/isoscope/SqlLexer$Kind"), (.object "com/example/isoscope/isoscope/SqlLexer$Kind"), (.array (.object "com/example/isoscope/isoscope/SqlLexer$Kind"))]
  resolved := Array.replicate 80 none
  statics := some 1 }

def pool13 : Array CpInfo := pool [(4, .class_ 6), (1, u "java/lang/Object"), (0, u "<init>"), (0, u "()V"), (5, .class_ 16), (1, u "java/lang/StringLatin1"), (50, .class_ 69), (1, u "java/lang/CharacterDataLatin1"), (51, u "$assertionsDisabled"), (0, u "Z"), (30, .methodref 67 154), (0, .nameAndType 155 156), (0, u "equalsIgnoreCase"), (0, u "(BB)Z"), (64, .class_ 223), (1, u "java/lang/StringLatin1$LinesSpliterator"), (116, u "regionMatchesCI"), (0, u "([BI[BII)Z"), (48, .class_ 391), (0, u "java/lang/StringLatin1$CharsSpliterator")] 3

def k13m0 : Method := { name := "<init>", desc := "()V", sig := { parameters := [], returnType := none }, accessFlags := 0, code := none }
def k13c1 : Code := { maxStack := 2, maxLocals := 8, code := jdk_43_method_30_code, exceptionTable := #[], attributes := #[] }
def k13m1 : Method := { name := "regionMatchesCI", desc := "([BI[BII)Z", sig := { parameters := [(.array .byte), .int, (.array .byte), .int, .int], returnType := some .boolean }, accessFlags := 9, code := some k13c1 }
/-- java/lang/StringLatin1 -/
def k13 : Class := { plain "java/lang/StringLatin1" (some 0) with
  accessFlags := 48
  interfaces := #[]
  cf := some (fileOf pool13 14 #[.nestMembers #[390, 221]] #[{ accessFlags := 0, nameIndex := 7, descriptorIndex := 8, attributes := #[] }, { accessFlags := 9, nameIndex := 340, descriptorIndex := 341, attributes := #[] }] 48 4 #[] #[{ accessFlags := 4120, nameIndex := 121, descriptorIndex := 122, attributes := #[] }])
  fields := #[{ name := "$assertionsDisabled", type := .boolean, accessFlags := 4120, slot := 0, constantValue := 0 }]
  methods := #[k13m0, k13m1]
  instanceTypes := #[]
  staticTypes := #[.boolean]
  resolved := Array.replicate 395 none
  statics := none }

def pool14 : Array CpInfo := pool [(2, .class_ 4), (1, u "java/lang/Object"), (0, u "<init>"), (0, u "()V"), (1, .class_ 10), (1, u "java/lang/CharacterData")] 75

def k14m0 : Method := { name := "<init>", desc := "()V", sig := { parameters := [], returnType := none }, accessFlags := 0, code := none }
/-- java/lang/CharacterData -/
def k14 : Class := { plain "java/lang/CharacterData" (some 0) with
  accessFlags := 1056
  interfaces := #[]
  cf := some (fileOf pool14 8 #[] #[{ accessFlags := 0, nameIndex := 5, descriptorIndex := 6, attributes := #[] }] 1056 2 #[] #[])
  fields := #[]
  methods := #[k14m0]
  instanceTypes := #[]
  staticTypes := #[]
  resolved := Array.replicate 86 none
  statics := none }

def pool15 : Array CpInfo := pool [(2, .class_ 4), (1, u "java/lang/CharacterDataLatin1"), (0, u "A"), (0, u "[I"), (2, u "B"), (0, u "[C"), (16, u "DIGITS"), (0, u "[B"), (8, u "sharpsMap"), (1, .class_ 41), (1, u "java/lang/CharacterData"), (0, u "<init>"), (0, u "()V"), (3, u "instance"), (0, u "Ljava/lang/CharacterDataLatin1;"), (66, u "equalsIgnoreCase"), (0, u "(BB)Z")] 24

def k15c0 : Code := { maxStack := 3, maxLocals := 3, code := jdk_116_method_22_code, exceptionTable := #[], attributes := #[] }
def k15m0 : Method := { name := "equalsIgnoreCase", desc := "(BB)Z", sig := { parameters := [.byte, .byte], returnType := some .boolean }, accessFlags := 8, code := some k15c0 }
def k15m1 : Method := { name := "<init>", desc := "()V", sig := { parameters := [], returnType := none }, accessFlags := 2, code := none }
/-- java/lang/CharacterDataLatin1 -/
def k15 : Class := { plain "java/lang/CharacterDataLatin1" (some 14) with
  accessFlags := 32
  interfaces := #[]
  cf := some (fileOf pool15 2 #[] #[{ accessFlags := 8, nameIndex := 115, descriptorIndex := 116, attributes := #[] }, { accessFlags := 2, nameIndex := 42, descriptorIndex := 43, attributes := #[] }] 32 39 #[] #[{ accessFlags := 26, nameIndex := 27, descriptorIndex := 28, attributes := #[] }, { accessFlags := 8, nameIndex := 37, descriptorIndex := 10, attributes := #[] }, { accessFlags := 24, nameIndex := 47, descriptorIndex := 48, attributes := #[] }, { accessFlags := 24, nameIndex := 5, descriptorIndex := 6, attributes := #[] }, { accessFlags := 24, nameIndex := 9, descriptorIndex := 10, attributes := #[] }])
  fields := #[{ name := "DIGITS", type := (.array .byte), accessFlags := 26, slot := 0, constantValue := 0 }, { name := "sharpsMap", type := (.array .char), accessFlags := 8, slot := 1, constantValue := 0 }, { name := "instance", type := (.object "java/lang/CharacterDataLatin1"), accessFlags := 24, slot := 2, constantValue := 0 }, { name := "A", type := (.array .int), accessFlags := 24, slot := 3, constantValue := 0 }, { name := "B", type := (.array .char), accessFlags := 24, slot := 4, constantValue := 0 }]
  methods := #[k15m0, k15m1]
  instanceTypes := #[]
  staticTypes := #[(.array .byte), (.array .char), (.object "java/lang/CharacterDataLatin1"), (.array .int), (.array .char)]
  resolved := Array.replicate 141 none
  statics := none }

def pool16 : Array CpInfo := pool [(2, .class_ 4), (1, u "java/lang/Object"), (0, u "<init>"), (0, u "()V"), (17, .class_ 26), (1, u "jdk/internal/util/Preconditions"), (28, .class_ 56), (0, u "jdk/internal/util/Preconditions$4"), (57, .class_ 115), (0, u "jdk/internal/util/Preconditions$1"), (7, u "SIOOBE_FORMATTER"), (0, u "Ljava/util/function/BiFunction;"), (0, .class_ 126), (0, u "jdk/internal/util/Preconditions$2"), (3, u "AIOOBE_FORMATTER"), (0, .class_ 132), (0, u "jdk/internal/util/Preconditions$3"), (3, u "IOOBE_FORMATTER")] 57

def k16m0 : Method := { name := "<init>", desc := "()V", sig := { parameters := [], returnType := none }, accessFlags := 1, code := none }
/-- jdk/internal/util/Preconditions -/
def k16 : Class := { plain "jdk/internal/util/Preconditions" (some 0) with
  accessFlags := 33
  interfaces := #[]
  cf := some (fileOf pool16 24 #[.nestMembers #[55, 131, 125, 114]] #[{ accessFlags := 1, nameIndex := 5, descriptorIndex := 6, attributes := #[] }] 33 2 #[] #[{ accessFlags := 25, nameIndex := 123, descriptorIndex := 124, attributes := #[] }, { accessFlags := 25, nameIndex := 130, descriptorIndex := 124, attributes := #[] }, { accessFlags := 25, nameIndex := 136, descriptorIndex := 124, attributes := #[] }])
  fields := #[{ name := "SIOOBE_FORMATTER", type := (.object "java/util/function/BiFunction"), accessFlags := 25, slot := 0, constantValue := 0 }, { name := "AIOOBE_FORMATTER", type := (.object "java/util/function/BiFunction"), accessFlags := 25, slot := 1, constantValue := 0 }, { name := "IOOBE_FORMATTER", type := (.object "java/util/function/BiFunction"), accessFlags := 25, slot := 2, constantValue := 0 }]
  methods := #[k16m0]
  instanceTypes := #[]
  staticTypes := #[(.object "java/util/function/BiFunction"), (.object "java/util/function/BiFunction"), (.object "java/util/function/BiFunction")]
  resolved := Array.replicate 194 none
  statics := some 2 }

def pool17 : Array CpInfo := pool [(9, u "<init>"), (6, .class_ 18), (1, u "java/lang/Object"), (0, u "()V"), (1, .class_ 23), (1, u "jdk/internal/util/ArraysSupport"), (0, u "LOG2_ARRAY_LONG_INDEX_SCALE"), (0, u "I"), (2, u "U"), (0, u "Ljdk/internal/misc/Unsafe;"), (8, u "BIG_ENDIAN"), (0, u "Z"), (8, u "LOG2_BYTE_BIT_SIZE"), (4, u "LOG2_ARRAY_INT_INDEX_SCALE"), (54, u "JLA"), (0, u "Ljdk/internal/access/JavaLangAccess;"), (11, u "LOG2_ARRAY_BOOLEAN_INDEX_SCALE"), (9, u "LOG2_ARRAY_BYTE_INDEX_SCALE"), (5, u "LOG2_ARRAY_CHAR_INDEX_SCALE"), (5, u "LOG2_ARRAY_SHORT_INDEX_SCALE"), (18, u "LOG2_ARRAY_FLOAT_INDEX_SCALE"), (24, u "LOG2_ARRAY_DOUBLE_INDEX_SCALE"), (89, u "T_BOOLEAN"), (2, u "T_CHAR"), (1, u "T_FLOAT"), (1, u "T_DOUBLE"), (1, u "T_BYTE"), (1, u "T_SHORT"), (1, u "T_INT"), (1, u "T_LONG"), (1, u "SOFT_MAX_ARRAY_LENGTH")] 83

def k17m0 : Method := { name := "<init>", desc := "()V", sig := { parameters := [], returnType := none }, accessFlags := 2, code := none }
/-- jdk/internal/util/ArraysSupport -/
def k17 : Class := { plain "jdk/internal/util/ArraysSupport" (some 0) with
  accessFlags := 33
  interfaces := #[]
  cf := some (fileOf pool17 21 #[] #[{ accessFlags := 2, nameIndex := 9, descriptorIndex := 19, attributes := #[] }] 33 16 #[] #[{ accessFlags := 24, nameIndex := 28, descriptorIndex := 29, attributes := #[] }, { accessFlags := 26, nameIndex := 38, descriptorIndex := 39, attributes := #[] }, { accessFlags := 25, nameIndex := 121, descriptorIndex := 25, attributes := #[] }, { accessFlags := 25, nameIndex := 131, descriptorIndex := 25, attributes := #[] }, { accessFlags := 25, nameIndex := 137, descriptorIndex := 25, attributes := #[] }, { accessFlags := 25, nameIndex := 143, descriptorIndex := 25, attributes := #[] }, { accessFlags := 25, nameIndex := 53, descriptorIndex := 25, attributes := #[] }, { accessFlags := 25, nameIndex := 24, descriptorIndex := 25, attributes := #[] }, { accessFlags := 25, nameIndex := 162, descriptorIndex := 25, attributes := #[] }, { accessFlags := 25, nameIndex := 187, descriptorIndex := 25, attributes := #[] }, { accessFlags := 26, nameIndex := 48, descriptorIndex := 25, attributes := #[] }, { accessFlags := 25, nameIndex := 277, descriptorIndex := 25, attributes := #[] }, { accessFlags := 25, nameIndex := 280, descriptorIndex := 25, attributes := #[] }, { accessFlags := 25, nameIndex := 282, descriptorIndex := 25, attributes := #[] }, { accessFlags := 25, nameIndex := 284, descriptorIndex := 25, attributes := #[] }, { accessFlags := 25, nameIndex := 286, descriptorIndex := 25, attributes := #[] }, { accessFlags := 25, nameIndex := 288, descriptorIndex := 25, attributes := #[] }, { accessFlags := 25, nameIndex := 290, descriptorIndex := 25, attributes := #[] }, { accessFlags := 25, nameIndex := 292, descriptorIndex := 25, attributes := #[] }, { accessFlags := 26, nameIndex := 108, descriptorIndex := 109, attributes := #[] }, { accessFlags := 25, nameIndex := 294, descriptorIndex := 25, attributes := #[] }])
  fields := #[{ name := "U", type := (.object "jdk/internal/misc/Unsafe"), accessFlags := 24, slot := 0, constantValue := 0 }, { name := "BIG_ENDIAN", type := .boolean, accessFlags := 26, slot := 1, constantValue := 0 }, { name := "LOG2_ARRAY_BOOLEAN_INDEX_SCALE", type := .int, accessFlags := 25, slot := 2, constantValue := 0 }, { name := "LOG2_ARRAY_BYTE_INDEX_SCALE", type := .int, accessFlags := 25, slot := 3, constantValue := 0 }, { name := "LOG2_ARRAY_CHAR_INDEX_SCALE", type := .int, accessFlags := 25, slot := 4, constantValue := 0 }, { name := "LOG2_ARRAY_SHORT_INDEX_SCALE", type := .int, accessFlags := 25, slot := 5, constantValue := 0 }, { name := "LOG2_ARRAY_INT_INDEX_SCALE", type := .int, accessFlags := 25, slot := 6, constantValue := 0 }, { name := "LOG2_ARRAY_LONG_INDEX_SCALE", type := .int, accessFlags := 25, slot := 7, constantValue := 0 }, { name := "LOG2_ARRAY_FLOAT_INDEX_SCALE", type := .int, accessFlags := 25, slot := 8, constantValue := 0 }, { name := "LOG2_ARRAY_DOUBLE_INDEX_SCALE", type := .int, accessFlags := 25, slot := 9, constantValue := 0 }, { name := "LOG2_BYTE_BIT_SIZE", type := .int, accessFlags := 26, slot := 10, constantValue := 0 }, { name := "T_BOOLEAN", type := .int, accessFlags := 25, slot := 11, constantValue := 0 }, { name := "T_CHAR", type := .int, accessFlags := 25, slot := 12, constantValue := 0 }, { name := "T_FLOAT", type := .int, accessFlags := 25, slot := 13, constantValue := 0 }, { name := "T_DOUBLE", type := .int, accessFlags := 25, slot := 14, constantValue := 0 }, { name := "T_BYTE", type := .int, accessFlags := 25, slot := 15, constantValue := 0 }, { name := "T_SHORT", type := .int, accessFlags := 25, slot := 16, constantValue := 0 }, { name := "T_INT", type := .int, accessFlags := 25, slot := 17, constantValue := 0 }, { name := "T_LONG", type := .int, accessFlags := 25, slot := 18, constantValue := 0 }, { name := "JLA", type := (.object "jdk/internal/access/JavaLangAccess"), accessFlags := 26, slot := 19, constantValue := 0 }, { name := "SOFT_MAX_ARRAY_LENGTH", type := .int, accessFlags := 25, slot := 20, constantValue := 0 }]
  methods := #[k17m0]
  instanceTypes := #[]
  staticTypes := #[(.object "jdk/internal/misc/Unsafe"), .boolean, .int, .int, .int, .int, .int, .int, .int, .int, .int, .int, .int, .int, .int, .int, .int, .int, .int, (.object "jdk/internal/access/JavaLangAccess"), .int]
  resolved := Array.replicate 378 none
  statics := none }

def pool18 : Array CpInfo := pool [(1, u "java/lang/Cloneable"), (0, .class_ 1), (0, u "java/lang/Object"), (0, .class_ 3)] 3

/-- java/lang/Cloneable -/
def k18 : Class := { plain "java/lang/Cloneable" (some 0) with
  accessFlags := 1537
  interfaces := #[]
  cf := some (fileOf pool18 2 #[] #[] 1537 4 #[] #[])
  fields := #[]
  methods := #[]
  instanceTypes := #[]
  staticTypes := #[]
  resolved := Array.replicate 8 none
  statics := none }

/-- the primitive byte -/
def k19 : Class := { plain "byte" none with kind := .primitive 'B', accessFlags := 0x411 }
/-- [B -/
def k20 : Class := { plain "[B" (some 0) with kind := .array 19 .byte, interfaces := #[18, 2], accessFlags := 1041 }

/-- the primitive char -/
def k21 : Class := { plain "char" none with kind := .primitive 'C', accessFlags := 0x411 }
/-- [C -/
def k22 : Class := { plain "[C" (some 0) with kind := .array 21 .char, interfaces := #[18, 2], accessFlags := 1041 }

/-- the primitive int -/
def k23 : Class := { plain "int" none with kind := .primitive 'I', accessFlags := 0x411 }
/-- [I -/
def k24 : Class := { plain "[I" (some 0) with kind := .array 23 .int, interfaces := #[18, 2], accessFlags := 1041 }

def heap : Heap := #[{ cls := 7, slots := #[.long 0, .int 1, .null, .int 0, .null, .int 0, .int 0], vm := .statics 7 },
  { cls := 12, slots := #[.ref 3, .ref 4, .ref 5, .ref 6, .ref 7, .ref 8, .ref 9, .ref 10, .ref 11, .null], vm := .statics 12 },
  { cls := 16, slots := #[.null, .null, .null], vm := .statics 16 },
  { cls := 12, slots := #[.null, .int 0, .int 0], vm := .none },
  { cls := 12, slots := #[.null, .int 1, .int 0], vm := .none },
  { cls := 12, slots := #[.null, .int 2, .int 0], vm := .none },
  { cls := 12, slots := #[.null, .int 3, .int 0], vm := .none },
  { cls := 12, slots := #[.null, .int 4, .int 0], vm := .none },
  { cls := 12, slots := #[.null, .int 5, .int 0], vm := .none },
  { cls := 12, slots := #[.null, .int 6, .int 0], vm := .none },
  { cls := 12, slots := #[.null, .int 7, .int 0], vm := .none },
  { cls := 12, slots := #[.null, .int 8, .int 0], vm := .none }]
def classes : Array Class := #[k0, k1, k2, k3, k4, k5, k6, k7, k8, k9, k10, k11, k12, k13, k14, k15, k16, k17, k18, k19, k20, k21, k22, k23, k24]
def interned : List (Array UInt16 × Addr) := []
def slotsUsed : Nat := 47
def theMethod : MethodId := ⟨1, 1⟩
def args0 : Array Value := #[.int 1, .int 2, .int 3, .long 4, .long 5, .int 63]
def aboutOver (below : List Frame) : State where
  vm := { classes := classes, interned := interned.toArray }
  heap := heap
  slotsUsed := slotsUsed
  threads := #[{ frames := .invoking theMethod args0 :: below }]
def below0 : List Frame := [.native { method := ⟨0, 0⟩, args := #[] }]
def about1 : State := aboutOver below0
def p0 : Program := .bare "" "" ""
def e0 : Env := launch0.env 0 0 0
theorem w_frames : about1.frames = Frame.invoking theMethod args0 :: below0 := rfl
set_option maxRecDepth 65536 in
theorem w_args : argsFit about1.vm theMethod args0 = true := by decide +kernel
set_option maxRecDepth 65536 in
theorem w_heap : heapFits about1 = true := by decide +kernel
set_option maxRecDepth 65536 in
theorem w_runnable : about1.curStatus? = some .runnable := by decide +kernel
set_option maxRecDepth 65536 in
theorem w_alone : about1.alone = true := by decide +kernel
set_option maxRecDepth 65536 in
theorem w_named : about1.methodNamed? x = some theMethod := by decide +kernel
set_option maxRecDepth 65536 in
theorem w_hears : about1.hears theMethod below0 = true := by decide +kernel
set_option maxRecDepth 65536 in
theorem w_ripe : about1.ripe theMethod args0 below0 = true := by decide +kernel
theorem w_running : about1.status = .running := rfl
set_option maxRecDepth 65536 in
theorem w_room : about1.hasRoom e0.platform room_1 = true :=
  launch0.hasRoom_least _ room_1 (by decide +kernel) (by decide +kernel) (by decide +kernel) (by decide +kernel) (by decide +kernel) (by decide +kernel)
theorem allAtoms_all (ts : List Jvm.Cond) (a : Array Jvm.Value) (st : Jvm.State) : (allAtoms ts).before a st = ts.all (fun c => c.before a st) := by
  induction ts with
  | nil => rfl
  | cons c t ih =>
    show (Jvm.Cond.and c (allAtoms t)).before a st = _
    rw [Jvm.Cond.before_and, ih, List.all_cons]
def words1 : List Jvm.Cond := Jvm.Cond.code x code maxLocals ret :: tables_1
/-- a 'code' word, met by the world's own term for the bytes: nothing is compared byte by byte -/
theorem code_word {y : MethodName} {bytes : ByteArray} {mx : Nat} {rt : Option FieldType} {a : Array Value} {s : State} {m : MethodId} {meth : Method} {c : Code} (h1 : s.methodNamed? y = some m) (h2 : s.vm.method? m = some meth) (h3 : meth.code = some c) (h4 : c.code = bytes)
    (h5 : (c.maxLocals == mx && c.exceptionTable.isEmpty && decide (c.maxStack ≤ mostOperands) && decide (meth.sig.returnType = rt) && !meth.locks && decide (parseMethodDescriptor y.desc = some meth.sig)) = true) : (Jvm.Cond.code y bytes mx rt).before a s = true := by
  simp only [Bool.and_eq_true, beq_iff_eq, Bool.not_eq_true', decide_eq_true_eq] at h5
  obtain ⟨⟨⟨⟨⟨g1, g2⟩, g3⟩, g4⟩, g5⟩, g6⟩ := h5
  simp [Cond.before, Cond.holds, Cond.value, h1, h2, h3, h4, g1, g2, g3, g4, g5, g6]
def isCode : Jvm.Cond → Bool
  | .code _ _ _ _ => true
  | _ => false
theorem all_split {L : List Jvm.Cond} {P : Jvm.Cond → Bool} (h1 : L.all (fun c => isCode c || P c) = true) (h2 : ∀ c ∈ L.filter isCode, P c = true) : L.all P = true := by
  refine List.all_eq_true.mpr fun c hc => ?_
  have h := List.all_eq_true.mp h1 c hc
  rcases Bool.eq_false_or_eq_true (isCode c) with hi | hi
  · exact h2 c (List.mem_filter.mpr ⟨hc, hi⟩)
  · simpa [hi] using h
set_option maxRecDepth 65536 in
theorem w_c0 : (Jvm.Cond.code x code maxLocals ret).before args0 about1 = true := code_word (m := ⟨1, 1⟩) (meth := k1m1) (c := k1c1) (by decide +kernel) rfl rfl rfl (by decide +kernel)
set_option maxRecDepth 65536 in
theorem w_c1 : (Jvm.Cond.code ({ cls := "com/example/isoscope/isoscope/TokenIsPinLaw", name := "tc", desc := "(III[CII)C" } : Jvm.MethodName) method_3_code (9 : Nat) (Option.some Jvm.ClassFile.FieldType.char)).before args0 about1 = true := code_word (m := ⟨1, 2⟩) (meth := k1m2) (c := k1c2) (by decide +kernel) rfl rfl rfl (by decide +kernel)
set_option maxRecDepth 65536 in
theorem w_c2 : (Jvm.Cond.code ({ cls := "com/example/isoscope/isoscope/TokenIsPinLaw", name := "prefix", desc := "([CI)Ljava/lang/String;" } : Jvm.MethodName) method_5_code (2 : Nat) (Option.some (Jvm.ClassFile.FieldType.object "java/lang/String"))).before args0 about1 = true := code_word (m := ⟨1, 4⟩) (meth := k1m4) (c := k1c4) (by decide +kernel) rfl rfl rfl (by decide +kernel)
set_option maxRecDepth 65536 in
theorem w_c3 : (Jvm.Cond.code ({ cls := "java/lang/String", name := "<init>", desc := "([C)V" } : Jvm.MethodName) jdk_42_method_3_code (2 : Nat) (Option.none : Option Jvm.ClassFile.FieldType)).before args0 about1 = true := code_word (m := ⟨7, 1⟩) (meth := k7m1) (c := k7c1) (by decide +kernel) rfl rfl rfl (by decide +kernel)
set_option maxRecDepth 65536 in
theorem w_c4 : (Jvm.Cond.code ({ cls := "java/lang/String", name := "<init>", desc := "([CIILjava/lang/Void;)V" } : Jvm.MethodName) jdk_42_method_149_code (6 : Nat) (Option.none : Option Jvm.ClassFile.FieldType)).before args0 about1 = true := code_word (m := ⟨7, 4⟩) (meth := k7m4) (c := k7c4) (by decide +kernel) rfl rfl rfl (by decide +kernel)
set_option maxRecDepth 65536 in
theorem w_c5 : (Jvm.Cond.code ({ cls := "java/lang/Object", name := "<init>", desc := "()V" } : Jvm.MethodName) object_method_1_code (1 : Nat) (Option.none : Option Jvm.ClassFile.FieldType)).before args0 about1 = true := code_word (m := ⟨0, 0⟩) (meth := k0m0) (c := k0c0) (by decide +kernel) rfl rfl rfl (by decide +kernel)
set_option maxRecDepth 65536 in
theorem w_c6 : (Jvm.Cond.code ({ cls := "java/lang/StringUTF16", name := "compress", desc := "([CII)[B" } : Jvm.MethodName) jdk_52_method_16_code (6 : Nat) (Option.some (Jvm.ClassFile.FieldType.array Jvm.ClassFile.FieldType.byte))).before args0 about1 = true := code_word (m := ⟨8, 2⟩) (meth := k8m2) (c := k8c2) (by decide +kernel) rfl rfl rfl (by decide +kernel)
set_option maxRecDepth 65536 in
theorem w_c7 : (Jvm.Cond.code ({ cls := "java/lang/StringUTF16", name := "compress", desc := "([CI[BII)I" } : Jvm.MethodName) jdk_52_method_21_code (7 : Nat) (Option.some Jvm.ClassFile.FieldType.int)).before args0 about1 = true := code_word (m := ⟨8, 3⟩) (meth := k8m3) (c := k8c3) (by decide +kernel) rfl rfl rfl (by decide +kernel)
set_option maxRecDepth 65536 in
theorem w_c8 : (Jvm.Cond.code ({ cls := "java/lang/StringUTF16", name := "coderFromArrayLen", desc := "([BI)B" } : Jvm.MethodName) jdk_52_method_15_code (2 : Nat) (Option.some Jvm.ClassFile.FieldType.byte)).before args0 about1 = true := code_word (m := ⟨8, 1⟩) (meth := k8m1) (c := k8c1) (by decide +kernel) rfl rfl rfl (by decide +kernel)
set_option maxRecDepth 65536 in
theorem w_c9 : (Jvm.Cond.code ({ cls := "com/example/isoscope/isoscope/TokenIsPinLaw", name := "kind", desc := "(I)Lcom/example/isoscope/isoscope/SqlLexer$Kind;" } : Jvm.MethodName) method_6_code (1 : Nat) (Option.some (Jvm.ClassFile.FieldType.object "com/example/isoscope/isoscope/SqlLexer$Kind"))).before args0 about1 = true := code_word (m := ⟨1, 5⟩) (meth := k1m5) (c := k1c5) (by decide +kernel) rfl rfl rfl (by decide +kernel)
set_option maxRecDepth 65536 in
theorem w_c10 : (Jvm.Cond.code ({ cls := "com/example/isoscope/isoscope/SqlLexer$Token", name := "<init>", desc := "(Lcom/example/isoscope/isoscope/SqlLexer$Kind;IIZ)V" } : Jvm.MethodName) prog_29_method_1_code (5 : Nat) (Option.none : Option Jvm.ClassFile.FieldType)).before args0 about1 = true := code_word (m := ⟨10, 0⟩) (meth := k10m0) (c := k10c0) (by decide +kernel) rfl rfl rfl (by decide +kernel)
set_option maxRecDepth 65536 in
theorem w_c11 : (Jvm.Cond.code ({ cls := "java/lang/Record", name := "<init>", desc := "()V" } : Jvm.MethodName) jdk_30_method_1_code (1 : Nat) (Option.none : Option Jvm.ClassFile.FieldType)).before args0 about1 = true := code_word (m := ⟨9, 0⟩) (meth := k9m0) (c := k9c0) (by decide +kernel) rfl rfl rfl (by decide +kernel)
set_option maxRecDepth 65536 in
theorem w_c12 : (Jvm.Cond.code ({ cls := "com/example/isoscope/isoscope/SqlLexer$Token", name := "is", desc := "(Ljava/lang/String;Lcom/example/isoscope/isoscope/SqlLexer$Kind;Ljava/lang/String;)Z" } : Jvm.MethodName) prog_29_method_2_code (4 : Nat) (Option.some Jvm.ClassFile.FieldType.boolean)).before args0 about1 = true := code_word (m := ⟨10, 1⟩) (meth := k10m1) (c := k10c1) (by decide +kernel) rfl rfl rfl (by decide +kernel)
set_option maxRecDepth 65536 in
theorem w_c13 : (Jvm.Cond.code ({ cls := "java/lang/String", name := "length", desc := "()I" } : Jvm.MethodName) jdk_42_method_54_code (1 : Nat) (Option.some Jvm.ClassFile.FieldType.int)).before args0 about1 = true := code_word (m := ⟨7, 2⟩) (meth := k7m2) (c := k7c2) (by decide +kernel) rfl rfl rfl (by decide +kernel)
set_option maxRecDepth 65536 in
theorem w_c14 : (Jvm.Cond.code ({ cls := "java/lang/String", name := "coder", desc := "()B" } : Jvm.MethodName) jdk_42_method_152_code (1 : Nat) (Option.some Jvm.ClassFile.FieldType.byte)).before args0 about1 = true := code_word (m := ⟨7, 5⟩) (meth := k7m5) (c := k7c5) (by decide +kernel) rfl rfl rfl (by decide +kernel)
set_option maxRecDepth 65536 in
theorem w_c15 : (Jvm.Cond.code ({ cls := "java/lang/String", name := "regionMatches", desc := "(ZILjava/lang/String;II)Z" } : Jvm.MethodName) jdk_42_method_74_code (9 : Nat) (Option.some Jvm.ClassFile.FieldType.boolean)).before args0 about1 = true := code_word (m := ⟨7, 3⟩) (meth := k7m3) (c := k7c3) (by decide +kernel) rfl rfl rfl (by decide +kernel)
set_option maxRecDepth 65536 in
theorem w_c16 : (Jvm.Cond.code ({ cls := "com/example/isoscope/isoscope/TokenIsPinLaw", name := "fold", desc := "(C)I" } : Jvm.MethodName) method_4_code (2 : Nat) (Option.some Jvm.ClassFile.FieldType.int)).before args0 about1 = true := code_word (m := ⟨1, 3⟩) (meth := k1m3) (c := k1c3) (by decide +kernel) rfl rfl rfl (by decide +kernel)
set_option maxRecDepth 65536 in
theorem w_c17 : (Jvm.Cond.code ({ cls := "java/lang/StringLatin1", name := "regionMatchesCI", desc := "([BI[BII)Z" } : Jvm.MethodName) jdk_43_method_30_code (8 : Nat) (Option.some Jvm.ClassFile.FieldType.boolean)).before args0 about1 = true := code_word (m := ⟨13, 1⟩) (meth := k13m1) (c := k13c1) (by decide +kernel) rfl rfl rfl (by decide +kernel)
set_option maxRecDepth 65536 in
theorem w_c18 : (Jvm.Cond.code ({ cls := "java/lang/CharacterDataLatin1", name := "equalsIgnoreCase", desc := "(BB)Z" } : Jvm.MethodName) jdk_116_method_22_code (3 : Nat) (Option.some Jvm.ClassFile.FieldType.boolean)).before args0 about1 = true := code_word (m := ⟨15, 0⟩) (meth := k15m0) (c := k15c0) (by decide +kernel) rfl rfl rfl (by decide +kernel)
def codes1 : List Jvm.Cond := [Jvm.Cond.code x code maxLocals ret, Jvm.Cond.code ({ cls := "com/example/isoscope/isoscope/TokenIsPinLaw", name := "tc", desc := "(III[CII)C" } : Jvm.MethodName) method_3_code (9 : Nat) (Option.some Jvm.ClassFile.FieldType.char), Jvm.Cond.code ({ cls := "com/example/isoscope/isoscope/TokenIsPinLaw", name := "prefix", desc := "([CI)Ljava/lang/String;" } : Jvm.MethodName) method_5_code (2 : Nat) (Option.some (Jvm.ClassFile.FieldType.object "java/lang/String")), Jvm.Cond.code ({ cls := "java/lang/String", name := "<init>", desc := "([C)V" } : Jvm.MethodName) jdk_42_method_3_code (2 : Nat) (Option.none : Option Jvm.ClassFile.FieldType), Jvm.Cond.code ({ cls := "java/lang/String", name := "<init>", desc := "([CIILjava/lang/Void;)V" } : Jvm.MethodName) jdk_42_method_149_code (6 : Nat) (Option.none : Option Jvm.ClassFile.FieldType), Jvm.Cond.code ({ cls := "java/lang/Object", name := "<init>", desc := "()V" } : Jvm.MethodName) object_method_1_code (1 : Nat) (Option.none : Option Jvm.ClassFile.FieldType), Jvm.Cond.code ({ cls := "java/lang/StringUTF16", name := "compress", desc := "([CII)[B" } : Jvm.MethodName) jdk_52_method_16_code (6 : Nat) (Option.some (Jvm.ClassFile.FieldType.array Jvm.ClassFile.FieldType.byte)), Jvm.Cond.code ({ cls := "java/lang/StringUTF16", name := "compress", desc := "([CI[BII)I" } : Jvm.MethodName) jdk_52_method_21_code (7 : Nat) (Option.some Jvm.ClassFile.FieldType.int), Jvm.Cond.code ({ cls := "java/lang/StringUTF16", name := "coderFromArrayLen", desc := "([BI)B" } : Jvm.MethodName) jdk_52_method_15_code (2 : Nat) (Option.some Jvm.ClassFile.FieldType.byte), Jvm.Cond.code ({ cls := "com/example/isoscope/isoscope/TokenIsPinLaw", name := "kind", desc := "(I)Lcom/example/isoscope/isoscope/SqlLexer$Kind;" } : Jvm.MethodName) method_6_code (1 : Nat) (Option.some (Jvm.ClassFile.FieldType.object "com/example/isoscope/isoscope/SqlLexer$Kind")), Jvm.Cond.code ({ cls := "com/example/isoscope/isoscope/SqlLexer$Token", name := "<init>", desc := "(Lcom/example/isoscope/isoscope/SqlLexer$Kind;IIZ)V" } : Jvm.MethodName) prog_29_method_1_code (5 : Nat) (Option.none : Option Jvm.ClassFile.FieldType), Jvm.Cond.code ({ cls := "java/lang/Record", name := "<init>", desc := "()V" } : Jvm.MethodName) jdk_30_method_1_code (1 : Nat) (Option.none : Option Jvm.ClassFile.FieldType), Jvm.Cond.code ({ cls := "com/example/isoscope/isoscope/SqlLexer$Token", name := "is", desc := "(Ljava/lang/String;Lcom/example/isoscope/isoscope/SqlLexer$Kind;Ljava/lang/String;)Z" } : Jvm.MethodName) prog_29_method_2_code (4 : Nat) (Option.some Jvm.ClassFile.FieldType.boolean), Jvm.Cond.code ({ cls := "java/lang/String", name := "length", desc := "()I" } : Jvm.MethodName) jdk_42_method_54_code (1 : Nat) (Option.some Jvm.ClassFile.FieldType.int), Jvm.Cond.code ({ cls := "java/lang/String", name := "coder", desc := "()B" } : Jvm.MethodName) jdk_42_method_152_code (1 : Nat) (Option.some Jvm.ClassFile.FieldType.byte), Jvm.Cond.code ({ cls := "java/lang/String", name := "regionMatches", desc := "(ZILjava/lang/String;II)Z" } : Jvm.MethodName) jdk_42_method_74_code (9 : Nat) (Option.some Jvm.ClassFile.FieldType.boolean), Jvm.Cond.code ({ cls := "com/example/isoscope/isoscope/TokenIsPinLaw", name := "fold", desc := "(C)I" } : Jvm.MethodName) method_4_code (2 : Nat) (Option.some Jvm.ClassFile.FieldType.int), Jvm.Cond.code ({ cls := "java/lang/StringLatin1", name := "regionMatchesCI", desc := "([BI[BII)Z" } : Jvm.MethodName) jdk_43_method_30_code (8 : Nat) (Option.some Jvm.ClassFile.FieldType.boolean), Jvm.Cond.code ({ cls := "java/lang/CharacterDataLatin1", name := "equalsIgnoreCase", desc := "(BB)Z" } : Jvm.MethodName) jdk_116_method_22_code (3 : Nat) (Option.some Jvm.ClassFile.FieldType.boolean)]
set_option maxRecDepth 65536 in
theorem codes_eq : words1.filter isCode = codes1 := rfl
theorem w_codes : ∀ c ∈ words1.filter isCode, c.before args0 about1 = true := by
  rw [codes_eq]
  intro c hc
  simp only [codes1, List.mem_cons, List.not_mem_nil, or_false] at hc
  rcases hc with rfl | rfl | rfl | rfl | rfl | rfl | rfl | rfl | rfl | rfl | rfl | rfl | rfl | rfl | rfl | rfl | rfl | rfl | rfl
  · exact w_c0
  · exact w_c1
  · exact w_c2
  · exact w_c3
  · exact w_c4
  · exact w_c5
  · exact w_c6
  · exact w_c7
  · exact w_c8
  · exact w_c9
  · exact w_c10
  · exact w_c11
  · exact w_c12
  · exact w_c13
  · exact w_c14
  · exact w_c15
  · exact w_c16
  · exact w_c17
  · exact w_c18
set_option maxRecDepth 65536 in
theorem w_t1 : (words1.take 24).all (fun c => isCode c || c.before args0 about1) = true := by decide +kernel
set_option maxRecDepth 65536 in
theorem w_t2 : ((words1.drop 24).take 24).all (fun c => isCode c || c.before args0 about1) = true := by decide +kernel
set_option maxRecDepth 65536 in
theorem w_t3 : (((words1.drop 24).drop 24).take 24).all (fun c => isCode c || c.before args0 about1) = true := by decide +kernel
set_option maxRecDepth 65536 in
theorem w_t4 : ((((words1.drop 24).drop 24).drop 24).take 24).all (fun c => isCode c || c.before args0 about1) = true := by decide +kernel
set_option maxRecDepth 65536 in
theorem w_t5 : ((((words1.drop 24).drop 24).drop 24).drop 24).all (fun c => isCode c || c.before args0 about1) = true := by decide +kernel
theorem w_tables : (allAtoms (Jvm.Cond.code x code maxLocals ret :: tables_1)).before args0 about1 = true := by
  rw [allAtoms_all]
  show words1.all (fun c => c.before args0 about1) = true
  refine all_split ?_ w_codes
  rw [← List.take_append_drop 24 words1, List.all_append, w_t1, ← List.take_append_drop 24 (words1.drop 24), List.all_append, w_t2, ← List.take_append_drop 24 ((words1.drop 24).drop 24), List.all_append, w_t3, ← List.take_append_drop 24 (((words1.drop 24).drop 24).drop 24), List.all_append, w_t4, w_t5]
  rfl
set_option maxRecDepth 65536 in
theorem w_rest : rest_1_c.before args0 about1 = true := by decide +kernel
set_option maxRecDepth 65536 in
theorem w_case : (Jvm.Cond.and given_1 narrow_1).before args0 about1 = true := by decide +kernel
set_option maxRecDepth 65536 in
theorem w_consts : constsHeld consts_1 about1 := Jvm.Lit.constsHeldB_iff.mp (by decide +kernel)
theorem w_applies : (headSpec (Jvm.Cond.code x code maxLocals ret :: tables_1) room_1).applies x e0.platform about1 = true :=
  (Spec.applies_iff w_frames).mpr ⟨w_running, w_runnable, w_alone, w_named, w_hears, w_ripe, w_room, w_tables⟩
theorem atStart : AtStart classFile x code maxLocals ret World_1 tables_1 room_1 Calls_1 rest_1 Pre_1 launch0 p0 e0 about1 theMethod args0 below0 :=
  ⟨lists_1, trivial, launch0.admits_env _ _ _, launch0.least_env, fairChoices_fair.cas, fairChoices_fair.clock, w_frames, w_args, w_heap, w_applies, ⟨w_consts, trivial⟩, w_rest, w_case⟩
end start1
theorem witness_1 : WitnessClaimed_1 := ⟨start1.p0, start1.e0, start1.about1, start1.theMethod, start1.args0, start1.below0, start1.atStart⟩
end Jvm.Pilot.@@N@@
