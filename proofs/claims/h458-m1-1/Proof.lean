import JvmDerived
import JvmDerived.Pilot.@@N@@Statement
import JvmDerived.Pilot.@@N@@Code
set_option linter.unusedVariables false
set_option linter.unusedSimpArgs false
namespace Jvm.Pilot.@@N@@
open Jvm Jvm.ClassFile Sem Op Lib Jvm.Free Jvm.Stand Jvm.LawKit Jvm.RoadKit Bundle Jvm.Pilot.@@N@@.Jvm.D
section OwnKit
variable {p : Program} {l : Launch} {e : Env} {R : Room} {s : State} {m : MethodId} {args : Array Value} {below : List Frame} {meth : Method} {c : Code} {T : State} {locs : List Loc} {cells slots : Nat} {Z : State} {a0 : Array Value} {h h' h0 : Heap}
/-- the run comes, from the frame g over T, to an end of which F holds -/
def own_Go (tb : Tables) (e : Env) (below : List Frame) (F : State → Outcome → Prop) (T : State) (g : JFrame) : Prop := ∃ s₂ o, Steps tb e below (T.setTop g) s₂ ∧ F s₂ o
theorem own_st {tb : Tables} {F : State → Outcome → Prop} {T' : State} {g g' : JFrame} (st : ∀ t, Steps tb e below (T'.setTop g') t → Steps tb e below (T.setTop g) t) (k : own_Go tb e below F T' g') : own_Go tb e below F T g := by
  obtain ⟨a, o, h1, h2⟩ := k
  exact ⟨a, o, st a h1, h2⟩
/-- the end that a contract asks -/
def own_F (below : List Frame) (s : State) (Q : Option Value → Heap → List Loc → Prop) (C S : Nat) : State → Outcome → Prop := fun s₂ o => s₂.status = .running ∧ Ended s₂ below o ∧ ∃ v L, o = .returned v ∧ Q v s₂.heap L ∧ FrameEnd s o s₂ L C S
/-- what a body's walk knows of the body -/
def own_In (p : Program) (s : State) (m : MethodId) (meth : Method) (c : Code) (Z : State) (bytes : ByteArray) (maxL : Nat) (own nm : String) (ret : Option FieldType) : Prop := p.tables.exec = Jvm.exec ∧ c.code = bytes ∧ c.maxLocals = maxL ∧ s.vm.findClass own = some m.cls ∧ meth.name = nm ∧ meth.sig.returnType = ret ∧ meth.locks = false ∧ Z.Warmed39 s.vm
theorem own_enter {y : MethodName} {bytes : ByteArray} {maxL : Nat} {ret : Option FieldType} {ws : List Jvm.Cond} {rm : Room} {as' : Array Value} {Q : Option Value → Heap → List Loc → Prop} {C S : Nat} (hp : plainFor y = true)
    (body : ∀ (p : Program) (e : Env) (s : State) (m : MethodId) (below : List Frame) (meth : Method) (c : Code) (T : State), Stand p l e rm s m as' below meth c T [] 0 0 → own_In p s m meth c Z bytes maxL y.cls y.name ret → T.heap = h0 → own_Go p.tables e below (own_F below s Q C S) T (entryFrame m as' maxL)) :
    MetFree l y (head1 (Jvm.Cond.code y bytes maxL ret :: ws) rm) (fun a U => a = as' ∧ Z.Warmed39 U.vm ∧ U.heap = h0) (fun _ _ _ _ _ => True) (fun _ U o U' => ∃ v L, o = .returned v ∧ Q v U'.heap L ∧ FrameEnd U o U' L C S) := by
  refine MetFree.of_bodySF hp hisR ?_
  intro p e s m args below meth c s₁ Bd hml0 hP hK
  obtain ⟨rfl, hZ, hh⟩ := hP
  exact body p e s m below meth c s₁ (Stand.of_body Bd) ⟨Bd.exec, Bd.bytes, hml0, findClass_of_methodNamed Bd.named, (name_of_methodNamed Bd.named Bd.method).1, Bd.returns, Bd.notSynchronized, hZ⟩ (by rw [← hh, Bd.state]; rfl)
theorem own_cast {tb : Tables} {F : State → Outcome → Prop} {g g' : JFrame} (q : g = g') (k : own_Go tb e below F T g') : own_Go tb e below F T g := q ▸ k
/-- the end of a walk: a boolean, byte, char or short -/
theorem own_retN (X : Stand p l e R s m args below meth c T locs cells slots) (hx : p.tables.exec = Jvm.exec) {t : FieldType} (hret : meth.sig.returnType = some t) (ht : t = .boolean ∨ t = .byte ∨ t = .char ∨ t = .short) (hlk : meth.locks = false) {pc : Nat} {Ls : Array Slot} {z : Int32} {rest : List Value}
    (hd : decode c.code pc = .ok (.ireturn, 1)) {Q : Option Value → Heap → List Loc → Prop} {C S : Nat} (hQ : Q (some (.int (nar t z))) T.heap locs) (hC : cells ≤ C) (hS : slots ≤ S) : own_Go p.tables e below (own_F below s Q C S) T (mkF m pc Ls (.int z :: rest)) := by
  obtain ⟨fs, hr, hrun, hended, hW, hsame⟩ := X.leave (v := some (.int (nar t z))) (fun q => by rw [hret] at q; cases q)
  exact ⟨_, _, retN X hx hret ht hd hr, hrun, hended, _, _, rfl, hQ, ⟨_, rfl⟩, hW, hsame.mono hC hS⟩
theorem own_retO (X : Stand p l e R s m args below meth c T locs cells slots) (hx : p.tables.exec = Jvm.exec) {t : FieldType} (hret : meth.sig.returnType = some t) (hlk : meth.locks = false) {pc : Nat} {Ls : Array Slot} {w : Value} {i : Instr} {rest : List Value} (hn : narrow t w = w)
    (hi : (i = .ireturn ∧ (t = .int ∨ t = .boolean ∨ t = .byte ∨ t = .char ∨ t = .short) ∧ ∃ z, w = .int z) ∨ (i = .lreturn ∧ t = .long ∧ ∃ z, w = .long z) ∨ (i = .dreturn ∧ t = .double ∧ ∃ z, w = .double z) ∨ (i = .freturn ∧ t = .float ∧ ∃ z, w = .float z) ∨ (i = .areturn ∧ t.isReference = true ∧ w.isRef = true))
    (hd : decode c.code pc = .ok (i, 1)) {Q : Option Value → Heap → List Loc → Prop} {C S : Nat} (hQ : Q (some w) T.heap locs) (hC : cells ≤ C) (hS : slots ≤ S) : own_Go p.tables e below (own_F below s Q C S) T (mkF m pc Ls (w :: rest)) := by
  obtain ⟨fs, hr, hrun, hended, hW, hsame⟩ := X.leave (v := some w) (fun q => by rw [hret] at q; cases q)
  exact ⟨_, _, retOut X hx hret hn hi hd hr, hrun, hended, _, _, rfl, hQ, ⟨_, rfl⟩, hW, hsame.mono hC hS⟩
/-- a reference -/
theorem own_retA (X : Stand p l e R s m args below meth c T locs cells slots) (hx : p.tables.exec = Jvm.exec) {t : FieldType} (hret : meth.sig.returnType = some t) (ht : t.isReference = true) (hlk : meth.locks = false) {pc : Nat} {Ls : Array Slot} {w : Value} {rest : List Value} (hw : w.isRef = true)
    (hd : decode c.code pc = .ok (.areturn, 1)) {Q : Option Value → Heap → List Loc → Prop} {C S : Nat} (hQ : Q (some w) T.heap locs) (hC : cells ≤ C) (hS : slots ≤ S) : own_Go p.tables e below (own_F below s Q C S) T (mkF m pc Ls (w :: rest)) := by
  refine own_retO X hx hret hlk ?_ (Or.inr (Or.inr (Or.inr (Or.inr ⟨rfl, ht, hw⟩)))) hd hQ hC hS
  rcases ref_cases hw with rfl | ⟨a, rfl⟩ <;> cases t <;> first | rfl | (simp [FieldType.isReference] at ht)
/-- an int -/
theorem own_retI (X : Stand p l e R s m args below meth c T locs cells slots) (hx : p.tables.exec = Jvm.exec) (hret : meth.sig.returnType = some .int) (hlk : meth.locks = false) {pc : Nat} {Ls : Array Slot} {z : Int32} {rest : List Value}
    (hd : decode c.code pc = .ok (.ireturn, 1)) {Q : Option Value → Heap → List Loc → Prop} {C S : Nat} (hQ : Q (some (.int z)) T.heap locs) (hC : cells ≤ C) (hS : slots ≤ S) : own_Go p.tables e below (own_F below s Q C S) T (mkF m pc Ls (.int z :: rest)) :=
  own_retO X hx hret hlk rfl (Or.inl ⟨rfl, Or.inl rfl, z, rfl⟩) hd hQ hC hS
/-- nothing -/
theorem own_retV (X : Stand p l e R s m args below meth c T locs cells slots) (hx : p.tables.exec = Jvm.exec) (hret : meth.sig.returnType = none) (hlk : meth.locks = false) {pc : Nat} {Ls : Array Slot}
    (hd : decode c.code pc = .ok (.return_, 1)) {Q : Option Value → Heap → List Loc → Prop} {C S : Nat} (hQ : Q none T.heap locs) (hC : cells ≤ C) (hS : slots ≤ S) : own_Go p.tables e below (own_F below s Q C S) T (mkF m pc Ls []) := by
  obtain ⟨fs, hr, hrun, hended, hW, hsame⟩ := X.leave (v := none) (fun _ => rfl)
  exact ⟨_, _, X.returnOut hx hret hd hr, hrun, hended, _, _, rfl, hQ, ⟨_, rfl⟩, hW, hsame.mono hC hS⟩
/-- calls, each by its callee's contract -/
theorem own_callS (X : Stand p l e R s m args below meth c T locs cells slots) (hx : p.tables.exec = Jvm.exec) (hZ : Z.Warmed39 s.vm) {own : String} {index : Nat} {y : MethodName} {bytes : ByteArray} {maxL : Nat} {ret : Option FieldType} (hown : s.vm.findClass own = some m.cls)
    (w1 : (Jvm.Cond.methodLink own index y).before a0 Z = true) (w2 : (Jvm.Cond.static y).before a0 Z = true) (w3 : (Jvm.Cond.initialized y.cls).before a0 Z = true) (w4 : (Jvm.Cond.code y bytes maxL ret).before a0 Z = true) (hy : y.cls ≠ "java/lang/invoke/MethodHandle" ∧ y.cls ≠ "java/lang/invoke/VarHandle")
    {rm : Room} {as' : Array Value} {Q : Option Value → Heap → List Loc → Prop} (hM : MetFree l y (head1 [Jvm.Cond.code y bytes maxL ret] rm) (fun a U => a = as' ∧ Z.Warmed39 U.vm ∧ U.heap = h) (fun _ _ _ _ _ => True) (fun _ U o U' => ∃ v L, o = .returned v ∧ Q v U'.heap L ∧ FrameEnd U o U' L rm.cells rm.slots))
    (eT : T.heap = h) {g : JFrame} (hg : g.method = m) (hsize : g.locals.size = c.maxLocals) {argsL rest : List Value} (hlen : ∀ sig, parseMethodDescriptor y.desc = some sig → argsL.length = sig.parameters.length) (hstack : g.stack = argsL.reverse ++ rest) (has : argsL.toArray = as') {W : Nat} (hW : 2 * g.monitorRoom + (rest.map fun v => v.category).sum ≤ W)
    (hd : decode c.code g.pc = .ok (.invokestatic index, 3)) (hf : rm.frames + 1 ≤ R.frames) (hl : W + (maxL + 11) + rm.locals ≤ R.locals) (hc : cells + rm.cells ≤ R.cells) (hs : slots + rm.slots ≤ R.slots) :
    ∃ v T' L, Q v T'.heap L ∧ Stand p l e R s m args below meth c T' (locs ++ L) (cells + rm.cells) (slots + rm.slots) ∧ ∀ t, Steps p.tables e below (T'.setTop { g with pc := g.pc + 3, stack := v.toList ++ rest }) t → Steps p.tables e below (T.setTop g) t := by
  obtain ⟨v, vm₁, ⟨T', L', k', n'⟩, -, X', ⟨L, hQ, l1, y1, z1⟩, st⟩ := Jvm.LawKit.callS X hx (y := y) hown (mvT hZ w1) (mvT hZ w2) (mvT hZ w3) (mvT hZ w4) hy (backOf (W := W) hM hZ w4 w3 hf hl) hg hsize (argsL := argsL) (rest := rest) hlen hstack hW hd (fun _ _ => ⟨has, eT, hc, hs⟩)
  dsimp only [Pt.U, Pt.locs, Pt.cells, Pt.slots] at X' l1 y1 z1 st hQ
  subst l1 y1 z1
  exact ⟨v, T', L, hQ, X', st⟩
theorem own_callI (X : Stand p l e R s m args below meth c T locs cells slots) (hx : p.tables.exec = Jvm.exec) (hZ : Z.Warmed39 s.vm) {own : String} {index : Nat} {y : MethodName} {bytes : ByteArray} {maxL : Nat} (hn : y.name = "<init>") (hown : s.vm.findClass own = some m.cls)
    (w1 : (Jvm.Cond.methodLink own index y).before a0 Z = true) (w2 : (Jvm.Cond.instanceMethod y).before a0 Z = true) (w3 : (Jvm.Cond.initialized y.cls).before a0 Z = true) (w4 : (Jvm.Cond.code y bytes maxL none).before a0 Z = true) (hy : y.cls ≠ "java/lang/invoke/MethodHandle" ∧ y.cls ≠ "java/lang/invoke/VarHandle")
    {rm : Room} {as' : Array Value} {Q : Option Value → Heap → List Loc → Prop} (hM : MetFree l y (head1 [Jvm.Cond.code y bytes maxL none] rm) (fun a U => a = as' ∧ Z.Warmed39 U.vm ∧ U.heap = h) (fun _ _ _ _ _ => True) (fun _ U o U' => ∃ v L, o = .returned v ∧ Q v U'.heap L ∧ FrameEnd U o U' L rm.cells rm.slots))
    (eT : T.heap = h) {g : JFrame} (hg : g.method = m) (hsize : g.locals.size = c.maxLocals) {a : Addr} {argsL rest : List Value} (hlen : ∀ sig, parseMethodDescriptor y.desc = some sig → argsL.length = sig.parameters.length) (hstack : g.stack = argsL.reverse ++ .ref a :: rest) (has : (.ref a :: argsL).toArray = as') {W : Nat} (hW : 2 * g.monitorRoom + (rest.map fun v => v.category).sum ≤ W)
    (hd : decode c.code g.pc = .ok (.invokespecial index, 3)) (hf : rm.frames + 1 ≤ R.frames) (hl : W + (maxL + 11) + rm.locals ≤ R.locals) (hc : cells + rm.cells ≤ R.cells) (hs : slots + rm.slots ≤ R.slots) :
    ∃ v T' L, Q v T'.heap L ∧ Stand p l e R s m args below meth c T' (locs ++ L) (cells + rm.cells) (slots + rm.slots) ∧ ∀ t, Steps p.tables e below (T'.setTop { g with pc := g.pc + 3, stack := v.toList ++ rest }) t → Steps p.tables e below (T.setTop g) t := by
  obtain ⟨v, vm₁, ⟨T', L', k', n'⟩, -, X', ⟨L, hQ, l1, y1, z1⟩, st⟩ := X.specialBack hx (y := y) hn hown (mvT hZ w1) (mvT hZ w2) (mvT hZ w4) hy (backOf (W := W) hM hZ w4 w3 hf hl) hg hsize (Steps.refl _) (a := a) (argsL := argsL) (rest := rest) hlen hstack hW hd (fun _ _ => ⟨has, eT, hc, hs⟩)
  dsimp only [Pt.U, Pt.locs, Pt.cells, Pt.slots] at X' l1 y1 z1 st hQ
  subst l1 y1 z1
  exact ⟨v, T', L, hQ, X', fun t k => st.trans k⟩
theorem own_callV (X : Stand p l e R s m args below meth c T locs cells slots) (hx : p.tables.exec = Jvm.exec) (hZ : Z.Warmed39 s.vm) {own C : String} {index : Nat} {y : MethodName} {bytes : ByteArray} {maxL : Nat} {ret : Option FieldType} (hown : s.vm.findClass own = some m.cls)
    (w1 : (Jvm.Cond.methodLink own index y).before a0 Z = true) (w2 : (Jvm.Cond.declares y).before a0 Z = true) (w3 : (Jvm.Cond.selects C y y).before a0 Z = true) (w5 : (Jvm.Cond.instanceMethod y).before a0 Z = true) (w6 : (Jvm.Cond.initialized y.cls).before a0 Z = true) (w4 : (Jvm.Cond.code y bytes maxL ret).before a0 Z = true) (hy : y.cls ≠ "java/lang/invoke/MethodHandle" ∧ y.cls ≠ "java/lang/invoke/VarHandle")
    {rm : Room} {as' : Array Value} {Q : Option Value → Heap → List Loc → Prop} (hM : MetFree l y (head1 [Jvm.Cond.code y bytes maxL ret] rm) (fun a U => a = as' ∧ Z.Warmed39 U.vm ∧ U.heap = h) (fun _ _ _ _ _ => True) (fun _ U o U' => ∃ v L, o = .returned v ∧ Q v U'.heap L ∧ FrameEnd U o U' L rm.cells rm.slots))
    (eT : T.heap = h) {a : Addr} (E : Exa Z h a C) {g : JFrame} (hg : g.method = m) (hsize : g.locals.size = c.maxLocals) {argsL rest : List Value} (hlen : ∀ sig, parseMethodDescriptor y.desc = some sig → argsL.length = sig.parameters.length) (hstack : g.stack = argsL.reverse ++ .ref a :: rest) (has : (.ref a :: argsL).toArray = as') {W : Nat} (hW : 2 * g.monitorRoom + (rest.map fun v => v.category).sum ≤ W)
    (hd : decode c.code g.pc = .ok (.invokevirtual index, 3)) (hf : rm.frames + 1 ≤ R.frames) (hl : W + (maxL + 11) + rm.locals ≤ R.locals) (hc : cells + rm.cells ≤ R.cells) (hs : slots + rm.slots ≤ R.slots) :
    ∃ v T' L, Q v T'.heap L ∧ Stand p l e R s m args below meth c T' (locs ++ L) (cells + rm.cells) (slots + rm.slots) ∧ ∀ t, Steps p.tables e below (T'.setTop { g with pc := g.pc + 3, stack := v.toList ++ rest }) t → Steps p.tables e below (T.setTop g) t := by
  obtain ⟨cq, kq, qa, qb, qc⟩ := isOf hZ eT E
  obtain ⟨v, vm₁, ⟨T', L', k', n'⟩, -, X', ⟨L, hQ, l1, y1, z1⟩, st⟩ := X.virtualBack hx (y := y) (z := y) hown (mvT hZ w1) (mvT hZ w2) (notFace_of_selects (args := #[]) (mvT hZ w3)) (mvT hZ w3) (mvT hZ w5) hy (backOf (W := W) hM hZ w4 w6 hf hl) qa qc hg hsize (Steps.refl _) (argsL := argsL) (rest := rest) hlen hstack hW hd (fun _ _ => ⟨has, eT, hc, hs⟩)
  dsimp only [Pt.U, Pt.locs, Pt.cells, Pt.slots] at X' l1 y1 z1 st hQ
  subst l1 y1 z1
  exact ⟨v, T', L, hQ, X', fun t k => st.trans k⟩
/-- a method that a class above declares -/
theorem own_callU (X : Stand p l e R s m args below meth c T locs cells slots) (hx : p.tables.exec = Jvm.exec) (hZ : Z.Warmed39 s.vm) {own C owner : String} {index : Nat} {x y : MethodName} {bytes : ByteArray} {maxL : Nat} {ret : Option FieldType} (hown : s.vm.findClass own = some m.cls)
    (w1 : (Jvm.Cond.methodLink own index x).before a0 Z = true) (w0 : (Jvm.Cond.sameMethod x.cls owner x.name x.desc).before a0 Z = true) (w2 : (Jvm.Cond.declares ⟨owner, x.name, x.desc⟩).before a0 Z = true) (hy : owner ≠ "java/lang/invoke/MethodHandle" ∧ owner ≠ "java/lang/invoke/VarHandle") (w3 : (Jvm.Cond.selects C x y).before a0 Z = true) (w5 : (Jvm.Cond.instanceMethod y).before a0 Z = true) (w6 : (Jvm.Cond.initialized y.cls).before a0 Z = true) (w4 : (Jvm.Cond.code y bytes maxL ret).before a0 Z = true)
    {rm : Room} {as' : Array Value} {Q : Option Value → Heap → List Loc → Prop} (hM : MetFree l y (head1 [Jvm.Cond.code y bytes maxL ret] rm) (fun a U => a = as' ∧ Z.Warmed39 U.vm ∧ U.heap = h) (fun _ _ _ _ _ => True) (fun _ U o U' => ∃ v L, o = .returned v ∧ Q v U'.heap L ∧ FrameEnd U o U' L rm.cells rm.slots))
    (eT : T.heap = h) {a : Addr} (E : Exa Z h a C) {g : JFrame} (hg : g.method = m) (hsize : g.locals.size = c.maxLocals) {argsL rest : List Value} (hlen : ∀ sig, parseMethodDescriptor x.desc = some sig → argsL.length = sig.parameters.length) (hstack : g.stack = argsL.reverse ++ .ref a :: rest) (has : (.ref a :: argsL).toArray = as') {W : Nat} (hW : 2 * g.monitorRoom + (rest.map fun v => v.category).sum ≤ W)
    (hd : decode c.code g.pc = .ok (.invokevirtual index, 3)) (hf : rm.frames + 1 ≤ R.frames) (hl : W + (maxL + 11) + rm.locals ≤ R.locals) (hc : cells + rm.cells ≤ R.cells) (hs : slots + rm.slots ≤ R.slots) :
    ∃ v T' L, Q v T'.heap L ∧ Stand p l e R s m args below meth c T' (locs ++ L) (cells + rm.cells) (slots + rm.slots) ∧ ∀ t, Steps p.tables e below (T'.setTop { g with pc := g.pc + 3, stack := v.toList ++ rest }) t → Steps p.tables e below (T.setTop g) t := by
  obtain ⟨cq, kq, qa, qb, qc⟩ := isOf hZ eT E
  obtain ⟨v, vm₁, ⟨T', L', k', n'⟩, -, X', ⟨L, hQ, l1, y1, z1⟩, st⟩ := X.virtualBackUp hx (x := x) (y := y) hown (mvT hZ w1) (mvT hZ w0) (mvT hZ w2) hy (mvT hZ w3) (mvT hZ w5) (backOf (W := W) hM hZ w4 w6 hf hl) qa qc hg hsize (Steps.refl _) (argsL := argsL) (rest := rest) hlen hstack hW hd (fun _ _ => ⟨has, eT, hc, hs⟩)
  dsimp only [Pt.U, Pt.locs, Pt.cells, Pt.slots] at X' l1 y1 z1 st hQ
  subst l1 y1 z1
  exact ⟨v, T', L, hQ, X', fun t k => st.trans k⟩
/-- heaps -/
theorem own_extr (h : Heap) : Ext h h := ⟨Nat.le_refl _, fun _ _ q => q⟩
theorem own_extt (O : Ext h0 h) (E : Ext h h') : Ext h0 h' := ⟨Nat.le_trans O.1 E.1, fun a c q => E.2 a c (O.2 a c q)⟩
theorem own_extw (O : Ext h0 h) {a : Addr} {sl : Nat} {v : Value} (W : Wr h h' a sl v) (q : h0.size ≤ a) : Ext h0 h' :=
  ⟨Nat.le_trans O.1 (Keep.of_wr W).1, fun x c r => (Keep.of_wr W).2.1 x c (O.2 x c r) (fun z => by cases List.mem_singleton.mp z; exact absurd (Array.getElem?_eq_some_iff.mp r).1 (Nat.not_lt.mpr q))⟩
theorem own_extk (O : Ext h0 h) {a : Addr} (K : Keep h h' [a]) (q : h0.size ≤ a) : Ext h0 h' :=
  ⟨Nat.le_trans O.1 K.1, fun x c r => K.2.1 x c (O.2 x c r) (fun z => by cases List.mem_singleton.mp z; exact absurd (Array.getElem?_eq_some_iff.mp r).1 (Nat.not_lt.mpr q))⟩
/-- arrays: a store and a load by the array's fact -/
theorem own_stZ (X : Stand p l e R s m args below meth c T locs cells slots) (hx : p.tables.exec = Jvm.exec) (hZ : Z.Warmed39 s.vm) (eT : T.heap = h) {a : Addr} {k : ClassId} {n : Int32} {vs : List Value} {dv : Value} (V : Arv Z h a k .boolean n vs dv) {j x : Int32} (hj : ¬ j < 0 ∧ j < n) (i : Nat) (hi : j.toNatClampNeg = i) (hil : i < vs.length) {g : JFrame} (hg : g.method = m) {rest : List Value} (hs : g.stack = .int x :: .int j :: .ref a :: rest) (hd : decode c.code g.pc = .ok (.bastore, 1)) :
    ∃ T' h', Stand p l e R s m args below meth c T' (locs ++ [⟨a, j.toNatClampNeg⟩]) cells slots ∧ T'.heap = h' ∧ Wr h h' a j.toNatClampNeg (.int (nar .boolean x)) ∧ Arv Z h' a k .boolean n (vs.set i (.int (nar .boolean x))) dv ∧ ∀ t, Steps p.tables e below (T'.setTop { g with pc := g.pc + 1, stack := rest }) t → Steps p.tables e below (T.setTop g) t := by
  obtain ⟨cl, A, q1, S1, N1, H1, G1⟩ := V
  obtain ⟨T', h', X', e', W', st⟩ := stZ X hx hZ eT A (j := j) (inb_of S1 hj) hg hs hd
  exact ⟨T', h', X', e', W', Arv.set A q1 S1 N1 H1 G1 (fits_nar_bool x) W' i hi hil, st⟩
theorem own_stB (X : Stand p l e R s m args below meth c T locs cells slots) (hx : p.tables.exec = Jvm.exec) (hZ : Z.Warmed39 s.vm) (eT : T.heap = h) {a : Addr} {k : ClassId} {n : Int32} {vs : List Value} {dv : Value} (V : Arv Z h a k .byte n vs dv) {j x : Int32} (hj : ¬ j < 0 ∧ j < n) (i : Nat) (hi : j.toNatClampNeg = i) (hil : i < vs.length) {g : JFrame} (hg : g.method = m) {rest : List Value} (hs : g.stack = .int x :: .int j :: .ref a :: rest) (hd : decode c.code g.pc = .ok (.bastore, 1)) :
    ∃ T' h', Stand p l e R s m args below meth c T' (locs ++ [⟨a, j.toNatClampNeg⟩]) cells slots ∧ T'.heap = h' ∧ Wr h h' a j.toNatClampNeg (.int (nar .byte x)) ∧ Arv Z h' a k .byte n (vs.set i (.int (nar .byte x))) dv ∧ ∀ t, Steps p.tables e below (T'.setTop { g with pc := g.pc + 1, stack := rest }) t → Steps p.tables e below (T.setTop g) t := by
  obtain ⟨cl, A, q1, S1, N1, H1, G1⟩ := V
  obtain ⟨T', h', X', e', W', st⟩ := stB X hx hZ eT A (j := j) (inb_of S1 hj) hg hs hd
  exact ⟨T', h', X', e', W', Arv.set A q1 S1 N1 H1 G1 (fits_nar_byte x) W' i hi hil, st⟩
theorem own_stI (X : Stand p l e R s m args below meth c T locs cells slots) (hx : p.tables.exec = Jvm.exec) (hZ : Z.Warmed39 s.vm) (eT : T.heap = h) {a : Addr} {k : ClassId} {n : Int32} {vs : List Value} {dv : Value} (V : Arv Z h a k .int n vs dv) {j x : Int32} (hj : ¬ j < 0 ∧ j < n) (i : Nat) (hi : j.toNatClampNeg = i) (hil : i < vs.length) {g : JFrame} (hg : g.method = m) {rest : List Value} (hs : g.stack = .int x :: .int j :: .ref a :: rest) (hd : decode c.code g.pc = .ok (.iastore, 1)) :
    ∃ T' h', Stand p l e R s m args below meth c T' (locs ++ [⟨a, j.toNatClampNeg⟩]) cells slots ∧ T'.heap = h' ∧ Wr h h' a j.toNatClampNeg (.int x) ∧ Arv Z h' a k .int n (vs.set i (.int x)) dv ∧ ∀ t, Steps p.tables e below (T'.setTop { g with pc := g.pc + 1, stack := rest }) t → Steps p.tables e below (T.setTop g) t := by
  obtain ⟨cl, A, q1, S1, N1, H1, G1⟩ := V
  obtain ⟨T', h', X', e', W', st⟩ := stI X hx hZ eT A (j := j) (inb_of S1 hj) hg hs hd
  exact ⟨T', h', X', e', W', Arv.set A q1 S1 N1 H1 G1 rfl W' i hi hil, st⟩
theorem own_stC (X : Stand p l e R s m args below meth c T locs cells slots) (hx : p.tables.exec = Jvm.exec) (hZ : Z.Warmed39 s.vm) (eT : T.heap = h) {a : Addr} {k : ClassId} {n : Int32} {vs : List Value} {dv : Value} (V : Arv Z h a k .char n vs dv) {j x : Int32} (hj : ¬ j < 0 ∧ j < n) (i : Nat) (hi : j.toNatClampNeg = i) (hil : i < vs.length) {g : JFrame} (hg : g.method = m) {rest : List Value} (hs : g.stack = .int x :: .int j :: .ref a :: rest) (hd : decode c.code g.pc = .ok (.castore, 1)) :
    ∃ T' h', Stand p l e R s m args below meth c T' (locs ++ [⟨a, j.toNatClampNeg⟩]) cells slots ∧ T'.heap = h' ∧ Wr h h' a j.toNatClampNeg (.int (nar .char x)) ∧ Arv Z h' a k .char n (vs.set i (.int (nar .char x))) dv ∧ ∀ t, Steps p.tables e below (T'.setTop { g with pc := g.pc + 1, stack := rest }) t → Steps p.tables e below (T.setTop g) t := by
  obtain ⟨cl, A, q1, S1, N1, H1, G1⟩ := V
  obtain ⟨T', h', X', e', W', st⟩ := stC X hx hZ eT A (j := j) (inb_of S1 hj) hg hs hd
  exact ⟨T', h', X', e', W', Arv.set A q1 S1 N1 H1 G1 (fits_nar_char x) W' i hi hil, st⟩
theorem own_stR (X : Stand p l e R s m args below meth c T locs cells slots) (hx : p.tables.exec = Jvm.exec) (hZ : Z.Warmed39 s.vm) (eT : T.heap = h) {a : Addr} {k : ClassId} {ty : FieldType} {n : Int32} {vs : List Value} {dv : Value} (V : Arv Z h a k ty n vs dv) (hty : ty.isReference = true) {j : Int32} {v : Value} (hv : fits ty v = true) (hj : ¬ j < 0 ∧ j < n) (i : Nat) (hi : j.toNatClampNeg = i) (hil : i < vs.length) (F : ∀ cl : Cell, Arr Z h a cl ty → cl.cls = k → Sto Z h a v) {g : JFrame} (hg : g.method = m) {rest : List Value} (hs : g.stack = v :: .int j :: .ref a :: rest) (hd : decode c.code g.pc = .ok (.aastore, 1)) :
    ∃ T' h', Stand p l e R s m args below meth c T' (locs ++ [⟨a, j.toNatClampNeg⟩]) cells slots ∧ T'.heap = h' ∧ Wr h h' a j.toNatClampNeg v ∧ Arv Z h' a k ty n (vs.set i v) dv ∧ ∀ t, Steps p.tables e below (T'.setTop { g with pc := g.pc + 1, stack := rest }) t → Steps p.tables e below (T.setTop g) t := by
  obtain ⟨cl, A, q1, S1, N1, H1, G1⟩ := V
  obtain ⟨T', h', X', e', W', st⟩ := stR X hx hZ eT A (j := j) (inb_of S1 hj) hty (F cl A q1) hg hs hd
  exact ⟨T', h', X', e', W', Arv.set A q1 S1 N1 H1 G1 hv W' i hi hil, st⟩
theorem own_ldZ (X : Stand p l e R s m args below meth c T locs cells slots) (hx : p.tables.exec = Jvm.exec) (hZ : Z.Warmed39 s.vm) (eT : T.heap = h) {a : Addr} {k : ClassId} {n : Int32} {vs : List Value} {dv v : Value} (V : Arv Z h a k .boolean n vs dv) {j : Int32} (hj : ¬ j < 0 ∧ j < n) (hv : vs.getD j.toNatClampNeg dv = v) {g : JFrame} (hg : g.method = m) {rest : List Value} (hs : g.stack = .int j :: .ref a :: rest) (hd : decode c.code g.pc = .ok (.baload, 1)) :
    ∀ t, Steps p.tables e below (T.setTop { g with pc := g.pc + 1, stack := v :: rest }) t → Steps p.tables e below (T.setTop g) t := by
  obtain ⟨cl, A, q1, S1, N1, H1, G1⟩ := V
  exact X.baloadBooleans hx (by rw [eT]; exact A.1) (State.isArrayOf_alike hZ.alike A.2.1) A.2.2 (inb_of S1 hj) (H1.at (inb_of S1 hj) hv) hg hs hd
theorem own_ldB (X : Stand p l e R s m args below meth c T locs cells slots) (hx : p.tables.exec = Jvm.exec) (hZ : Z.Warmed39 s.vm) (eT : T.heap = h) {a : Addr} {k : ClassId} {n : Int32} {vs : List Value} {dv v : Value} (V : Arv Z h a k .byte n vs dv) {j : Int32} (hj : ¬ j < 0 ∧ j < n) (hv : vs.getD j.toNatClampNeg dv = v) {g : JFrame} (hg : g.method = m) {rest : List Value} (hs : g.stack = .int j :: .ref a :: rest) (hd : decode c.code g.pc = .ok (.baload, 1)) :
    ∀ t, Steps p.tables e below (T.setTop { g with pc := g.pc + 1, stack := v :: rest }) t → Steps p.tables e below (T.setTop g) t := by
  obtain ⟨cl, A, q1, S1, N1, H1, G1⟩ := V
  exact X.baloadBytes hx (by rw [eT]; exact A.1) (State.isArrayOf_alike hZ.alike A.2.1) A.2.2 (inb_of S1 hj) (H1.at (inb_of S1 hj) hv) hg hs hd
theorem own_ldI (X : Stand p l e R s m args below meth c T locs cells slots) (hx : p.tables.exec = Jvm.exec) (hZ : Z.Warmed39 s.vm) (eT : T.heap = h) {a : Addr} {k : ClassId} {n : Int32} {vs : List Value} {dv v : Value} (V : Arv Z h a k .int n vs dv) {j : Int32} (hj : ¬ j < 0 ∧ j < n) (hv : vs.getD j.toNatClampNeg dv = v) {g : JFrame} (hg : g.method = m) {rest : List Value} (hs : g.stack = .int j :: .ref a :: rest) (hd : decode c.code g.pc = .ok (.iaload, 1)) :
    ∀ t, Steps p.tables e below (T.setTop { g with pc := g.pc + 1, stack := v :: rest }) t → Steps p.tables e below (T.setTop g) t := by
  obtain ⟨cl, A, q1, S1, N1, H1, G1⟩ := V
  exact X.iaload hx (by rw [eT]; exact A.1) (State.isArrayOf_alike hZ.alike A.2.1) A.2.2 (inb_of S1 hj) (H1.at (inb_of S1 hj) hv) hg hs hd
theorem own_ldC (X : Stand p l e R s m args below meth c T locs cells slots) (hx : p.tables.exec = Jvm.exec) (hZ : Z.Warmed39 s.vm) (eT : T.heap = h) {a : Addr} {k : ClassId} {n : Int32} {vs : List Value} {dv v : Value} (V : Arv Z h a k .char n vs dv) {j : Int32} (hj : ¬ j < 0 ∧ j < n) (hv : vs.getD j.toNatClampNeg dv = v) {g : JFrame} (hg : g.method = m) {rest : List Value} (hs : g.stack = .int j :: .ref a :: rest) (hd : decode c.code g.pc = .ok (.caload, 1)) :
    ∀ t, Steps p.tables e below (T.setTop { g with pc := g.pc + 1, stack := v :: rest }) t → Steps p.tables e below (T.setTop g) t := by
  obtain ⟨cl, A, q1, S1, N1, H1, G1⟩ := V
  exact X.caload hx (by rw [eT]; exact A.1) (State.isArrayOf_alike hZ.alike A.2.1) A.2.2 (inb_of S1 hj) (H1.at (inb_of S1 hj) hv) hg hs hd
theorem own_ldR (X : Stand p l e R s m args below meth c T locs cells slots) (hx : p.tables.exec = Jvm.exec) (hZ : Z.Warmed39 s.vm) (eT : T.heap = h) {a : Addr} {k : ClassId} {ty : FieldType} {n : Int32} {vs : List Value} {dv v : Value} (V : Arv Z h a k ty n vs dv) (hty : ty.isReference = true) {j : Int32} (hj : ¬ j < 0 ∧ j < n) (hv : vs.getD j.toNatClampNeg dv = v) {g : JFrame} (hg : g.method = m) {rest : List Value} (hs : g.stack = .int j :: .ref a :: rest) (hd : decode c.code g.pc = .ok (.aaload, 1)) :
    ∀ t, Steps p.tables e below (T.setTop { g with pc := g.pc + 1, stack := v :: rest }) t → Steps p.tables e below (T.setTop g) t := by
  obtain ⟨cl, A, q1, S1, N1, H1, G1⟩ := V
  exact X.aaload hx (by rw [eT]; exact A.1) (State.isArrayOf_alike hZ.alike A.2.1) hty A.2.2 (inb_of S1 hj) (H1.at (inb_of S1 hj) hv) hg hs hd
theorem own_len (X : Stand p l e R s m args below meth c T locs cells slots) (hx : p.tables.exec = Jvm.exec) (hZ : Z.Warmed39 s.vm) (eT : T.heap = h) {a : Addr} {k : ClassId} {ty : FieldType} {n : Int32} {vs : List Value} {dv : Value} (V : Arv Z h a k ty n vs dv) {g : JFrame} (hg : g.method = m) {rest : List Value} (hs : g.stack = .ref a :: rest) (hd : decode c.code g.pc = .ok (.arraylength, 1)) :
    ∀ t, Steps p.tables e below (T.setTop { g with pc := g.pc + 1, stack := .int n :: rest }) t → Steps p.tables e below (T.setTop g) t := by
  obtain ⟨cl, A, q1, S1, N1, H1, G1⟩ := V
  intro t k
  refine X.arraylength hx (by rw [eT]; exact A.1) (State.isArrayOf_alike hZ.alike A.2.1) hg hs hd t ?_
  rw [len_of S1 N1]
  exact k
end OwnKit
theorem own_eqi {t : Term} {n : Int32} {args : Array Value} {s : State} (h : (Jvm.Cond.eq t (.int n)).value args s none s [] = some true) : t.eval args s none [] s = some (.int n) := by
  obtain ⟨x, y, h1, h2, h3, -⟩ := cmp_v (Or.inl h)
  cases (Term.int_eval n).symm.trans h2
  cases x <;> simp [Kin, Value.isRef] at h3
  rw [h1]
  have q := h
  simp [Jvm.Cond.value, h1, Term.int_eval] at q
  rw [q]
theorem own_lenw {t : Term} {n : Int32} {args : Array Value} {s : State} {x : Addr} {cl : Cell} {ty : FieldType} (h : (Jvm.Cond.eq (Term.length t) (.int n)).value args s none s [] = some true) (ht : t.eval args s none [] s = some (.ref x)) (A : Arr s s.heap x cl ty) : cl.slots.size < 2 ^ 31 ∧ cl.slots.size.toInt32 = n := by
  obtain ⟨b, cell, e1, e2, e4⟩ := Term.length_spec (own_eqi h)
  obtain rfl : x = b := Value.ref.inj (Option.some.inj (ht.symm.trans e1))
  obtain rfl : cl = cell := Option.some.inj ((A.fin (Vm.Alike.refl _)).symm.trans e2)
  exact ⟨Jvm.Free.SBG.length_lt e1 e2 (own_eqi h), (Value.int.inj e4).symm⟩
theorem own_elemw {t u : Term} {j : Int32} {args : Array Value} {s : State} {x y : Addr} {cl : Cell} {ty : FieldType} (h : (Jvm.Cond.eq (Term.elem t (.int j)) u).value args s none s [] = some true) (ht : t.eval args s none [] s = some (.ref x)) (hu : u.eval args s none [] s = some (.ref y)) (A : Arr s s.heap x cl ty) : cl.slots[j.toNatClampNeg]? = some (.ref y) := by
  obtain ⟨v, w, h1, h2, h3, h4⟩ := cmp_v (Or.inl h)
  cases hu.symm.trans h2
  obtain ⟨-, q⟩ := elem_in h1 ht (Term.int_eval j) A.1
  have r : v = .ref y := gotT (eq_R h1 hu h4.2 rfl) h
  rw [q, r]
theorem own_elemi {t : Term} {j k : Int32} {args : Array Value} {s : State} {x : Addr} {cl : Cell} {ty : FieldType} (h : (Jvm.Cond.eq (Term.elem t (.int j)) (.int k)).value args s none s [] = some true) (ht : t.eval args s none [] s = some (.ref x)) (A : Arr s s.heap x cl ty) : cl.slots[j.toNatClampNeg]? = some (.int k) := by
  obtain ⟨-, q⟩ := elem_in (own_eqi h) ht (Term.int_eval j) A.1
  exact q
abbrev own_W (Z : State) (a0 : Array Value) : Prop := ∀ d ∈ tables_1, d.before a0 Z = true
theorem own_w0 {Z : State} {a0 : Array Value} (hw : own_W Z a0) : (Jvm.Cond.classLink "com/example/overflowstream/overflowstream/OperatorHoldsPinLaw" (7 : Nat) "com/example/overflowstream/overflowstream/Query$Operator").before a0 Z = true := hw _ (List.mem_of_getElem? (i := 0) rfl)
theorem own_w1 {Z : State} {a0 : Array Value} (hw : own_W Z a0) : (Jvm.Cond.arrayOver (Jvm.ClassFile.FieldType.object "com/example/overflowstream/overflowstream/Query$Operator")).before a0 Z = true := hw _ (List.mem_of_getElem? (i := 1) rfl)
theorem own_w2 {Z : State} {a0 : Array Value} (hw : own_W Z a0) : (Jvm.Cond.fieldLink "com/example/overflowstream/overflowstream/OperatorHoldsPinLaw" (9 : Nat) "com/example/overflowstream/overflowstream/Query$Operator" "EQUAL" "Lcom/example/overflowstream/overflowstream/Query$Operator;").before a0 Z = true := hw _ (List.mem_of_getElem? (i := 2) rfl)
theorem own_w3 {Z : State} {a0 : Array Value} (hw : own_W Z a0) : (Jvm.Cond.initialized "com/example/overflowstream/overflowstream/Query$Operator").before a0 Z = true := hw _ (List.mem_of_getElem? (i := 3) rfl)
theorem own_w4 {Z : State} {a0 : Array Value} (hw : own_W Z a0) : (Jvm.Cond.laysStatic "com/example/overflowstream/overflowstream/Query$Operator" "EQUAL" "Lcom/example/overflowstream/overflowstream/Query$Operator;").before a0 Z = true := hw _ (List.mem_of_getElem? (i := 4) rfl)
theorem own_w6 {Z : State} {a0 : Array Value} (hw : own_W Z a0) : (Jvm.Cond.fieldLink "com/example/overflowstream/overflowstream/OperatorHoldsPinLaw" (13 : Nat) "com/example/overflowstream/overflowstream/Query$Operator" "NOT_EQUAL" "Lcom/example/overflowstream/overflowstream/Query$Operator;").before a0 Z = true := hw _ (List.mem_of_getElem? (i := 6) rfl)
theorem own_w7 {Z : State} {a0 : Array Value} (hw : own_W Z a0) : (Jvm.Cond.laysStatic "com/example/overflowstream/overflowstream/Query$Operator" "NOT_EQUAL" "Lcom/example/overflowstream/overflowstream/Query$Operator;").before a0 Z = true := hw _ (List.mem_of_getElem? (i := 7) rfl)
theorem own_w8 {Z : State} {a0 : Array Value} (hw : own_W Z a0) : (Jvm.Cond.fieldLink "com/example/overflowstream/overflowstream/OperatorHoldsPinLaw" (16 : Nat) "com/example/overflowstream/overflowstream/Query$Operator" "LESS" "Lcom/example/overflowstream/overflowstream/Query$Operator;").before a0 Z = true := hw _ (List.mem_of_getElem? (i := 8) rfl)
theorem own_w9 {Z : State} {a0 : Array Value} (hw : own_W Z a0) : (Jvm.Cond.laysStatic "com/example/overflowstream/overflowstream/Query$Operator" "LESS" "Lcom/example/overflowstream/overflowstream/Query$Operator;").before a0 Z = true := hw _ (List.mem_of_getElem? (i := 9) rfl)
theorem own_w10 {Z : State} {a0 : Array Value} (hw : own_W Z a0) : (Jvm.Cond.fieldLink "com/example/overflowstream/overflowstream/OperatorHoldsPinLaw" (19 : Nat) "com/example/overflowstream/overflowstream/Query$Operator" "LESS_OR_EQUAL" "Lcom/example/overflowstream/overflowstream/Query$Operator;").before a0 Z = true := hw _ (List.mem_of_getElem? (i := 10) rfl)
theorem own_w11 {Z : State} {a0 : Array Value} (hw : own_W Z a0) : (Jvm.Cond.laysStatic "com/example/overflowstream/overflowstream/Query$Operator" "LESS_OR_EQUAL" "Lcom/example/overflowstream/overflowstream/Query$Operator;").before a0 Z = true := hw _ (List.mem_of_getElem? (i := 11) rfl)
theorem own_w12 {Z : State} {a0 : Array Value} (hw : own_W Z a0) : (Jvm.Cond.fieldLink "com/example/overflowstream/overflowstream/OperatorHoldsPinLaw" (22 : Nat) "com/example/overflowstream/overflowstream/Query$Operator" "GREATER" "Lcom/example/overflowstream/overflowstream/Query$Operator;").before a0 Z = true := hw _ (List.mem_of_getElem? (i := 12) rfl)
theorem own_w13 {Z : State} {a0 : Array Value} (hw : own_W Z a0) : (Jvm.Cond.laysStatic "com/example/overflowstream/overflowstream/Query$Operator" "GREATER" "Lcom/example/overflowstream/overflowstream/Query$Operator;").before a0 Z = true := hw _ (List.mem_of_getElem? (i := 13) rfl)
theorem own_w14 {Z : State} {a0 : Array Value} (hw : own_W Z a0) : (Jvm.Cond.fieldLink "com/example/overflowstream/overflowstream/OperatorHoldsPinLaw" (25 : Nat) "com/example/overflowstream/overflowstream/Query$Operator" "GREATER_OR_EQUAL" "Lcom/example/overflowstream/overflowstream/Query$Operator;").before a0 Z = true := hw _ (List.mem_of_getElem? (i := 14) rfl)
theorem own_w15 {Z : State} {a0 : Array Value} (hw : own_W Z a0) : (Jvm.Cond.laysStatic "com/example/overflowstream/overflowstream/Query$Operator" "GREATER_OR_EQUAL" "Lcom/example/overflowstream/overflowstream/Query$Operator;").before a0 Z = true := hw _ (List.mem_of_getElem? (i := 15) rfl)
theorem own_w16 {Z : State} {a0 : Array Value} (hw : own_W Z a0) : (Jvm.Cond.arrayClass Jvm.ClassFile.FieldType.int).before a0 Z = true := hw _ (List.mem_of_getElem? (i := 16) rfl)
theorem own_w17 {Z : State} {a0 : Array Value} (hw : own_W Z a0) : (Jvm.Cond.constant "com/example/overflowstream/overflowstream/OperatorHoldsPinLaw" (28 : Nat) (2147483647 : Int32)).before a0 Z = true := hw _ (List.mem_of_getElem? (i := 17) rfl)
theorem own_w18 {Z : State} {a0 : Array Value} (hw : own_W Z a0) : (Jvm.Cond.methodLink "com/example/overflowstream/overflowstream/OperatorHoldsPinLaw" (29 : Nat) ({ cls := "com/example/overflowstream/overflowstream/Query$Operator", name := "holds", desc := "(I)Z" } : Jvm.MethodName)).before a0 Z = true := hw _ (List.mem_of_getElem? (i := 18) rfl)
theorem own_w19 {Z : State} {a0 : Array Value} (hw : own_W Z a0) : (Jvm.Cond.declares ({ cls := "com/example/overflowstream/overflowstream/Query$Operator", name := "holds", desc := "(I)Z" } : Jvm.MethodName)).before a0 Z = true := hw _ (List.mem_of_getElem? (i := 19) rfl)
theorem own_w20 {Z : State} {a0 : Array Value} (hw : own_W Z a0) : (Jvm.Cond.instanceMethod ({ cls := "com/example/overflowstream/overflowstream/Query$Operator", name := "holds", desc := "(I)Z" } : Jvm.MethodName)).before a0 Z = true := hw _ (List.mem_of_getElem? (i := 20) rfl)
theorem own_w21 {Z : State} {a0 : Array Value} (hw : own_W Z a0) : (Jvm.Cond.selects "com/example/overflowstream/overflowstream/Query$Operator" ({ cls := "com/example/overflowstream/overflowstream/Query$Operator", name := "holds", desc := "(I)Z" } : Jvm.MethodName) ({ cls := "com/example/overflowstream/overflowstream/Query$Operator", name := "holds", desc := "(I)Z" } : Jvm.MethodName)).before a0 Z = true := hw _ (List.mem_of_getElem? (i := 21) rfl)
theorem own_w22 {Z : State} {a0 : Array Value} (hw : own_W Z a0) : (Jvm.Cond.code ({ cls := "com/example/overflowstream/overflowstream/Query$Operator", name := "holds", desc := "(I)Z" } : Jvm.MethodName) prog_36_method_5_code (2 : Nat) (Option.some Jvm.ClassFile.FieldType.boolean)).before a0 Z = true := hw _ (List.mem_of_getElem? (i := 22) rfl)
theorem own_w23 {Z : State} {a0 : Array Value} (hw : own_W Z a0) : (Jvm.Cond.methodLink "com/example/overflowstream/overflowstream/Query$Operator" (55 : Nat) ({ cls := "com/example/overflowstream/overflowstream/Query$Operator", name := "ordinal", desc := "()I" } : Jvm.MethodName)).before a0 Z = true := hw _ (List.mem_of_getElem? (i := 23) rfl)
theorem own_w24 {Z : State} {a0 : Array Value} (hw : own_W Z a0) : (Jvm.Cond.sameMethod "com/example/overflowstream/overflowstream/Query$Operator" "java/lang/Enum" "ordinal" "()I").before a0 Z = true := hw _ (List.mem_of_getElem? (i := 24) rfl)
theorem own_w25 {Z : State} {a0 : Array Value} (hw : own_W Z a0) : (Jvm.Cond.declares ({ cls := "java/lang/Enum", name := "ordinal", desc := "()I" } : Jvm.MethodName)).before a0 Z = true := hw _ (List.mem_of_getElem? (i := 25) rfl)
theorem own_w26 {Z : State} {a0 : Array Value} (hw : own_W Z a0) : (Jvm.Cond.instanceMethod ({ cls := "java/lang/Enum", name := "ordinal", desc := "()I" } : Jvm.MethodName)).before a0 Z = true := hw _ (List.mem_of_getElem? (i := 26) rfl)
theorem own_w27 {Z : State} {a0 : Array Value} (hw : own_W Z a0) : (Jvm.Cond.selects "com/example/overflowstream/overflowstream/Query$Operator" ({ cls := "com/example/overflowstream/overflowstream/Query$Operator", name := "ordinal", desc := "()I" } : Jvm.MethodName) ({ cls := "java/lang/Enum", name := "ordinal", desc := "()I" } : Jvm.MethodName)).before a0 Z = true := hw _ (List.mem_of_getElem? (i := 27) rfl)
theorem own_w28 {Z : State} {a0 : Array Value} (hw : own_W Z a0) : (Jvm.Cond.initialized "java/lang/Enum").before a0 Z = true := hw _ (List.mem_of_getElem? (i := 28) rfl)
theorem own_w29 {Z : State} {a0 : Array Value} (hw : own_W Z a0) : (Jvm.Cond.code ({ cls := "java/lang/Enum", name := "ordinal", desc := "()I" } : Jvm.MethodName) jdk_37_method_2_code (1 : Nat) (Option.some Jvm.ClassFile.FieldType.int)).before a0 Z = true := hw _ (List.mem_of_getElem? (i := 29) rfl)
theorem own_w30 {Z : State} {a0 : Array Value} (hw : own_W Z a0) : (Jvm.Cond.fieldLink "java/lang/Enum" (7 : Nat) "java/lang/Enum" "ordinal" "I").before a0 Z = true := hw _ (List.mem_of_getElem? (i := 30) rfl)
theorem own_d1_0 : decode prog_36_method_5_code 0 = .ok (.aload_n 0, 1) := by decide +kernel
theorem own_d1_1 : decode prog_36_method_5_code 1 = .ok (.invokevirtual 55, 3) := by decide +kernel
theorem own_d1_4 : decode prog_36_method_5_code 4 = .ok (.tableswitch 100 0 5 #[40, 50, 60, 70, 80, 90], 40) := by decide +kernel
theorem own_d1_44 : decode prog_36_method_5_code 44 = .ok (.iload_n 1, 1) := by decide +kernel
theorem own_d1_45 : decode prog_36_method_5_code 45 = .ok (.ifCond .ne 7, 3) := by decide +kernel
theorem own_d1_48 : decode prog_36_method_5_code 48 = .ok (.iconst 1, 1) := by decide +kernel
theorem own_d1_49 : decode prog_36_method_5_code 49 = .ok (.goto 4, 3) := by decide +kernel
theorem own_d1_52 : decode prog_36_method_5_code 52 = .ok (.iconst 0, 1) := by decide +kernel
theorem own_d1_53 : decode prog_36_method_5_code 53 = .ok (.ireturn, 1) := by decide +kernel
theorem own_d1_54 : decode prog_36_method_5_code 54 = .ok (.iload_n 1, 1) := by decide +kernel
theorem own_d1_55 : decode prog_36_method_5_code 55 = .ok (.ifCond .eq 7, 3) := by decide +kernel
theorem own_d1_58 : decode prog_36_method_5_code 58 = .ok (.iconst 1, 1) := by decide +kernel
theorem own_d1_59 : decode prog_36_method_5_code 59 = .ok (.goto 4, 3) := by decide +kernel
theorem own_d1_62 : decode prog_36_method_5_code 62 = .ok (.iconst 0, 1) := by decide +kernel
theorem own_d1_63 : decode prog_36_method_5_code 63 = .ok (.ireturn, 1) := by decide +kernel
theorem own_d1_64 : decode prog_36_method_5_code 64 = .ok (.iload_n 1, 1) := by decide +kernel
theorem own_d1_65 : decode prog_36_method_5_code 65 = .ok (.ifCond .ge 7, 3) := by decide +kernel
theorem own_d1_68 : decode prog_36_method_5_code 68 = .ok (.iconst 1, 1) := by decide +kernel
theorem own_d1_69 : decode prog_36_method_5_code 69 = .ok (.goto 4, 3) := by decide +kernel
theorem own_d1_72 : decode prog_36_method_5_code 72 = .ok (.iconst 0, 1) := by decide +kernel
theorem own_d1_73 : decode prog_36_method_5_code 73 = .ok (.ireturn, 1) := by decide +kernel
theorem own_d1_74 : decode prog_36_method_5_code 74 = .ok (.iload_n 1, 1) := by decide +kernel
theorem own_d1_75 : decode prog_36_method_5_code 75 = .ok (.ifCond .gt 7, 3) := by decide +kernel
theorem own_d1_78 : decode prog_36_method_5_code 78 = .ok (.iconst 1, 1) := by decide +kernel
theorem own_d1_79 : decode prog_36_method_5_code 79 = .ok (.goto 4, 3) := by decide +kernel
theorem own_d1_82 : decode prog_36_method_5_code 82 = .ok (.iconst 0, 1) := by decide +kernel
theorem own_d1_83 : decode prog_36_method_5_code 83 = .ok (.ireturn, 1) := by decide +kernel
theorem own_d1_84 : decode prog_36_method_5_code 84 = .ok (.iload_n 1, 1) := by decide +kernel
theorem own_d1_85 : decode prog_36_method_5_code 85 = .ok (.ifCond .le 7, 3) := by decide +kernel
theorem own_d1_88 : decode prog_36_method_5_code 88 = .ok (.iconst 1, 1) := by decide +kernel
theorem own_d1_89 : decode prog_36_method_5_code 89 = .ok (.goto 4, 3) := by decide +kernel
theorem own_d1_92 : decode prog_36_method_5_code 92 = .ok (.iconst 0, 1) := by decide +kernel
theorem own_d1_93 : decode prog_36_method_5_code 93 = .ok (.ireturn, 1) := by decide +kernel
theorem own_d1_94 : decode prog_36_method_5_code 94 = .ok (.iload_n 1, 1) := by decide +kernel
theorem own_d1_95 : decode prog_36_method_5_code 95 = .ok (.ifCond .lt 7, 3) := by decide +kernel
theorem own_d1_98 : decode prog_36_method_5_code 98 = .ok (.iconst 1, 1) := by decide +kernel
theorem own_d1_99 : decode prog_36_method_5_code 99 = .ok (.goto 4, 3) := by decide +kernel
theorem own_d1_102 : decode prog_36_method_5_code 102 = .ok (.iconst 0, 1) := by decide +kernel
theorem own_d1_103 : decode prog_36_method_5_code 103 = .ok (.ireturn, 1) := by decide +kernel
theorem own_d2_0 : decode jdk_37_method_2_code 0 = .ok (.aload_n 0, 1) := by decide +kernel
theorem own_d2_1 : decode jdk_37_method_2_code 1 = .ok (.getfield 7, 3) := by decide +kernel
theorem own_d2_4 : decode jdk_37_method_2_code 4 = .ok (.ireturn, 1) := by decide +kernel
theorem own_pd0 : parseMethodDescriptor "()I" = some ⟨[], some .int⟩ := by decide +kernel
theorem own_pd1 : parseMethodDescriptor "(I)Z" = some ⟨[.int], some .boolean⟩ := by decide +kernel
theorem own_pn0 : plainName "java/lang/Enum" = true := by first | (simp [plainName, overriddenIn]; done) | decide +kernel
theorem own_pn1 : plainName "com/example/overflowstream/overflowstream/Query$Operator" = true := by first | (simp [plainName, overriddenIn]; done) | decide +kernel
theorem own_pn2 : plainName "com/example/overflowstream/overflowstream/OperatorHoldsPinLaw" = true := by first | (simp [plainName, overriddenIn]; done) | decide +kernel
theorem own_ef2 (m : MethodId) (a1 : Addr) : entryFrame m #[(.ref a1)] 1 = mkF m 0 #[.val (.ref a1)] [] := by first | (simp [entryFrame, mkF, argsToLocals, Value.category]; done) | rfl
theorem own_ef1 (m : MethodId) (a1 : Addr) (p1 : Int32) : entryFrame m #[(.ref a1), (.int p1)] 2 = mkF m 0 #[.val (.ref a1), .val (.int p1)] [] := by first | (simp [entryFrame, mkF, argsToLocals, Value.category]; done) | rfl
theorem own_ef0 (m : MethodId) (p1 : Int32) (p2 : Int32) : entryFrame m #[(.int p1), (.int p2)] maxLocals = mkF m 0 #[.val (.int p1), .val (.int p2), .unset, .unset, .unset, .unset, .unset] [] := by first | (simp [entryFrame, mkF, argsToLocals, Value.category, maxLocals]; done) | rfl
def own_h0 (p : Int32) : Int32 := if p = 0 then 1 else 0
def own_h1 (p : Int32) : Int32 := if p = 0 then 0 else 1
def own_h2 (p : Int32) : Int32 := if p < 0 then 1 else 0
def own_h3 (p : Int32) : Int32 := if (0 : Int32) < p then 0 else 1
def own_h4 (p : Int32) : Int32 := if (0 : Int32) < p then 1 else 0
def own_h5 (p : Int32) : Int32 := if p < 0 then 0 else 1
theorem own_s1 {p : Int32} (h : p < 0) : ¬ p = 0 ∧ ¬ (0 : Int32) < p := by
  have z : (0 : Int32).toInt = 0 := by decide
  have q := Int32.lt_iff_toInt_lt.mp h
  exact ⟨fun e => by rw [e] at q; omega, fun e => by have := Int32.lt_iff_toInt_lt.mp e; omega⟩
theorem own_s2 {p : Int32} (h : ¬ p < 0) (h2 : ¬ p = 0) : (0 : Int32) < p := by
  have z : (0 : Int32).toInt = 0 := by decide
  have q : ¬ p.toInt < (0 : Int32).toInt := fun e => h (Int32.lt_iff_toInt_lt.mpr e)
  have r : p.toInt ≠ (0 : Int32).toInt := fun e => h2 (Int32.toInt_inj.mp e)
  exact Int32.lt_iff_toInt_lt.mpr (by omega)
theorem own_mod6 (x : Int32) : (x &&& 2147483647) % 6 = 0 ∨ (x &&& 2147483647) % 6 = 1 ∨ (x &&& 2147483647) % 6 = 2 ∨ (x &&& 2147483647) % 6 = 3 ∨ (x &&& 2147483647) % 6 = 4 ∨ (x &&& 2147483647) % 6 = 5 := by
  have h := (c_and x 2147483647 (by decide)).1
  have q := (c_iremV (x &&& 2147483647) 6).1 h (by decide)
  have z : (6 : Int32).toInt = 6 := by decide
  rw [z] at q
  generalize (x &&& 2147483647) % 6 = y at q ⊢
  have : y.toInt = 0 ∨ y.toInt = 1 ∨ y.toInt = 2 ∨ y.toInt = 3 ∨ y.toInt = 4 ∨ y.toInt = 5 := by omega
  rcases this with q | q | q | q | q | q
  · exact Or.inl (Int32.toInt_inj.mp q)
  · exact Or.inr (Or.inl (Int32.toInt_inj.mp q))
  · exact Or.inr (Or.inr (Or.inl (Int32.toInt_inj.mp q)))
  · exact Or.inr (Or.inr (Or.inr (Or.inl (Int32.toInt_inj.mp q))))
  · exact Or.inr (Or.inr (Or.inr (Or.inr (Or.inl (Int32.toInt_inj.mp q)))))
  · exact Or.inr (Or.inr (Or.inr (Or.inr (Or.inr (Int32.toInt_inj.mp q)))))
def own_ord_Q (Z : State) (a1 : Addr) (od : Int32) (h0 : Heap) (n0 : Nat) (v : Option Value) (h : Heap) (L : List Loc) : Prop := v = some (.int od) ∧ Fr n0 L ∧ h = h0
set_option maxRecDepth 65536 in
set_option maxHeartbeats 40000000 in
theorem own_ord (l : Launch) {Z : State} {a0 : Array Value} (hw : own_W Z a0) (ws : List Jvm.Cond) (a1 : Addr) (od : Int32) (h0 : Heap) (n0 : Nat) (Z0 : n0 ≤ h0.size) (Fo : Fld Z h0 a1 "java/lang/Enum" "ordinal" "I" (.int od)) :
    MetFree l (⟨"java/lang/Enum", "ordinal", "()I"⟩ : MethodName) (head1 (Jvm.Cond.code (⟨"java/lang/Enum", "ordinal", "()I"⟩ : MethodName) jdk_37_method_2_code 1 (some .int) :: ws) ({ frames := 0, cells := 0, slots := 0, locals := 0 } : Room)) (fun a U => a = #[(.ref a1)] ∧ Z.Warmed39 U.vm ∧ U.heap = h0) (fun _ _ _ _ _ => True) (fun _ U o U' => ∃ v L, o = .returned v ∧ own_ord_Q Z a1 od h0 n0 v U'.heap L ∧ FrameEnd U o U' L ({ frames := 0, cells := 0, slots := 0, locals := 0 } : Room).cells ({ frames := 0, cells := 0, slots := 0, locals := 0 } : Room).slots) := by
  refine own_enter (C := ({ frames := 0, cells := 0, slots := 0, locals := 0 } : Room).cells) (S := ({ frames := 0, cells := 0, slots := 0, locals := 0 } : Room).slots) (plainFor_of_name own_pn0) ?_
  intro p e s m below meth c T0 X0 I e0
  obtain ⟨hx, hby, hml, hown, hnm, hret, hlk, hZ⟩ := I
  have N0 := Fr.nil n0
  have O0 := own_extr h0
  refine own_cast (own_ef2 m a1) ?_
  show own_Go _ _ _ _ T0 (mkF m 0 #[.val (.ref a1)] [])
  refine own_st (fun _ k => XS.aloadN X0.here hx rfl (hb hby own_d2_0) rfl rfl k) ?_
  show own_Go _ _ _ _ T0 (mkF m 1 #[.val (.ref a1)] [(.ref a1)])
  obtain ⟨T1, X1, e1, st1⟩ := getF X0 hx hZ hown (host := "") (Or.inl (own_w30 hw)) Via.refl e0 (Fo.ext O0) (g := (mkF m 1 #[.val (.ref a1)] [(.ref a1)])) rfl rfl (hb hby own_d2_1)
  refine own_st st1 ?_
  show own_Go _ _ _ _ T1 (mkF m 4 #[.val (.ref a1)] [(.int od)])
  exact own_retI X1 hx hret hlk (hb hby own_d2_4) ⟨rfl, N0, e1⟩ (by decide) (by decide)
def own_hold0_Q (Z : State) (a1 : Addr) (p1 : Int32) (h0 : Heap) (n0 : Nat) (v : Option Value) (h : Heap) (L : List Loc) : Prop := v = some (.int (own_h0 p1)) ∧ Fr n0 L ∧ h = h0
set_option maxRecDepth 65536 in
set_option maxHeartbeats 40000000 in
theorem own_hold0 (l : Launch) {Z : State} {a0 : Array Value} (hw : own_W Z a0) (ws : List Jvm.Cond) (a1 : Addr) (p1 : Int32) (h0 : Heap) (n0 : Nat) (Z0 : n0 ≤ h0.size) (Ea : Exa Z h0 a1 "com/example/overflowstream/overflowstream/Query$Operator") (Fo : Fld Z h0 a1 "java/lang/Enum" "ordinal" "I" (.int (0 : Int32))) :
    MetFree l (⟨"com/example/overflowstream/overflowstream/Query$Operator", "holds", "(I)Z"⟩ : MethodName) (head1 (Jvm.Cond.code (⟨"com/example/overflowstream/overflowstream/Query$Operator", "holds", "(I)Z"⟩ : MethodName) prog_36_method_5_code 2 (some .boolean) :: ws) ({ frames := 1, cells := 0, slots := 0, locals := 12 } : Room)) (fun a U => a = #[(.ref a1), (.int p1)] ∧ Z.Warmed39 U.vm ∧ U.heap = h0) (fun _ _ _ _ _ => True) (fun _ U o U' => ∃ v L, o = .returned v ∧ own_hold0_Q Z a1 p1 h0 n0 v U'.heap L ∧ FrameEnd U o U' L ({ frames := 1, cells := 0, slots := 0, locals := 12 } : Room).cells ({ frames := 1, cells := 0, slots := 0, locals := 12 } : Room).slots) := by
  refine own_enter (C := ({ frames := 1, cells := 0, slots := 0, locals := 12 } : Room).cells) (S := ({ frames := 1, cells := 0, slots := 0, locals := 12 } : Room).slots) (plainFor_of_name own_pn1) ?_
  intro p e s m below meth c T0 X0 I e0
  obtain ⟨hx, hby, hml, hown, hnm, hret, hlk, hZ⟩ := I
  have N0 := Fr.nil n0
  have O0 := own_extr h0
  refine own_cast (own_ef1 m a1 p1) ?_
  show own_Go _ _ _ _ T0 (mkF m 0 #[.val (.ref a1), .val (.int p1)] [])
  refine own_st (fun _ k => XS.aloadN X0.here hx rfl (hb hby own_d1_0) rfl rfl k) ?_
  show own_Go _ _ _ _ T0 (mkF m 1 #[.val (.ref a1), .val (.int p1)] [(.ref a1)])
  obtain ⟨v1, T1, L1, hQ1, X1, st1⟩ := own_callU X0 hx hZ (x := (⟨"com/example/overflowstream/overflowstream/Query$Operator", "ordinal", "()I"⟩ : MethodName)) (y := (⟨"java/lang/Enum", "ordinal", "()I"⟩ : MethodName)) hown (own_w23 hw) (own_w24 hw) (own_w25 hw) (by decide) (own_w27 hw) (own_w26 hw) (own_w28 hw) (own_w29 hw) (own_ord l hw [] a1 (0 : Int32) h0 n0 (Nat.le_trans Z0 O0.1) (Fo.ext O0)) e0 (Ea.ext O0) (g := (mkF m 1 #[.val (.ref a1), .val (.int p1)] [(.ref a1)])) rfl (by rw [hml]; rfl) (argsL := []) (rest := []) (lenOf own_pd0 rfl) rfl rfl (W := 0) (Nat.le_of_eq rfl) (hb hby own_d1_1) (by decide) (by decide) (by decide) (by decide)
  obtain ⟨rfl, N1, e1⟩ := hQ1
  have N1' := Fr.app N0 N1
  refine own_st st1 ?_
  show own_Go _ _ _ _ T1 (mkF m 4 #[.val (.ref a1), .val (.int p1)] [(.int (0 : Int32))])
  refine own_st (fun _ k => XS.tswIn X1.here hx rfl (pc0 := 4) (pc' := 44) rfl (hb hby own_d1_4) rfl (by decide) (o := 40) rfl (by decide) (by decide) k) ?_
  show own_Go _ _ _ _ T1 (mkF m 44 #[.val (.ref a1), .val (.int p1)] [])
  refine own_st (fun _ k => XS.iloadN X1.here hx rfl (hb hby own_d1_44) rfl k) ?_
  show own_Go _ _ _ _ T1 (mkF m 45 #[.val (.ref a1), .val (.int p1)] [(.int p1)])
  by_cases hc : p1 = (0 : Int32)
  · refine own_st (fun _ k => XS.ifNo X1.here hx rfl (hb hby own_d1_45) rfl ((if0 _ _).trans (teq (hc : p1 = (0 : Int32))).2) k) ?_
    show own_Go _ _ _ _ T1 (mkF m 48 #[.val (.ref a1), .val (.int p1)] [])
    refine own_st (fun _ k => XS.iconst X1.here hx rfl (hb hby own_d1_48) k) ?_
    show own_Go _ _ _ _ T1 (mkF m 49 #[.val (.ref a1), .val (.int p1)] [(.int (1 : Int32))])
    refine own_st (fun _ k => XS.goto X1.here hx rfl (pc0 := 49) (pc' := 53) rfl (hb hby own_d1_49) (by decide) (by decide) k) ?_
    show own_Go _ _ _ _ T1 (mkF m 53 #[.val (.ref a1), .val (.int p1)] [(.int (1 : Int32))])
    exact own_retN X1 hx hret (by simp) hlk (hb hby own_d1_53) ⟨by simp [own_h0, nar, *], N1', e1⟩ (by decide) (by decide)
  · refine own_st (fun _ k => XS.ifYes X1.here hx rfl (pc0 := 45) (pc' := 52) rfl (hb hby own_d1_45) rfl ((if0 _ _).trans (feq (hc : ¬ (p1 = (0 : Int32)))).2) (by decide) (by decide) k) ?_
    show own_Go _ _ _ _ T1 (mkF m 52 #[.val (.ref a1), .val (.int p1)] [])
    refine own_st (fun _ k => XS.iconst X1.here hx rfl (hb hby own_d1_52) k) ?_
    show own_Go _ _ _ _ T1 (mkF m 53 #[.val (.ref a1), .val (.int p1)] [(.int (0 : Int32))])
    exact own_retN X1 hx hret (by simp) hlk (hb hby own_d1_53) ⟨by simp [own_h0, nar, *], N1', e1⟩ (by decide) (by decide)
def own_hold1_Q (Z : State) (a1 : Addr) (p1 : Int32) (h0 : Heap) (n0 : Nat) (v : Option Value) (h : Heap) (L : List Loc) : Prop := v = some (.int (own_h1 p1)) ∧ Fr n0 L ∧ h = h0
set_option maxRecDepth 65536 in
set_option maxHeartbeats 40000000 in
theorem own_hold1 (l : Launch) {Z : State} {a0 : Array Value} (hw : own_W Z a0) (ws : List Jvm.Cond) (a1 : Addr) (p1 : Int32) (h0 : Heap) (n0 : Nat) (Z0 : n0 ≤ h0.size) (Ea : Exa Z h0 a1 "com/example/overflowstream/overflowstream/Query$Operator") (Fo : Fld Z h0 a1 "java/lang/Enum" "ordinal" "I" (.int (1 : Int32))) :
    MetFree l (⟨"com/example/overflowstream/overflowstream/Query$Operator", "holds", "(I)Z"⟩ : MethodName) (head1 (Jvm.Cond.code (⟨"com/example/overflowstream/overflowstream/Query$Operator", "holds", "(I)Z"⟩ : MethodName) prog_36_method_5_code 2 (some .boolean) :: ws) ({ frames := 1, cells := 0, slots := 0, locals := 12 } : Room)) (fun a U => a = #[(.ref a1), (.int p1)] ∧ Z.Warmed39 U.vm ∧ U.heap = h0) (fun _ _ _ _ _ => True) (fun _ U o U' => ∃ v L, o = .returned v ∧ own_hold1_Q Z a1 p1 h0 n0 v U'.heap L ∧ FrameEnd U o U' L ({ frames := 1, cells := 0, slots := 0, locals := 12 } : Room).cells ({ frames := 1, cells := 0, slots := 0, locals := 12 } : Room).slots) := by
  refine own_enter (C := ({ frames := 1, cells := 0, slots := 0, locals := 12 } : Room).cells) (S := ({ frames := 1, cells := 0, slots := 0, locals := 12 } : Room).slots) (plainFor_of_name own_pn1) ?_
  intro p e s m below meth c T0 X0 I e0
  obtain ⟨hx, hby, hml, hown, hnm, hret, hlk, hZ⟩ := I
  have N0 := Fr.nil n0
  have O0 := own_extr h0
  refine own_cast (own_ef1 m a1 p1) ?_
  show own_Go _ _ _ _ T0 (mkF m 0 #[.val (.ref a1), .val (.int p1)] [])
  refine own_st (fun _ k => XS.aloadN X0.here hx rfl (hb hby own_d1_0) rfl rfl k) ?_
  show own_Go _ _ _ _ T0 (mkF m 1 #[.val (.ref a1), .val (.int p1)] [(.ref a1)])
  obtain ⟨v1, T1, L1, hQ1, X1, st1⟩ := own_callU X0 hx hZ (x := (⟨"com/example/overflowstream/overflowstream/Query$Operator", "ordinal", "()I"⟩ : MethodName)) (y := (⟨"java/lang/Enum", "ordinal", "()I"⟩ : MethodName)) hown (own_w23 hw) (own_w24 hw) (own_w25 hw) (by decide) (own_w27 hw) (own_w26 hw) (own_w28 hw) (own_w29 hw) (own_ord l hw [] a1 (1 : Int32) h0 n0 (Nat.le_trans Z0 O0.1) (Fo.ext O0)) e0 (Ea.ext O0) (g := (mkF m 1 #[.val (.ref a1), .val (.int p1)] [(.ref a1)])) rfl (by rw [hml]; rfl) (argsL := []) (rest := []) (lenOf own_pd0 rfl) rfl rfl (W := 0) (Nat.le_of_eq rfl) (hb hby own_d1_1) (by decide) (by decide) (by decide) (by decide)
  obtain ⟨rfl, N1, e1⟩ := hQ1
  have N1' := Fr.app N0 N1
  refine own_st st1 ?_
  show own_Go _ _ _ _ T1 (mkF m 4 #[.val (.ref a1), .val (.int p1)] [(.int (1 : Int32))])
  refine own_st (fun _ k => XS.tswIn X1.here hx rfl (pc0 := 4) (pc' := 54) rfl (hb hby own_d1_4) rfl (by decide) (o := 50) rfl (by decide) (by decide) k) ?_
  show own_Go _ _ _ _ T1 (mkF m 54 #[.val (.ref a1), .val (.int p1)] [])
  refine own_st (fun _ k => XS.iloadN X1.here hx rfl (hb hby own_d1_54) rfl k) ?_
  show own_Go _ _ _ _ T1 (mkF m 55 #[.val (.ref a1), .val (.int p1)] [(.int p1)])
  by_cases hc : p1 = (0 : Int32)
  · refine own_st (fun _ k => XS.ifYes X1.here hx rfl (pc0 := 55) (pc' := 62) rfl (hb hby own_d1_55) rfl ((if0 _ _).trans (teq (hc : p1 = (0 : Int32))).1) (by decide) (by decide) k) ?_
    show own_Go _ _ _ _ T1 (mkF m 62 #[.val (.ref a1), .val (.int p1)] [])
    refine own_st (fun _ k => XS.iconst X1.here hx rfl (hb hby own_d1_62) k) ?_
    show own_Go _ _ _ _ T1 (mkF m 63 #[.val (.ref a1), .val (.int p1)] [(.int (0 : Int32))])
    exact own_retN X1 hx hret (by simp) hlk (hb hby own_d1_63) ⟨by simp [own_h1, nar, *], N1', e1⟩ (by decide) (by decide)
  · refine own_st (fun _ k => XS.ifNo X1.here hx rfl (hb hby own_d1_55) rfl ((if0 _ _).trans (feq (hc : ¬ (p1 = (0 : Int32)))).1) k) ?_
    show own_Go _ _ _ _ T1 (mkF m 58 #[.val (.ref a1), .val (.int p1)] [])
    refine own_st (fun _ k => XS.iconst X1.here hx rfl (hb hby own_d1_58) k) ?_
    show own_Go _ _ _ _ T1 (mkF m 59 #[.val (.ref a1), .val (.int p1)] [(.int (1 : Int32))])
    refine own_st (fun _ k => XS.goto X1.here hx rfl (pc0 := 59) (pc' := 63) rfl (hb hby own_d1_59) (by decide) (by decide) k) ?_
    show own_Go _ _ _ _ T1 (mkF m 63 #[.val (.ref a1), .val (.int p1)] [(.int (1 : Int32))])
    exact own_retN X1 hx hret (by simp) hlk (hb hby own_d1_63) ⟨by simp [own_h1, nar, *], N1', e1⟩ (by decide) (by decide)
def own_hold2_Q (Z : State) (a1 : Addr) (p1 : Int32) (h0 : Heap) (n0 : Nat) (v : Option Value) (h : Heap) (L : List Loc) : Prop := v = some (.int (own_h2 p1)) ∧ Fr n0 L ∧ h = h0
set_option maxRecDepth 65536 in
set_option maxHeartbeats 40000000 in
theorem own_hold2 (l : Launch) {Z : State} {a0 : Array Value} (hw : own_W Z a0) (ws : List Jvm.Cond) (a1 : Addr) (p1 : Int32) (h0 : Heap) (n0 : Nat) (Z0 : n0 ≤ h0.size) (Ea : Exa Z h0 a1 "com/example/overflowstream/overflowstream/Query$Operator") (Fo : Fld Z h0 a1 "java/lang/Enum" "ordinal" "I" (.int (2 : Int32))) :
    MetFree l (⟨"com/example/overflowstream/overflowstream/Query$Operator", "holds", "(I)Z"⟩ : MethodName) (head1 (Jvm.Cond.code (⟨"com/example/overflowstream/overflowstream/Query$Operator", "holds", "(I)Z"⟩ : MethodName) prog_36_method_5_code 2 (some .boolean) :: ws) ({ frames := 1, cells := 0, slots := 0, locals := 12 } : Room)) (fun a U => a = #[(.ref a1), (.int p1)] ∧ Z.Warmed39 U.vm ∧ U.heap = h0) (fun _ _ _ _ _ => True) (fun _ U o U' => ∃ v L, o = .returned v ∧ own_hold2_Q Z a1 p1 h0 n0 v U'.heap L ∧ FrameEnd U o U' L ({ frames := 1, cells := 0, slots := 0, locals := 12 } : Room).cells ({ frames := 1, cells := 0, slots := 0, locals := 12 } : Room).slots) := by
  refine own_enter (C := ({ frames := 1, cells := 0, slots := 0, locals := 12 } : Room).cells) (S := ({ frames := 1, cells := 0, slots := 0, locals := 12 } : Room).slots) (plainFor_of_name own_pn1) ?_
  intro p e s m below meth c T0 X0 I e0
  obtain ⟨hx, hby, hml, hown, hnm, hret, hlk, hZ⟩ := I
  have N0 := Fr.nil n0
  have O0 := own_extr h0
  refine own_cast (own_ef1 m a1 p1) ?_
  show own_Go _ _ _ _ T0 (mkF m 0 #[.val (.ref a1), .val (.int p1)] [])
  refine own_st (fun _ k => XS.aloadN X0.here hx rfl (hb hby own_d1_0) rfl rfl k) ?_
  show own_Go _ _ _ _ T0 (mkF m 1 #[.val (.ref a1), .val (.int p1)] [(.ref a1)])
  obtain ⟨v1, T1, L1, hQ1, X1, st1⟩ := own_callU X0 hx hZ (x := (⟨"com/example/overflowstream/overflowstream/Query$Operator", "ordinal", "()I"⟩ : MethodName)) (y := (⟨"java/lang/Enum", "ordinal", "()I"⟩ : MethodName)) hown (own_w23 hw) (own_w24 hw) (own_w25 hw) (by decide) (own_w27 hw) (own_w26 hw) (own_w28 hw) (own_w29 hw) (own_ord l hw [] a1 (2 : Int32) h0 n0 (Nat.le_trans Z0 O0.1) (Fo.ext O0)) e0 (Ea.ext O0) (g := (mkF m 1 #[.val (.ref a1), .val (.int p1)] [(.ref a1)])) rfl (by rw [hml]; rfl) (argsL := []) (rest := []) (lenOf own_pd0 rfl) rfl rfl (W := 0) (Nat.le_of_eq rfl) (hb hby own_d1_1) (by decide) (by decide) (by decide) (by decide)
  obtain ⟨rfl, N1, e1⟩ := hQ1
  have N1' := Fr.app N0 N1
  refine own_st st1 ?_
  show own_Go _ _ _ _ T1 (mkF m 4 #[.val (.ref a1), .val (.int p1)] [(.int (2 : Int32))])
  refine own_st (fun _ k => XS.tswIn X1.here hx rfl (pc0 := 4) (pc' := 64) rfl (hb hby own_d1_4) rfl (by decide) (o := 60) rfl (by decide) (by decide) k) ?_
  show own_Go _ _ _ _ T1 (mkF m 64 #[.val (.ref a1), .val (.int p1)] [])
  refine own_st (fun _ k => XS.iloadN X1.here hx rfl (hb hby own_d1_64) rfl k) ?_
  show own_Go _ _ _ _ T1 (mkF m 65 #[.val (.ref a1), .val (.int p1)] [(.int p1)])
  by_cases hc : p1 < (0 : Int32)
  · refine own_st (fun _ k => XS.ifNo X1.here hx rfl (hb hby own_d1_65) rfl ((if0 _ _).trans (tlt (hc : p1 < (0 : Int32))).2.1) k) ?_
    show own_Go _ _ _ _ T1 (mkF m 68 #[.val (.ref a1), .val (.int p1)] [])
    refine own_st (fun _ k => XS.iconst X1.here hx rfl (hb hby own_d1_68) k) ?_
    show own_Go _ _ _ _ T1 (mkF m 69 #[.val (.ref a1), .val (.int p1)] [(.int (1 : Int32))])
    refine own_st (fun _ k => XS.goto X1.here hx rfl (pc0 := 69) (pc' := 73) rfl (hb hby own_d1_69) (by decide) (by decide) k) ?_
    show own_Go _ _ _ _ T1 (mkF m 73 #[.val (.ref a1), .val (.int p1)] [(.int (1 : Int32))])
    exact own_retN X1 hx hret (by simp) hlk (hb hby own_d1_73) ⟨by simp [own_h2, nar, *], N1', e1⟩ (by decide) (by decide)
  · refine own_st (fun _ k => XS.ifYes X1.here hx rfl (pc0 := 65) (pc' := 72) rfl (hb hby own_d1_65) rfl ((if0 _ _).trans (flt (hc : ¬ (p1 < (0 : Int32)))).2.1) (by decide) (by decide) k) ?_
    show own_Go _ _ _ _ T1 (mkF m 72 #[.val (.ref a1), .val (.int p1)] [])
    refine own_st (fun _ k => XS.iconst X1.here hx rfl (hb hby own_d1_72) k) ?_
    show own_Go _ _ _ _ T1 (mkF m 73 #[.val (.ref a1), .val (.int p1)] [(.int (0 : Int32))])
    exact own_retN X1 hx hret (by simp) hlk (hb hby own_d1_73) ⟨by simp [own_h2, nar, *], N1', e1⟩ (by decide) (by decide)
def own_hold3_Q (Z : State) (a1 : Addr) (p1 : Int32) (h0 : Heap) (n0 : Nat) (v : Option Value) (h : Heap) (L : List Loc) : Prop := v = some (.int (own_h3 p1)) ∧ Fr n0 L ∧ h = h0
set_option maxRecDepth 65536 in
set_option maxHeartbeats 40000000 in
theorem own_hold3 (l : Launch) {Z : State} {a0 : Array Value} (hw : own_W Z a0) (ws : List Jvm.Cond) (a1 : Addr) (p1 : Int32) (h0 : Heap) (n0 : Nat) (Z0 : n0 ≤ h0.size) (Ea : Exa Z h0 a1 "com/example/overflowstream/overflowstream/Query$Operator") (Fo : Fld Z h0 a1 "java/lang/Enum" "ordinal" "I" (.int (3 : Int32))) :
    MetFree l (⟨"com/example/overflowstream/overflowstream/Query$Operator", "holds", "(I)Z"⟩ : MethodName) (head1 (Jvm.Cond.code (⟨"com/example/overflowstream/overflowstream/Query$Operator", "holds", "(I)Z"⟩ : MethodName) prog_36_method_5_code 2 (some .boolean) :: ws) ({ frames := 1, cells := 0, slots := 0, locals := 12 } : Room)) (fun a U => a = #[(.ref a1), (.int p1)] ∧ Z.Warmed39 U.vm ∧ U.heap = h0) (fun _ _ _ _ _ => True) (fun _ U o U' => ∃ v L, o = .returned v ∧ own_hold3_Q Z a1 p1 h0 n0 v U'.heap L ∧ FrameEnd U o U' L ({ frames := 1, cells := 0, slots := 0, locals := 12 } : Room).cells ({ frames := 1, cells := 0, slots := 0, locals := 12 } : Room).slots) := by
  refine own_enter (C := ({ frames := 1, cells := 0, slots := 0, locals := 12 } : Room).cells) (S := ({ frames := 1, cells := 0, slots := 0, locals := 12 } : Room).slots) (plainFor_of_name own_pn1) ?_
  intro p e s m below meth c T0 X0 I e0
  obtain ⟨hx, hby, hml, hown, hnm, hret, hlk, hZ⟩ := I
  have N0 := Fr.nil n0
  have O0 := own_extr h0
  refine own_cast (own_ef1 m a1 p1) ?_
  show own_Go _ _ _ _ T0 (mkF m 0 #[.val (.ref a1), .val (.int p1)] [])
  refine own_st (fun _ k => XS.aloadN X0.here hx rfl (hb hby own_d1_0) rfl rfl k) ?_
  show own_Go _ _ _ _ T0 (mkF m 1 #[.val (.ref a1), .val (.int p1)] [(.ref a1)])
  obtain ⟨v1, T1, L1, hQ1, X1, st1⟩ := own_callU X0 hx hZ (x := (⟨"com/example/overflowstream/overflowstream/Query$Operator", "ordinal", "()I"⟩ : MethodName)) (y := (⟨"java/lang/Enum", "ordinal", "()I"⟩ : MethodName)) hown (own_w23 hw) (own_w24 hw) (own_w25 hw) (by decide) (own_w27 hw) (own_w26 hw) (own_w28 hw) (own_w29 hw) (own_ord l hw [] a1 (3 : Int32) h0 n0 (Nat.le_trans Z0 O0.1) (Fo.ext O0)) e0 (Ea.ext O0) (g := (mkF m 1 #[.val (.ref a1), .val (.int p1)] [(.ref a1)])) rfl (by rw [hml]; rfl) (argsL := []) (rest := []) (lenOf own_pd0 rfl) rfl rfl (W := 0) (Nat.le_of_eq rfl) (hb hby own_d1_1) (by decide) (by decide) (by decide) (by decide)
  obtain ⟨rfl, N1, e1⟩ := hQ1
  have N1' := Fr.app N0 N1
  refine own_st st1 ?_
  show own_Go _ _ _ _ T1 (mkF m 4 #[.val (.ref a1), .val (.int p1)] [(.int (3 : Int32))])
  refine own_st (fun _ k => XS.tswIn X1.here hx rfl (pc0 := 4) (pc' := 74) rfl (hb hby own_d1_4) rfl (by decide) (o := 70) rfl (by decide) (by decide) k) ?_
  show own_Go _ _ _ _ T1 (mkF m 74 #[.val (.ref a1), .val (.int p1)] [])
  refine own_st (fun _ k => XS.iloadN X1.here hx rfl (hb hby own_d1_74) rfl k) ?_
  show own_Go _ _ _ _ T1 (mkF m 75 #[.val (.ref a1), .val (.int p1)] [(.int p1)])
  by_cases hc : (0 : Int32) < p1
  · refine own_st (fun _ k => XS.ifYes X1.here hx rfl (pc0 := 75) (pc' := 82) rfl (hb hby own_d1_75) rfl ((if0 _ _).trans (tlt (hc : (0 : Int32) < p1)).2.2.1) (by decide) (by decide) k) ?_
    show own_Go _ _ _ _ T1 (mkF m 82 #[.val (.ref a1), .val (.int p1)] [])
    refine own_st (fun _ k => XS.iconst X1.here hx rfl (hb hby own_d1_82) k) ?_
    show own_Go _ _ _ _ T1 (mkF m 83 #[.val (.ref a1), .val (.int p1)] [(.int (0 : Int32))])
    exact own_retN X1 hx hret (by simp) hlk (hb hby own_d1_83) ⟨by simp [own_h3, nar, *], N1', e1⟩ (by decide) (by decide)
  · refine own_st (fun _ k => XS.ifNo X1.here hx rfl (hb hby own_d1_75) rfl ((if0 _ _).trans (flt (hc : ¬ ((0 : Int32) < p1))).2.2.1) k) ?_
    show own_Go _ _ _ _ T1 (mkF m 78 #[.val (.ref a1), .val (.int p1)] [])
    refine own_st (fun _ k => XS.iconst X1.here hx rfl (hb hby own_d1_78) k) ?_
    show own_Go _ _ _ _ T1 (mkF m 79 #[.val (.ref a1), .val (.int p1)] [(.int (1 : Int32))])
    refine own_st (fun _ k => XS.goto X1.here hx rfl (pc0 := 79) (pc' := 83) rfl (hb hby own_d1_79) (by decide) (by decide) k) ?_
    show own_Go _ _ _ _ T1 (mkF m 83 #[.val (.ref a1), .val (.int p1)] [(.int (1 : Int32))])
    exact own_retN X1 hx hret (by simp) hlk (hb hby own_d1_83) ⟨by simp [own_h3, nar, *], N1', e1⟩ (by decide) (by decide)
def own_hold4_Q (Z : State) (a1 : Addr) (p1 : Int32) (h0 : Heap) (n0 : Nat) (v : Option Value) (h : Heap) (L : List Loc) : Prop := v = some (.int (own_h4 p1)) ∧ Fr n0 L ∧ h = h0
set_option maxRecDepth 65536 in
set_option maxHeartbeats 40000000 in
theorem own_hold4 (l : Launch) {Z : State} {a0 : Array Value} (hw : own_W Z a0) (ws : List Jvm.Cond) (a1 : Addr) (p1 : Int32) (h0 : Heap) (n0 : Nat) (Z0 : n0 ≤ h0.size) (Ea : Exa Z h0 a1 "com/example/overflowstream/overflowstream/Query$Operator") (Fo : Fld Z h0 a1 "java/lang/Enum" "ordinal" "I" (.int (4 : Int32))) :
    MetFree l (⟨"com/example/overflowstream/overflowstream/Query$Operator", "holds", "(I)Z"⟩ : MethodName) (head1 (Jvm.Cond.code (⟨"com/example/overflowstream/overflowstream/Query$Operator", "holds", "(I)Z"⟩ : MethodName) prog_36_method_5_code 2 (some .boolean) :: ws) ({ frames := 1, cells := 0, slots := 0, locals := 12 } : Room)) (fun a U => a = #[(.ref a1), (.int p1)] ∧ Z.Warmed39 U.vm ∧ U.heap = h0) (fun _ _ _ _ _ => True) (fun _ U o U' => ∃ v L, o = .returned v ∧ own_hold4_Q Z a1 p1 h0 n0 v U'.heap L ∧ FrameEnd U o U' L ({ frames := 1, cells := 0, slots := 0, locals := 12 } : Room).cells ({ frames := 1, cells := 0, slots := 0, locals := 12 } : Room).slots) := by
  refine own_enter (C := ({ frames := 1, cells := 0, slots := 0, locals := 12 } : Room).cells) (S := ({ frames := 1, cells := 0, slots := 0, locals := 12 } : Room).slots) (plainFor_of_name own_pn1) ?_
  intro p e s m below meth c T0 X0 I e0
  obtain ⟨hx, hby, hml, hown, hnm, hret, hlk, hZ⟩ := I
  have N0 := Fr.nil n0
  have O0 := own_extr h0
  refine own_cast (own_ef1 m a1 p1) ?_
  show own_Go _ _ _ _ T0 (mkF m 0 #[.val (.ref a1), .val (.int p1)] [])
  refine own_st (fun _ k => XS.aloadN X0.here hx rfl (hb hby own_d1_0) rfl rfl k) ?_
  show own_Go _ _ _ _ T0 (mkF m 1 #[.val (.ref a1), .val (.int p1)] [(.ref a1)])
  obtain ⟨v1, T1, L1, hQ1, X1, st1⟩ := own_callU X0 hx hZ (x := (⟨"com/example/overflowstream/overflowstream/Query$Operator", "ordinal", "()I"⟩ : MethodName)) (y := (⟨"java/lang/Enum", "ordinal", "()I"⟩ : MethodName)) hown (own_w23 hw) (own_w24 hw) (own_w25 hw) (by decide) (own_w27 hw) (own_w26 hw) (own_w28 hw) (own_w29 hw) (own_ord l hw [] a1 (4 : Int32) h0 n0 (Nat.le_trans Z0 O0.1) (Fo.ext O0)) e0 (Ea.ext O0) (g := (mkF m 1 #[.val (.ref a1), .val (.int p1)] [(.ref a1)])) rfl (by rw [hml]; rfl) (argsL := []) (rest := []) (lenOf own_pd0 rfl) rfl rfl (W := 0) (Nat.le_of_eq rfl) (hb hby own_d1_1) (by decide) (by decide) (by decide) (by decide)
  obtain ⟨rfl, N1, e1⟩ := hQ1
  have N1' := Fr.app N0 N1
  refine own_st st1 ?_
  show own_Go _ _ _ _ T1 (mkF m 4 #[.val (.ref a1), .val (.int p1)] [(.int (4 : Int32))])
  refine own_st (fun _ k => XS.tswIn X1.here hx rfl (pc0 := 4) (pc' := 84) rfl (hb hby own_d1_4) rfl (by decide) (o := 80) rfl (by decide) (by decide) k) ?_
  show own_Go _ _ _ _ T1 (mkF m 84 #[.val (.ref a1), .val (.int p1)] [])
  refine own_st (fun _ k => XS.iloadN X1.here hx rfl (hb hby own_d1_84) rfl k) ?_
  show own_Go _ _ _ _ T1 (mkF m 85 #[.val (.ref a1), .val (.int p1)] [(.int p1)])
  by_cases hc : (0 : Int32) < p1
  · refine own_st (fun _ k => XS.ifNo X1.here hx rfl (hb hby own_d1_85) rfl ((if0 _ _).trans (tlt (hc : (0 : Int32) < p1)).2.2.2) k) ?_
    show own_Go _ _ _ _ T1 (mkF m 88 #[.val (.ref a1), .val (.int p1)] [])
    refine own_st (fun _ k => XS.iconst X1.here hx rfl (hb hby own_d1_88) k) ?_
    show own_Go _ _ _ _ T1 (mkF m 89 #[.val (.ref a1), .val (.int p1)] [(.int (1 : Int32))])
    refine own_st (fun _ k => XS.goto X1.here hx rfl (pc0 := 89) (pc' := 93) rfl (hb hby own_d1_89) (by decide) (by decide) k) ?_
    show own_Go _ _ _ _ T1 (mkF m 93 #[.val (.ref a1), .val (.int p1)] [(.int (1 : Int32))])
    exact own_retN X1 hx hret (by simp) hlk (hb hby own_d1_93) ⟨by simp [own_h4, nar, *], N1', e1⟩ (by decide) (by decide)
  · refine own_st (fun _ k => XS.ifYes X1.here hx rfl (pc0 := 85) (pc' := 92) rfl (hb hby own_d1_85) rfl ((if0 _ _).trans (flt (hc : ¬ ((0 : Int32) < p1))).2.2.2) (by decide) (by decide) k) ?_
    show own_Go _ _ _ _ T1 (mkF m 92 #[.val (.ref a1), .val (.int p1)] [])
    refine own_st (fun _ k => XS.iconst X1.here hx rfl (hb hby own_d1_92) k) ?_
    show own_Go _ _ _ _ T1 (mkF m 93 #[.val (.ref a1), .val (.int p1)] [(.int (0 : Int32))])
    exact own_retN X1 hx hret (by simp) hlk (hb hby own_d1_93) ⟨by simp [own_h4, nar, *], N1', e1⟩ (by decide) (by decide)
def own_hold5_Q (Z : State) (a1 : Addr) (p1 : Int32) (h0 : Heap) (n0 : Nat) (v : Option Value) (h : Heap) (L : List Loc) : Prop := v = some (.int (own_h5 p1)) ∧ Fr n0 L ∧ h = h0
set_option maxRecDepth 65536 in
set_option maxHeartbeats 40000000 in
theorem own_hold5 (l : Launch) {Z : State} {a0 : Array Value} (hw : own_W Z a0) (ws : List Jvm.Cond) (a1 : Addr) (p1 : Int32) (h0 : Heap) (n0 : Nat) (Z0 : n0 ≤ h0.size) (Ea : Exa Z h0 a1 "com/example/overflowstream/overflowstream/Query$Operator") (Fo : Fld Z h0 a1 "java/lang/Enum" "ordinal" "I" (.int (5 : Int32))) :
    MetFree l (⟨"com/example/overflowstream/overflowstream/Query$Operator", "holds", "(I)Z"⟩ : MethodName) (head1 (Jvm.Cond.code (⟨"com/example/overflowstream/overflowstream/Query$Operator", "holds", "(I)Z"⟩ : MethodName) prog_36_method_5_code 2 (some .boolean) :: ws) ({ frames := 1, cells := 0, slots := 0, locals := 12 } : Room)) (fun a U => a = #[(.ref a1), (.int p1)] ∧ Z.Warmed39 U.vm ∧ U.heap = h0) (fun _ _ _ _ _ => True) (fun _ U o U' => ∃ v L, o = .returned v ∧ own_hold5_Q Z a1 p1 h0 n0 v U'.heap L ∧ FrameEnd U o U' L ({ frames := 1, cells := 0, slots := 0, locals := 12 } : Room).cells ({ frames := 1, cells := 0, slots := 0, locals := 12 } : Room).slots) := by
  refine own_enter (C := ({ frames := 1, cells := 0, slots := 0, locals := 12 } : Room).cells) (S := ({ frames := 1, cells := 0, slots := 0, locals := 12 } : Room).slots) (plainFor_of_name own_pn1) ?_
  intro p e s m below meth c T0 X0 I e0
  obtain ⟨hx, hby, hml, hown, hnm, hret, hlk, hZ⟩ := I
  have N0 := Fr.nil n0
  have O0 := own_extr h0
  refine own_cast (own_ef1 m a1 p1) ?_
  show own_Go _ _ _ _ T0 (mkF m 0 #[.val (.ref a1), .val (.int p1)] [])
  refine own_st (fun _ k => XS.aloadN X0.here hx rfl (hb hby own_d1_0) rfl rfl k) ?_
  show own_Go _ _ _ _ T0 (mkF m 1 #[.val (.ref a1), .val (.int p1)] [(.ref a1)])
  obtain ⟨v1, T1, L1, hQ1, X1, st1⟩ := own_callU X0 hx hZ (x := (⟨"com/example/overflowstream/overflowstream/Query$Operator", "ordinal", "()I"⟩ : MethodName)) (y := (⟨"java/lang/Enum", "ordinal", "()I"⟩ : MethodName)) hown (own_w23 hw) (own_w24 hw) (own_w25 hw) (by decide) (own_w27 hw) (own_w26 hw) (own_w28 hw) (own_w29 hw) (own_ord l hw [] a1 (5 : Int32) h0 n0 (Nat.le_trans Z0 O0.1) (Fo.ext O0)) e0 (Ea.ext O0) (g := (mkF m 1 #[.val (.ref a1), .val (.int p1)] [(.ref a1)])) rfl (by rw [hml]; rfl) (argsL := []) (rest := []) (lenOf own_pd0 rfl) rfl rfl (W := 0) (Nat.le_of_eq rfl) (hb hby own_d1_1) (by decide) (by decide) (by decide) (by decide)
  obtain ⟨rfl, N1, e1⟩ := hQ1
  have N1' := Fr.app N0 N1
  refine own_st st1 ?_
  show own_Go _ _ _ _ T1 (mkF m 4 #[.val (.ref a1), .val (.int p1)] [(.int (5 : Int32))])
  refine own_st (fun _ k => XS.tswIn X1.here hx rfl (pc0 := 4) (pc' := 94) rfl (hb hby own_d1_4) rfl (by decide) (o := 90) rfl (by decide) (by decide) k) ?_
  show own_Go _ _ _ _ T1 (mkF m 94 #[.val (.ref a1), .val (.int p1)] [])
  refine own_st (fun _ k => XS.iloadN X1.here hx rfl (hb hby own_d1_94) rfl k) ?_
  show own_Go _ _ _ _ T1 (mkF m 95 #[.val (.ref a1), .val (.int p1)] [(.int p1)])
  by_cases hc : p1 < (0 : Int32)
  · refine own_st (fun _ k => XS.ifYes X1.here hx rfl (pc0 := 95) (pc' := 102) rfl (hb hby own_d1_95) rfl ((if0 _ _).trans (tlt (hc : p1 < (0 : Int32))).1) (by decide) (by decide) k) ?_
    show own_Go _ _ _ _ T1 (mkF m 102 #[.val (.ref a1), .val (.int p1)] [])
    refine own_st (fun _ k => XS.iconst X1.here hx rfl (hb hby own_d1_102) k) ?_
    show own_Go _ _ _ _ T1 (mkF m 103 #[.val (.ref a1), .val (.int p1)] [(.int (0 : Int32))])
    exact own_retN X1 hx hret (by simp) hlk (hb hby own_d1_103) ⟨by simp [own_h5, nar, *], N1', e1⟩ (by decide) (by decide)
  · refine own_st (fun _ k => XS.ifNo X1.here hx rfl (hb hby own_d1_95) rfl ((if0 _ _).trans (flt (hc : ¬ (p1 < (0 : Int32)))).1) k) ?_
    show own_Go _ _ _ _ T1 (mkF m 98 #[.val (.ref a1), .val (.int p1)] [])
    refine own_st (fun _ k => XS.iconst X1.here hx rfl (hb hby own_d1_98) k) ?_
    show own_Go _ _ _ _ T1 (mkF m 99 #[.val (.ref a1), .val (.int p1)] [(.int (1 : Int32))])
    refine own_st (fun _ k => XS.goto X1.here hx rfl (pc0 := 99) (pc' := 103) rfl (hb hby own_d1_99) (by decide) (by decide) k) ?_
    show own_Go _ _ _ _ T1 (mkF m 103 #[.val (.ref a1), .val (.int p1)] [(.int (1 : Int32))])
    exact own_retN X1 hx hret (by simp) hlk (hb hby own_d1_103) ⟨by simp [own_h5, nar, *], N1', e1⟩ (by decide) (by decide)
def own_law_Q (Z : State) (p1 p2 : Int32) (w0 w1 w2 w3 w4 w5 : Addr) (h0 : Heap) (n0 : Nat) (v : Option Value) (h : Heap) (L : List Loc) : Prop := v = some (.int 1) ∧ Fr n0 L
set_option maxRecDepth 65536 in
set_option maxHeartbeats 40000000 in
theorem own_law (l : Launch) {Z : State} {a0 : Array Value} (hw : own_W Z a0) (ws : List Jvm.Cond) (p1 p2 : Int32) (w0 w1 w2 w3 w4 w5 : Addr) (h0 : Heap) (n0 : Nat) (Z0 : n0 ≤ h0.size) (S0 : Sta Z h0 "com/example/overflowstream/overflowstream/Query$Operator" "EQUAL" "Lcom/example/overflowstream/overflowstream/Query$Operator;" (.ref w0)) (E0 : Exa Z h0 w0 "com/example/overflowstream/overflowstream/Query$Operator") (Fo0 : Fld Z h0 w0 "java/lang/Enum" "ordinal" "I" (.int (0 : Int32))) (S1 : Sta Z h0 "com/example/overflowstream/overflowstream/Query$Operator" "NOT_EQUAL" "Lcom/example/overflowstream/overflowstream/Query$Operator;" (.ref w1)) (E1 : Exa Z h0 w1 "com/example/overflowstream/overflowstream/Query$Operator") (Fo1 : Fld Z h0 w1 "java/lang/Enum" "ordinal" "I" (.int (1 : Int32))) (S2 : Sta Z h0 "com/example/overflowstream/overflowstream/Query$Operator" "LESS" "Lcom/example/overflowstream/overflowstream/Query$Operator;" (.ref w2)) (E2 : Exa Z h0 w2 "com/example/overflowstream/overflowstream/Query$Operator") (Fo2 : Fld Z h0 w2 "java/lang/Enum" "ordinal" "I" (.int (2 : Int32))) (S3 : Sta Z h0 "com/example/overflowstream/overflowstream/Query$Operator" "LESS_OR_EQUAL" "Lcom/example/overflowstream/overflowstream/Query$Operator;" (.ref w3)) (E3 : Exa Z h0 w3 "com/example/overflowstream/overflowstream/Query$Operator") (Fo3 : Fld Z h0 w3 "java/lang/Enum" "ordinal" "I" (.int (3 : Int32))) (S4 : Sta Z h0 "com/example/overflowstream/overflowstream/Query$Operator" "GREATER" "Lcom/example/overflowstream/overflowstream/Query$Operator;" (.ref w4)) (E4 : Exa Z h0 w4 "com/example/overflowstream/overflowstream/Query$Operator") (Fo4 : Fld Z h0 w4 "java/lang/Enum" "ordinal" "I" (.int (4 : Int32))) (S5 : Sta Z h0 "com/example/overflowstream/overflowstream/Query$Operator" "GREATER_OR_EQUAL" "Lcom/example/overflowstream/overflowstream/Query$Operator;" (.ref w5)) (E5 : Exa Z h0 w5 "com/example/overflowstream/overflowstream/Query$Operator") (Fo5 : Fld Z h0 w5 "java/lang/Enum" "ordinal" "I" (.int (5 : Int32))) :
    MetFree l x (head1 (Jvm.Cond.code x code maxLocals ret :: ws) room_1) (fun a U => a = #[(.int p1), (.int p2)] ∧ Z.Warmed39 U.vm ∧ U.heap = h0) (fun _ _ _ _ _ => True) (fun _ U o U' => ∃ v L, o = .returned v ∧ own_law_Q Z p1 p2 w0 w1 w2 w3 w4 w5 h0 n0 v U'.heap L ∧ FrameEnd U o U' L 16 128) := by
  refine own_enter (C := 16) (S := 128) (plainFor_of_name own_pn2) ?_
  intro p e s m below meth c T0 X0 I e0
  obtain ⟨hx, hby, hml, hown, hnm, hret, hlk, hZ⟩ := I
  have N0 := Fr.nil n0
  have O0 := own_extr h0
  refine own_cast (own_ef0 m p1 p2) ?_
  show own_Go _ _ _ _ T0 (mkF m 0 #[.val (.int p1), .val (.int p2), .unset, .unset, .unset, .unset, .unset] [])
  refine own_st (fun _ k => XS.bipush X0.here hx rfl (hb hby at_0) k) ?_
  show own_Go _ _ _ _ T0 (mkF m 2 #[.val (.int p1), .val (.int p2), .unset, .unset, .unset, .unset, .unset] [(.int (6 : Int32))])
  obtain ⟨T1, hp1, kk1, X1, e1, Et1, A1, Ov1, st1⟩ := newR X0 hx hZ hown (own_w0 hw) (own_w1 hw) e0 (g := (mkF m 2 #[.val (.int p1), .val (.int p2), .unset, .unset, .unset, .unset, .unset] [(.int (6 : Int32))])) rfl (hb hby at_2) rfl (by decide) (cap := 6) (by decide) (by decide) (by decide) (by decide)
  obtain ⟨b1, g1⟩ : ∃ z, z = h0.size := ⟨_, rfl⟩
  rw [← g1] at A1 st1
  have s_b1 : h0.size ≤ b1 := Nat.le_trans O0.1 (Nat.le_of_eq g1.symm)
  have g_b1 : n0 ≤ b1 := Nat.le_trans Z0 s_b1
  have O1 := own_extt O0 Et1
  have Va1 : Arv Z hp1 b1 kk1 (.object "com/example/overflowstream/overflowstream/Query$Operator") (6 : Int32) [.null, .null, .null, .null, .null, .null] .null := (Arv.new A1 (by decide)).pad (pad_rep [] .null 6)
  refine own_st st1 ?_
  show own_Go _ _ _ _ T1 (mkF m 5 #[.val (.int p1), .val (.int p2), .unset, .unset, .unset, .unset, .unset] [(.ref b1)])
  refine own_st (fun _ k => XS.dup X1.here hx rfl (hb hby at_5) rfl rfl k) ?_
  show own_Go _ _ _ _ T1 (mkF m 6 #[.val (.int p1), .val (.int p2), .unset, .unset, .unset, .unset, .unset] [(.ref b1), (.ref b1)])
  refine own_st (fun _ k => XS.iconst X1.here hx rfl (hb hby at_6) k) ?_
  show own_Go _ _ _ _ T1 (mkF m 7 #[.val (.int p1), .val (.int p2), .unset, .unset, .unset, .unset, .unset] [(.int (0 : Int32)), (.ref b1), (.ref b1)])
  obtain ⟨T2, X2, e2, st2⟩ := getS2 X1 hx hZ hown (host := "") (Or.inl (own_w2 hw)) Via.refl e1 (S0.ext O1) (g := (mkF m 7 #[.val (.int p1), .val (.int p2), .unset, .unset, .unset, .unset, .unset] [(.int (0 : Int32)), (.ref b1), (.ref b1)])) rfl (hb hby at_7)
  refine own_st st2 ?_
  show own_Go _ _ _ _ T2 (mkF m 10 #[.val (.int p1), .val (.int p2), .unset, .unset, .unset, .unset, .unset] [(.ref w0), (.int (0 : Int32)), (.ref b1), (.ref b1)])
  obtain ⟨T3, hp3, X3, e3, W3, Va3, st3⟩ := own_stR X2 hx hZ e2 Va1 rfl rfl (by decide) 0 (by decide) (Nat.le_of_ble_eq_true rfl) (fun cl Ar q => Sto.ofV Ar q Ov1 (Ins.self (E0.ext O1))) (g := (mkF m 10 #[.val (.int p1), .val (.int p2), .unset, .unset, .unset, .unset, .unset] [(.ref w0), (.int (0 : Int32)), (.ref b1), (.ref b1)])) rfl rfl (hb hby at_10)
  have O3 := own_extw O1 W3 s_b1
  have Va3 : Arv Z hp3 b1 kk1 (.object "com/example/overflowstream/overflowstream/Query$Operator") (6 : Int32) [(.ref w0), .null, .null, .null, .null, .null] .null := Va3
  have N3 := Fr.snoc X3 N0 g_b1
  refine own_st st3 ?_
  show own_Go _ _ _ _ T3 (mkF m 11 #[.val (.int p1), .val (.int p2), .unset, .unset, .unset, .unset, .unset] [(.ref b1)])
  refine own_st (fun _ k => XS.dup X3.here hx rfl (hb hby at_11) rfl rfl k) ?_
  show own_Go _ _ _ _ T3 (mkF m 12 #[.val (.int p1), .val (.int p2), .unset, .unset, .unset, .unset, .unset] [(.ref b1), (.ref b1)])
  refine own_st (fun _ k => XS.iconst X3.here hx rfl (hb hby at_12) k) ?_
  show own_Go _ _ _ _ T3 (mkF m 13 #[.val (.int p1), .val (.int p2), .unset, .unset, .unset, .unset, .unset] [(.int (1 : Int32)), (.ref b1), (.ref b1)])
  obtain ⟨T4, X4, e4, st4⟩ := getS2 X3 hx hZ hown (host := "") (Or.inl (own_w6 hw)) Via.refl e3 (S1.ext O3) (g := (mkF m 13 #[.val (.int p1), .val (.int p2), .unset, .unset, .unset, .unset, .unset] [(.int (1 : Int32)), (.ref b1), (.ref b1)])) rfl (hb hby at_13)
  refine own_st st4 ?_
  show own_Go _ _ _ _ T4 (mkF m 16 #[.val (.int p1), .val (.int p2), .unset, .unset, .unset, .unset, .unset] [(.ref w1), (.int (1 : Int32)), (.ref b1), (.ref b1)])
  obtain ⟨T5, hp5, X5, e5, W5, Va5, st5⟩ := own_stR X4 hx hZ e4 Va3 rfl rfl (by decide) 1 (by decide) (Nat.le_of_ble_eq_true rfl) (fun cl Ar q => Sto.ofV Ar q Ov1 (Ins.self (E1.ext O3))) (g := (mkF m 16 #[.val (.int p1), .val (.int p2), .unset, .unset, .unset, .unset, .unset] [(.ref w1), (.int (1 : Int32)), (.ref b1), (.ref b1)])) rfl rfl (hb hby at_16)
  have O5 := own_extw O3 W5 s_b1
  have Va5 : Arv Z hp5 b1 kk1 (.object "com/example/overflowstream/overflowstream/Query$Operator") (6 : Int32) [(.ref w0), (.ref w1), .null, .null, .null, .null] .null := Va5
  have N5 := Fr.snoc X5 N3 g_b1
  refine own_st st5 ?_
  show own_Go _ _ _ _ T5 (mkF m 17 #[.val (.int p1), .val (.int p2), .unset, .unset, .unset, .unset, .unset] [(.ref b1)])
  refine own_st (fun _ k => XS.dup X5.here hx rfl (hb hby at_17) rfl rfl k) ?_
  show own_Go _ _ _ _ T5 (mkF m 18 #[.val (.int p1), .val (.int p2), .unset, .unset, .unset, .unset, .unset] [(.ref b1), (.ref b1)])
  refine own_st (fun _ k => XS.iconst X5.here hx rfl (hb hby at_18) k) ?_
  show own_Go _ _ _ _ T5 (mkF m 19 #[.val (.int p1), .val (.int p2), .unset, .unset, .unset, .unset, .unset] [(.int (2 : Int32)), (.ref b1), (.ref b1)])
  obtain ⟨T6, X6, e6, st6⟩ := getS2 X5 hx hZ hown (host := "") (Or.inl (own_w8 hw)) Via.refl e5 (S2.ext O5) (g := (mkF m 19 #[.val (.int p1), .val (.int p2), .unset, .unset, .unset, .unset, .unset] [(.int (2 : Int32)), (.ref b1), (.ref b1)])) rfl (hb hby at_19)
  refine own_st st6 ?_
  show own_Go _ _ _ _ T6 (mkF m 22 #[.val (.int p1), .val (.int p2), .unset, .unset, .unset, .unset, .unset] [(.ref w2), (.int (2 : Int32)), (.ref b1), (.ref b1)])
  obtain ⟨T7, hp7, X7, e7, W7, Va7, st7⟩ := own_stR X6 hx hZ e6 Va5 rfl rfl (by decide) 2 (by decide) (Nat.le_of_ble_eq_true rfl) (fun cl Ar q => Sto.ofV Ar q Ov1 (Ins.self (E2.ext O5))) (g := (mkF m 22 #[.val (.int p1), .val (.int p2), .unset, .unset, .unset, .unset, .unset] [(.ref w2), (.int (2 : Int32)), (.ref b1), (.ref b1)])) rfl rfl (hb hby at_22)
  have O7 := own_extw O5 W7 s_b1
  have Va7 : Arv Z hp7 b1 kk1 (.object "com/example/overflowstream/overflowstream/Query$Operator") (6 : Int32) [(.ref w0), (.ref w1), (.ref w2), .null, .null, .null] .null := Va7
  have N7 := Fr.snoc X7 N5 g_b1
  refine own_st st7 ?_
  show own_Go _ _ _ _ T7 (mkF m 23 #[.val (.int p1), .val (.int p2), .unset, .unset, .unset, .unset, .unset] [(.ref b1)])
  refine own_st (fun _ k => XS.dup X7.here hx rfl (hb hby at_23) rfl rfl k) ?_
  show own_Go _ _ _ _ T7 (mkF m 24 #[.val (.int p1), .val (.int p2), .unset, .unset, .unset, .unset, .unset] [(.ref b1), (.ref b1)])
  refine own_st (fun _ k => XS.iconst X7.here hx rfl (hb hby at_24) k) ?_
  show own_Go _ _ _ _ T7 (mkF m 25 #[.val (.int p1), .val (.int p2), .unset, .unset, .unset, .unset, .unset] [(.int (3 : Int32)), (.ref b1), (.ref b1)])
  obtain ⟨T8, X8, e8, st8⟩ := getS2 X7 hx hZ hown (host := "") (Or.inl (own_w10 hw)) Via.refl e7 (S3.ext O7) (g := (mkF m 25 #[.val (.int p1), .val (.int p2), .unset, .unset, .unset, .unset, .unset] [(.int (3 : Int32)), (.ref b1), (.ref b1)])) rfl (hb hby at_25)
  refine own_st st8 ?_
  show own_Go _ _ _ _ T8 (mkF m 28 #[.val (.int p1), .val (.int p2), .unset, .unset, .unset, .unset, .unset] [(.ref w3), (.int (3 : Int32)), (.ref b1), (.ref b1)])
  obtain ⟨T9, hp9, X9, e9, W9, Va9, st9⟩ := own_stR X8 hx hZ e8 Va7 rfl rfl (by decide) 3 (by decide) (Nat.le_of_ble_eq_true rfl) (fun cl Ar q => Sto.ofV Ar q Ov1 (Ins.self (E3.ext O7))) (g := (mkF m 28 #[.val (.int p1), .val (.int p2), .unset, .unset, .unset, .unset, .unset] [(.ref w3), (.int (3 : Int32)), (.ref b1), (.ref b1)])) rfl rfl (hb hby at_28)
  have O9 := own_extw O7 W9 s_b1
  have Va9 : Arv Z hp9 b1 kk1 (.object "com/example/overflowstream/overflowstream/Query$Operator") (6 : Int32) [(.ref w0), (.ref w1), (.ref w2), (.ref w3), .null, .null] .null := Va9
  have N9 := Fr.snoc X9 N7 g_b1
  refine own_st st9 ?_
  show own_Go _ _ _ _ T9 (mkF m 29 #[.val (.int p1), .val (.int p2), .unset, .unset, .unset, .unset, .unset] [(.ref b1)])
  refine own_st (fun _ k => XS.dup X9.here hx rfl (hb hby at_29) rfl rfl k) ?_
  show own_Go _ _ _ _ T9 (mkF m 30 #[.val (.int p1), .val (.int p2), .unset, .unset, .unset, .unset, .unset] [(.ref b1), (.ref b1)])
  refine own_st (fun _ k => XS.iconst X9.here hx rfl (hb hby at_30) k) ?_
  show own_Go _ _ _ _ T9 (mkF m 31 #[.val (.int p1), .val (.int p2), .unset, .unset, .unset, .unset, .unset] [(.int (4 : Int32)), (.ref b1), (.ref b1)])
  obtain ⟨T10, X10, e10, st10⟩ := getS2 X9 hx hZ hown (host := "") (Or.inl (own_w12 hw)) Via.refl e9 (S4.ext O9) (g := (mkF m 31 #[.val (.int p1), .val (.int p2), .unset, .unset, .unset, .unset, .unset] [(.int (4 : Int32)), (.ref b1), (.ref b1)])) rfl (hb hby at_31)
  refine own_st st10 ?_
  show own_Go _ _ _ _ T10 (mkF m 34 #[.val (.int p1), .val (.int p2), .unset, .unset, .unset, .unset, .unset] [(.ref w4), (.int (4 : Int32)), (.ref b1), (.ref b1)])
  obtain ⟨T11, hp11, X11, e11, W11, Va11, st11⟩ := own_stR X10 hx hZ e10 Va9 rfl rfl (by decide) 4 (by decide) (Nat.le_of_ble_eq_true rfl) (fun cl Ar q => Sto.ofV Ar q Ov1 (Ins.self (E4.ext O9))) (g := (mkF m 34 #[.val (.int p1), .val (.int p2), .unset, .unset, .unset, .unset, .unset] [(.ref w4), (.int (4 : Int32)), (.ref b1), (.ref b1)])) rfl rfl (hb hby at_34)
  have O11 := own_extw O9 W11 s_b1
  have Va11 : Arv Z hp11 b1 kk1 (.object "com/example/overflowstream/overflowstream/Query$Operator") (6 : Int32) [(.ref w0), (.ref w1), (.ref w2), (.ref w3), (.ref w4), .null] .null := Va11
  have N11 := Fr.snoc X11 N9 g_b1
  refine own_st st11 ?_
  show own_Go _ _ _ _ T11 (mkF m 35 #[.val (.int p1), .val (.int p2), .unset, .unset, .unset, .unset, .unset] [(.ref b1)])
  refine own_st (fun _ k => XS.dup X11.here hx rfl (hb hby at_35) rfl rfl k) ?_
  show own_Go _ _ _ _ T11 (mkF m 36 #[.val (.int p1), .val (.int p2), .unset, .unset, .unset, .unset, .unset] [(.ref b1), (.ref b1)])
  refine own_st (fun _ k => XS.iconst X11.here hx rfl (hb hby at_36) k) ?_
  show own_Go _ _ _ _ T11 (mkF m 37 #[.val (.int p1), .val (.int p2), .unset, .unset, .unset, .unset, .unset] [(.int (5 : Int32)), (.ref b1), (.ref b1)])
  obtain ⟨T12, X12, e12, st12⟩ := getS2 X11 hx hZ hown (host := "") (Or.inl (own_w14 hw)) Via.refl e11 (S5.ext O11) (g := (mkF m 37 #[.val (.int p1), .val (.int p2), .unset, .unset, .unset, .unset, .unset] [(.int (5 : Int32)), (.ref b1), (.ref b1)])) rfl (hb hby at_37)
  refine own_st st12 ?_
  show own_Go _ _ _ _ T12 (mkF m 40 #[.val (.int p1), .val (.int p2), .unset, .unset, .unset, .unset, .unset] [(.ref w5), (.int (5 : Int32)), (.ref b1), (.ref b1)])
  obtain ⟨T13, hp13, X13, e13, W13, Va13, st13⟩ := own_stR X12 hx hZ e12 Va11 rfl rfl (by decide) 5 (by decide) (Nat.le_of_ble_eq_true rfl) (fun cl Ar q => Sto.ofV Ar q Ov1 (Ins.self (E5.ext O11))) (g := (mkF m 40 #[.val (.int p1), .val (.int p2), .unset, .unset, .unset, .unset, .unset] [(.ref w5), (.int (5 : Int32)), (.ref b1), (.ref b1)])) rfl rfl (hb hby at_40)
  have O13 := own_extw O11 W13 s_b1
  have Va13 : Arv Z hp13 b1 kk1 (.object "com/example/overflowstream/overflowstream/Query$Operator") (6 : Int32) [(.ref w0), (.ref w1), (.ref w2), (.ref w3), (.ref w4), (.ref w5)] .null := Va13
  have N13 := Fr.snoc X13 N11 g_b1
  refine own_st st13 ?_
  show own_Go _ _ _ _ T13 (mkF m 41 #[.val (.int p1), .val (.int p2), .unset, .unset, .unset, .unset, .unset] [(.ref b1)])
  refine own_st (fun _ k => XS.astoreN X13.here hx rfl (hb hby at_41) rfl rfl (l' := #[.val (.int p1), .val (.int p2), .val (.ref b1), .unset, .unset, .unset, .unset]) rfl k) ?_
  show own_Go _ _ _ _ T13 (mkF m 42 #[.val (.int p1), .val (.int p2), .val (.ref b1), .unset, .unset, .unset, .unset] [])
  refine own_st (fun _ k => XS.bipush X13.here hx rfl (hb hby at_42) k) ?_
  show own_Go _ _ _ _ T13 (mkF m 44 #[.val (.int p1), .val (.int p2), .val (.ref b1), .unset, .unset, .unset, .unset] [(.int (6 : Int32))])
  obtain ⟨T14, hp14, kk14, X14, e14, Et14, A14, st14⟩ := newP X13 hx hZ (aty := .int) (own_w16 hw) e13 (g := (mkF m 44 #[.val (.int p1), .val (.int p2), .val (.ref b1), .unset, .unset, .unset, .unset] [(.int (6 : Int32))])) rfl (hb hby at_44) rfl (by decide) (cap := 6) (by decide) (by decide) (by decide) (by decide)
  obtain ⟨b14, g14⟩ : ∃ z, z = hp13.size := ⟨_, rfl⟩
  rw [← g14] at A14 st14
  have s_b14 : h0.size ≤ b14 := Nat.le_trans O13.1 (Nat.le_of_eq g14.symm)
  have g_b14 : n0 ≤ b14 := Nat.le_trans Z0 s_b14
  have lt_b1_b14 : b1 < b14 := Nat.lt_of_lt_of_le Va13.lt (Nat.le_of_eq g14.symm)
  have O14 := own_extt O13 Et14
  have V_b1_14 := Va13.ext Et14
  have Va14 : Arv Z hp14 b14 kk14 .int (6 : Int32) [(.int (0 : Int32)), (.int (0 : Int32)), (.int (0 : Int32)), (.int (0 : Int32)), (.int (0 : Int32)), (.int (0 : Int32))] (.int (0 : Int32)) := (Arv.new A14 (by decide)).pad (pad_rep [] (.int (0 : Int32)) 6)
  refine own_st st14 ?_
  show own_Go _ _ _ _ T14 (mkF m 46 #[.val (.int p1), .val (.int p2), .val (.ref b1), .unset, .unset, .unset, .unset] [(.ref b14)])
  refine own_st (fun _ k => XS.dup X14.here hx rfl (hb hby at_46) rfl rfl k) ?_
  show own_Go _ _ _ _ T14 (mkF m 47 #[.val (.int p1), .val (.int p2), .val (.ref b1), .unset, .unset, .unset, .unset] [(.ref b14), (.ref b14)])
  refine own_st (fun _ k => XS.iconst X14.here hx rfl (hb hby at_47) k) ?_
  show own_Go _ _ _ _ T14 (mkF m 48 #[.val (.int p1), .val (.int p2), .val (.ref b1), .unset, .unset, .unset, .unset] [(.int (0 : Int32)), (.ref b14), (.ref b14)])
  refine own_st (fun _ k => XS.iconst X14.here hx rfl (hb hby at_48) k) ?_
  show own_Go _ _ _ _ T14 (mkF m 49 #[.val (.int p1), .val (.int p2), .val (.ref b1), .unset, .unset, .unset, .unset] [(.int (2 : Int32)), (.int (0 : Int32)), (.ref b14), (.ref b14)])
  obtain ⟨T15, hp15, X15, e15, W15, Va15, st15⟩ := own_stI X14 hx hZ e14 Va14 (by decide) 0 (by decide) (Nat.le_of_ble_eq_true rfl) (g := (mkF m 49 #[.val (.int p1), .val (.int p2), .val (.ref b1), .unset, .unset, .unset, .unset] [(.int (2 : Int32)), (.int (0 : Int32)), (.ref b14), (.ref b14)])) rfl rfl (hb hby at_49)
  have O15 := own_extw O14 W15 s_b14
  have V_b1_15 := V_b1_14.other W15 (Nat.ne_of_lt lt_b1_b14)
  have Va15 : Arv Z hp15 b14 kk14 .int (6 : Int32) [(.int (2 : Int32)), (.int (0 : Int32)), (.int (0 : Int32)), (.int (0 : Int32)), (.int (0 : Int32)), (.int (0 : Int32))] (.int (0 : Int32)) := Va15
  have N15 := Fr.snoc X15 N13 g_b14
  refine own_st st15 ?_
  show own_Go _ _ _ _ T15 (mkF m 50 #[.val (.int p1), .val (.int p2), .val (.ref b1), .unset, .unset, .unset, .unset] [(.ref b14)])
  refine own_st (fun _ k => XS.dup X15.here hx rfl (hb hby at_50) rfl rfl k) ?_
  show own_Go _ _ _ _ T15 (mkF m 51 #[.val (.int p1), .val (.int p2), .val (.ref b1), .unset, .unset, .unset, .unset] [(.ref b14), (.ref b14)])
  refine own_st (fun _ k => XS.iconst X15.here hx rfl (hb hby at_51) k) ?_
  show own_Go _ _ _ _ T15 (mkF m 52 #[.val (.int p1), .val (.int p2), .val (.ref b1), .unset, .unset, .unset, .unset] [(.int (1 : Int32)), (.ref b14), (.ref b14)])
  refine own_st (fun _ k => XS.iconst X15.here hx rfl (hb hby at_52) k) ?_
  show own_Go _ _ _ _ T15 (mkF m 53 #[.val (.int p1), .val (.int p2), .val (.ref b1), .unset, .unset, .unset, .unset] [(.int (5 : Int32)), (.int (1 : Int32)), (.ref b14), (.ref b14)])
  obtain ⟨T16, hp16, X16, e16, W16, Va16, st16⟩ := own_stI X15 hx hZ e15 Va15 (by decide) 1 (by decide) (Nat.le_of_ble_eq_true rfl) (g := (mkF m 53 #[.val (.int p1), .val (.int p2), .val (.ref b1), .unset, .unset, .unset, .unset] [(.int (5 : Int32)), (.int (1 : Int32)), (.ref b14), (.ref b14)])) rfl rfl (hb hby at_53)
  have O16 := own_extw O15 W16 s_b14
  have V_b1_16 := V_b1_15.other W16 (Nat.ne_of_lt lt_b1_b14)
  have Va16 : Arv Z hp16 b14 kk14 .int (6 : Int32) [(.int (2 : Int32)), (.int (5 : Int32)), (.int (0 : Int32)), (.int (0 : Int32)), (.int (0 : Int32)), (.int (0 : Int32))] (.int (0 : Int32)) := Va16
  have N16 := Fr.snoc X16 N15 g_b14
  refine own_st st16 ?_
  show own_Go _ _ _ _ T16 (mkF m 54 #[.val (.int p1), .val (.int p2), .val (.ref b1), .unset, .unset, .unset, .unset] [(.ref b14)])
  refine own_st (fun _ k => XS.dup X16.here hx rfl (hb hby at_54) rfl rfl k) ?_
  show own_Go _ _ _ _ T16 (mkF m 55 #[.val (.int p1), .val (.int p2), .val (.ref b1), .unset, .unset, .unset, .unset] [(.ref b14), (.ref b14)])
  refine own_st (fun _ k => XS.iconst X16.here hx rfl (hb hby at_55) k) ?_
  show own_Go _ _ _ _ T16 (mkF m 56 #[.val (.int p1), .val (.int p2), .val (.ref b1), .unset, .unset, .unset, .unset] [(.int (2 : Int32)), (.ref b14), (.ref b14)])
  refine own_st (fun _ k => XS.iconst X16.here hx rfl (hb hby at_56) k) ?_
  show own_Go _ _ _ _ T16 (mkF m 57 #[.val (.int p1), .val (.int p2), .val (.ref b1), .unset, .unset, .unset, .unset] [(.int (1 : Int32)), (.int (2 : Int32)), (.ref b14), (.ref b14)])
  obtain ⟨T17, hp17, X17, e17, W17, Va17, st17⟩ := own_stI X16 hx hZ e16 Va16 (by decide) 2 (by decide) (Nat.le_of_ble_eq_true rfl) (g := (mkF m 57 #[.val (.int p1), .val (.int p2), .val (.ref b1), .unset, .unset, .unset, .unset] [(.int (1 : Int32)), (.int (2 : Int32)), (.ref b14), (.ref b14)])) rfl rfl (hb hby at_57)
  have O17 := own_extw O16 W17 s_b14
  have V_b1_17 := V_b1_16.other W17 (Nat.ne_of_lt lt_b1_b14)
  have Va17 : Arv Z hp17 b14 kk14 .int (6 : Int32) [(.int (2 : Int32)), (.int (5 : Int32)), (.int (1 : Int32)), (.int (0 : Int32)), (.int (0 : Int32)), (.int (0 : Int32))] (.int (0 : Int32)) := Va17
  have N17 := Fr.snoc X17 N16 g_b14
  refine own_st st17 ?_
  show own_Go _ _ _ _ T17 (mkF m 58 #[.val (.int p1), .val (.int p2), .val (.ref b1), .unset, .unset, .unset, .unset] [(.ref b14)])
  refine own_st (fun _ k => XS.dup X17.here hx rfl (hb hby at_58) rfl rfl k) ?_
  show own_Go _ _ _ _ T17 (mkF m 59 #[.val (.int p1), .val (.int p2), .val (.ref b1), .unset, .unset, .unset, .unset] [(.ref b14), (.ref b14)])
  refine own_st (fun _ k => XS.iconst X17.here hx rfl (hb hby at_59) k) ?_
  show own_Go _ _ _ _ T17 (mkF m 60 #[.val (.int p1), .val (.int p2), .val (.ref b1), .unset, .unset, .unset, .unset] [(.int (3 : Int32)), (.ref b14), (.ref b14)])
  refine own_st (fun _ k => XS.iconst X17.here hx rfl (hb hby at_60) k) ?_
  show own_Go _ _ _ _ T17 (mkF m 61 #[.val (.int p1), .val (.int p2), .val (.ref b1), .unset, .unset, .unset, .unset] [(.int (3 : Int32)), (.int (3 : Int32)), (.ref b14), (.ref b14)])
  obtain ⟨T18, hp18, X18, e18, W18, Va18, st18⟩ := own_stI X17 hx hZ e17 Va17 (by decide) 3 (by decide) (Nat.le_of_ble_eq_true rfl) (g := (mkF m 61 #[.val (.int p1), .val (.int p2), .val (.ref b1), .unset, .unset, .unset, .unset] [(.int (3 : Int32)), (.int (3 : Int32)), (.ref b14), (.ref b14)])) rfl rfl (hb hby at_61)
  have O18 := own_extw O17 W18 s_b14
  have V_b1_18 := V_b1_17.other W18 (Nat.ne_of_lt lt_b1_b14)
  have Va18 : Arv Z hp18 b14 kk14 .int (6 : Int32) [(.int (2 : Int32)), (.int (5 : Int32)), (.int (1 : Int32)), (.int (3 : Int32)), (.int (0 : Int32)), (.int (0 : Int32))] (.int (0 : Int32)) := Va18
  have N18 := Fr.snoc X18 N17 g_b14
  refine own_st st18 ?_
  show own_Go _ _ _ _ T18 (mkF m 62 #[.val (.int p1), .val (.int p2), .val (.ref b1), .unset, .unset, .unset, .unset] [(.ref b14)])
  refine own_st (fun _ k => XS.dup X18.here hx rfl (hb hby at_62) rfl rfl k) ?_
  show own_Go _ _ _ _ T18 (mkF m 63 #[.val (.int p1), .val (.int p2), .val (.ref b1), .unset, .unset, .unset, .unset] [(.ref b14), (.ref b14)])
  refine own_st (fun _ k => XS.iconst X18.here hx rfl (hb hby at_63) k) ?_
  show own_Go _ _ _ _ T18 (mkF m 64 #[.val (.int p1), .val (.int p2), .val (.ref b1), .unset, .unset, .unset, .unset] [(.int (4 : Int32)), (.ref b14), (.ref b14)])
  refine own_st (fun _ k => XS.iconst X18.here hx rfl (hb hby at_64) k) ?_
  show own_Go _ _ _ _ T18 (mkF m 65 #[.val (.int p1), .val (.int p2), .val (.ref b1), .unset, .unset, .unset, .unset] [(.int (4 : Int32)), (.int (4 : Int32)), (.ref b14), (.ref b14)])
  obtain ⟨T19, hp19, X19, e19, W19, Va19, st19⟩ := own_stI X18 hx hZ e18 Va18 (by decide) 4 (by decide) (Nat.le_of_ble_eq_true rfl) (g := (mkF m 65 #[.val (.int p1), .val (.int p2), .val (.ref b1), .unset, .unset, .unset, .unset] [(.int (4 : Int32)), (.int (4 : Int32)), (.ref b14), (.ref b14)])) rfl rfl (hb hby at_65)
  have O19 := own_extw O18 W19 s_b14
  have V_b1_19 := V_b1_18.other W19 (Nat.ne_of_lt lt_b1_b14)
  have Va19 : Arv Z hp19 b14 kk14 .int (6 : Int32) [(.int (2 : Int32)), (.int (5 : Int32)), (.int (1 : Int32)), (.int (3 : Int32)), (.int (4 : Int32)), (.int (0 : Int32))] (.int (0 : Int32)) := Va19
  have N19 := Fr.snoc X19 N18 g_b14
  refine own_st st19 ?_
  show own_Go _ _ _ _ T19 (mkF m 66 #[.val (.int p1), .val (.int p2), .val (.ref b1), .unset, .unset, .unset, .unset] [(.ref b14)])
  refine own_st (fun _ k => XS.dup X19.here hx rfl (hb hby at_66) rfl rfl k) ?_
  show own_Go _ _ _ _ T19 (mkF m 67 #[.val (.int p1), .val (.int p2), .val (.ref b1), .unset, .unset, .unset, .unset] [(.ref b14), (.ref b14)])
  refine own_st (fun _ k => XS.iconst X19.here hx rfl (hb hby at_67) k) ?_
  show own_Go _ _ _ _ T19 (mkF m 68 #[.val (.int p1), .val (.int p2), .val (.ref b1), .unset, .unset, .unset, .unset] [(.int (5 : Int32)), (.ref b14), (.ref b14)])
  refine own_st (fun _ k => XS.bipush X19.here hx rfl (hb hby at_68) k) ?_
  show own_Go _ _ _ _ T19 (mkF m 70 #[.val (.int p1), .val (.int p2), .val (.ref b1), .unset, .unset, .unset, .unset] [(.int (6 : Int32)), (.int (5 : Int32)), (.ref b14), (.ref b14)])
  obtain ⟨T20, hp20, X20, e20, W20, Va20, st20⟩ := own_stI X19 hx hZ e19 Va19 (by decide) 5 (by decide) (Nat.le_of_ble_eq_true rfl) (g := (mkF m 70 #[.val (.int p1), .val (.int p2), .val (.ref b1), .unset, .unset, .unset, .unset] [(.int (6 : Int32)), (.int (5 : Int32)), (.ref b14), (.ref b14)])) rfl rfl (hb hby at_70)
  have O20 := own_extw O19 W20 s_b14
  have V_b1_20 := V_b1_19.other W20 (Nat.ne_of_lt lt_b1_b14)
  have Va20 : Arv Z hp20 b14 kk14 .int (6 : Int32) [(.int (2 : Int32)), (.int (5 : Int32)), (.int (1 : Int32)), (.int (3 : Int32)), (.int (4 : Int32)), (.int (6 : Int32))] (.int (0 : Int32)) := Va20
  have N20 := Fr.snoc X20 N19 g_b14
  refine own_st st20 ?_
  show own_Go _ _ _ _ T20 (mkF m 71 #[.val (.int p1), .val (.int p2), .val (.ref b1), .unset, .unset, .unset, .unset] [(.ref b14)])
  refine own_st (fun _ k => XS.astoreN X20.here hx rfl (hb hby at_71) rfl rfl (l' := #[.val (.int p1), .val (.int p2), .val (.ref b1), .val (.ref b14), .unset, .unset, .unset]) rfl k) ?_
  show own_Go _ _ _ _ T20 (mkF m 72 #[.val (.int p1), .val (.int p2), .val (.ref b1), .val (.ref b14), .unset, .unset, .unset] [])
  refine own_st (fun _ k => XS.iloadN X20.here hx rfl (hb hby at_72) rfl k) ?_
  show own_Go _ _ _ _ T20 (mkF m 73 #[.val (.int p1), .val (.int p2), .val (.ref b1), .val (.ref b14), .unset, .unset, .unset] [(.int p1)])
  refine own_st (X20.ldcInt hx hown (mvT hZ (own_w17 hw)) (g := (mkF m 73 #[.val (.int p1), .val (.int p2), .val (.ref b1), .val (.ref b14), .unset, .unset, .unset] [(.int p1)])) rfl (hb hby at_73)) ?_
  show own_Go _ _ _ _ T20 (mkF m 75 #[.val (.int p1), .val (.int p2), .val (.ref b1), .val (.ref b14), .unset, .unset, .unset] [(.int (2147483647 : Int32)), (.int p1)])
  refine own_st (fun _ k => XS.iand X20.here hx rfl (hb hby at_75) rfl k) ?_
  show own_Go _ _ _ _ T20 (mkF m 76 #[.val (.int p1), .val (.int p2), .val (.ref b1), .val (.ref b14), .unset, .unset, .unset] [(.int (p1 &&& (2147483647 : Int32)))])
  refine own_st (fun _ k => XS.bipush X20.here hx rfl (hb hby at_76) k) ?_
  show own_Go _ _ _ _ T20 (mkF m 78 #[.val (.int p1), .val (.int p2), .val (.ref b1), .val (.ref b14), .unset, .unset, .unset] [(.int (6 : Int32)), (.int (p1 &&& (2147483647 : Int32)))])
  refine own_st (fun _ k => iremM X20 hx rfl (hb hby at_78) rfl (by decide) k) ?_
  show own_Go _ _ _ _ T20 (mkF m 79 #[.val (.int p1), .val (.int p2), .val (.ref b1), .val (.ref b14), .unset, .unset, .unset] [(.int ((p1 &&& (2147483647 : Int32)) % (6 : Int32)))])
  refine own_st (fun _ k => XS.istore X20.here hx rfl (hb hby at_79) rfl (l' := #[.val (.int p1), .val (.int p2), .val (.ref b1), .val (.ref b14), .val (.int ((p1 &&& (2147483647 : Int32)) % (6 : Int32))), .unset, .unset]) rfl k) ?_
  show own_Go _ _ _ _ T20 (mkF m 81 #[.val (.int p1), .val (.int p2), .val (.ref b1), .val (.ref b14), .val (.int ((p1 &&& (2147483647 : Int32)) % (6 : Int32))), .unset, .unset] [])
  rcases own_mod6 p1 with hi | hi | hi | hi | hi | hi
  · rw [hi]
    show own_Go _ _ _ _ T20 (mkF m 81 #[.val (.int p1), .val (.int p2), .val (.ref b1), .val (.ref b14), .val (.int (0 : Int32)), .unset, .unset] [])
    refine own_st (fun _ k => XS.iloadN X20.here hx rfl (hb hby at_81) rfl k) ?_
    show own_Go _ _ _ _ T20 (mkF m 82 #[.val (.int p1), .val (.int p2), .val (.ref b1), .val (.ref b14), .val (.int (0 : Int32)), .unset, .unset] [(.int p2)])
    by_cases hs : p2 < (0 : Int32)
    · refine own_st (fun _ k => XS.ifNo X20.here hx rfl (hb hby at_82) rfl ((if0 _ _).trans (tlt (hs : p2 < (0 : Int32))).2.1) k) ?_
      show own_Go _ _ _ _ T20 (mkF m 85 #[.val (.int p1), .val (.int p2), .val (.ref b1), .val (.ref b14), .val (.int (0 : Int32)), .unset, .unset] [])
      have q1 := (own_s1 hs).1
      have q2 := (own_s1 hs).2
      show own_Go _ _ _ _ T20 (mkF m 85 #[.val (.int p1), .val (.int p2), .val (.ref b1), .val (.ref b14), .val (.int (0 : Int32)), .unset, .unset] [])
      refine own_st (fun _ k => XS.iconst X20.here hx rfl (hb hby at_85) k) ?_
      show own_Go _ _ _ _ T20 (mkF m 86 #[.val (.int p1), .val (.int p2), .val (.ref b1), .val (.ref b14), .val (.int (0 : Int32)), .unset, .unset] [(.int (0 : Int32))])
      refine own_st (fun _ k => XS.goto X20.here hx rfl (pc0 := 86) (pc' := 98) rfl (hb hby at_86) (by decide) (by decide) k) ?_
      show own_Go _ _ _ _ T20 (mkF m 98 #[.val (.int p1), .val (.int p2), .val (.ref b1), .val (.ref b14), .val (.int (0 : Int32)), .unset, .unset] [(.int (0 : Int32))])
      refine own_st (fun _ k => XS.istore X20.here hx rfl (hb hby at_98) rfl (l' := #[.val (.int p1), .val (.int p2), .val (.ref b1), .val (.ref b14), .val (.int (0 : Int32)), .val (.int (0 : Int32)), .unset]) rfl k) ?_
      show own_Go _ _ _ _ T20 (mkF m 100 #[.val (.int p1), .val (.int p2), .val (.ref b1), .val (.ref b14), .val (.int (0 : Int32)), .val (.int (0 : Int32)), .unset] [])
      refine own_st (fun _ k => XS.aloadN X20.here hx rfl (hb hby at_100) rfl rfl k) ?_
      show own_Go _ _ _ _ T20 (mkF m 101 #[.val (.int p1), .val (.int p2), .val (.ref b1), .val (.ref b14), .val (.int (0 : Int32)), .val (.int (0 : Int32)), .unset] [(.ref b14)])
      refine own_st (fun _ k => XS.iload X20.here hx rfl (hb hby at_101) rfl k) ?_
      show own_Go _ _ _ _ T20 (mkF m 103 #[.val (.int p1), .val (.int p2), .val (.ref b1), .val (.ref b14), .val (.int (0 : Int32)), .val (.int (0 : Int32)), .unset] [(.int (0 : Int32)), (.ref b14)])
      refine own_st (own_ldI X20 hx hZ e20 Va20 (j := (0 : Int32)) (by decide) (v := (.int (2 : Int32))) rfl (g := (mkF m 103 #[.val (.int p1), .val (.int p2), .val (.ref b1), .val (.ref b14), .val (.int (0 : Int32)), .val (.int (0 : Int32)), .unset] [(.int (0 : Int32)), (.ref b14)])) rfl rfl (hb hby at_103)) ?_
      show own_Go _ _ _ _ T20 (mkF m 104 #[.val (.int p1), .val (.int p2), .val (.ref b1), .val (.ref b14), .val (.int (0 : Int32)), .val (.int (0 : Int32)), .unset] [(.int (2 : Int32))])
      refine own_st (fun _ k => XS.iload X20.here hx rfl (hb hby at_104) rfl k) ?_
      show own_Go _ _ _ _ T20 (mkF m 106 #[.val (.int p1), .val (.int p2), .val (.ref b1), .val (.ref b14), .val (.int (0 : Int32)), .val (.int (0 : Int32)), .unset] [(.int (0 : Int32)), (.int (2 : Int32))])
      refine own_st (fun _ k => XS.ishr X20.here hx rfl (hb hby at_106) rfl k) ?_
      show own_Go _ _ _ _ T20 (mkF m 107 #[.val (.int p1), .val (.int p2), .val (.ref b1), .val (.ref b14), .val (.int (0 : Int32)), .val (.int (0 : Int32)), .unset] [(.int ((2 : Int32) >>> ((0 : Int32) &&& 31)))])
      rw [show ((2 : Int32) >>> ((0 : Int32) &&& 31)) = (2 : Int32) from by decide]
      show own_Go _ _ _ _ T20 (mkF m 107 #[.val (.int p1), .val (.int p2), .val (.ref b1), .val (.ref b14), .val (.int (0 : Int32)), .val (.int (0 : Int32)), .unset] [(.int (2 : Int32))])
      refine own_st (fun _ k => XS.iconst X20.here hx rfl (hb hby at_107) k) ?_
      show own_Go _ _ _ _ T20 (mkF m 108 #[.val (.int p1), .val (.int p2), .val (.ref b1), .val (.ref b14), .val (.int (0 : Int32)), .val (.int (0 : Int32)), .unset] [(.int (1 : Int32)), (.int (2 : Int32))])
      refine own_st (fun _ k => XS.iand X20.here hx rfl (hb hby at_108) rfl k) ?_
      show own_Go _ _ _ _ T20 (mkF m 109 #[.val (.int p1), .val (.int p2), .val (.ref b1), .val (.ref b14), .val (.int (0 : Int32)), .val (.int (0 : Int32)), .unset] [(.int ((2 : Int32) &&& (1 : Int32)))])
      rw [show ((2 : Int32) &&& (1 : Int32)) = (0 : Int32) from by decide]
      show own_Go _ _ _ _ T20 (mkF m 109 #[.val (.int p1), .val (.int p2), .val (.ref b1), .val (.ref b14), .val (.int (0 : Int32)), .val (.int (0 : Int32)), .unset] [(.int (0 : Int32))])
      refine own_st (fun _ k => XS.ifYes X20.here hx rfl (pc0 := 109) (pc' := 116) rfl (hb hby at_109) rfl ((if0 _ _).trans (teq (by decide : (0 : Int32) = (0 : Int32))).1) (by decide) (by decide) k) ?_
      show own_Go _ _ _ _ T20 (mkF m 116 #[.val (.int p1), .val (.int p2), .val (.ref b1), .val (.ref b14), .val (.int (0 : Int32)), .val (.int (0 : Int32)), .unset] [])
      refine own_st (fun _ k => XS.iconst X20.here hx rfl (hb hby at_116) k) ?_
      show own_Go _ _ _ _ T20 (mkF m 117 #[.val (.int p1), .val (.int p2), .val (.ref b1), .val (.ref b14), .val (.int (0 : Int32)), .val (.int (0 : Int32)), .unset] [(.int (0 : Int32))])
      refine own_st (fun _ k => XS.istore X20.here hx rfl (hb hby at_117) rfl (l' := #[.val (.int p1), .val (.int p2), .val (.ref b1), .val (.ref b14), .val (.int (0 : Int32)), .val (.int (0 : Int32)), .val (.int (0 : Int32))]) rfl k) ?_
      show own_Go _ _ _ _ T20 (mkF m 119 #[.val (.int p1), .val (.int p2), .val (.ref b1), .val (.ref b14), .val (.int (0 : Int32)), .val (.int (0 : Int32)), .val (.int (0 : Int32))] [])
      refine own_st (fun _ k => XS.aloadN X20.here hx rfl (hb hby at_119) rfl rfl k) ?_
      show own_Go _ _ _ _ T20 (mkF m 120 #[.val (.int p1), .val (.int p2), .val (.ref b1), .val (.ref b14), .val (.int (0 : Int32)), .val (.int (0 : Int32)), .val (.int (0 : Int32))] [(.ref b1)])
      refine own_st (fun _ k => XS.iload X20.here hx rfl (hb hby at_120) rfl k) ?_
      show own_Go _ _ _ _ T20 (mkF m 122 #[.val (.int p1), .val (.int p2), .val (.ref b1), .val (.ref b14), .val (.int (0 : Int32)), .val (.int (0 : Int32)), .val (.int (0 : Int32))] [(.int (0 : Int32)), (.ref b1)])
      refine own_st (own_ldR X20 hx hZ e20 V_b1_20 rfl (j := (0 : Int32)) (by decide) (v := (.ref w0)) rfl (g := (mkF m 122 #[.val (.int p1), .val (.int p2), .val (.ref b1), .val (.ref b14), .val (.int (0 : Int32)), .val (.int (0 : Int32)), .val (.int (0 : Int32))] [(.int (0 : Int32)), (.ref b1)])) rfl rfl (hb hby at_122)) ?_
      show own_Go _ _ _ _ T20 (mkF m 123 #[.val (.int p1), .val (.int p2), .val (.ref b1), .val (.ref b14), .val (.int (0 : Int32)), .val (.int (0 : Int32)), .val (.int (0 : Int32))] [(.ref w0)])
      refine own_st (fun _ k => XS.iloadN X20.here hx rfl (hb hby at_123) rfl k) ?_
      show own_Go _ _ _ _ T20 (mkF m 124 #[.val (.int p1), .val (.int p2), .val (.ref b1), .val (.ref b14), .val (.int (0 : Int32)), .val (.int (0 : Int32)), .val (.int (0 : Int32))] [(.int p2), (.ref w0)])
      obtain ⟨v21, T21, L21, hQ21, X21, st21⟩ := own_callV X20 hx hZ (y := (⟨"com/example/overflowstream/overflowstream/Query$Operator", "holds", "(I)Z"⟩ : MethodName)) hown (own_w18 hw) (own_w19 hw) (own_w21 hw) (own_w20 hw) (own_w3 hw) (own_w22 hw) (by decide) (own_hold0 l hw [] w0 p2 hp20 n0 (Nat.le_trans Z0 O20.1) (E0.ext O20) (Fo0.ext O20)) e20 (E0.ext O20) (g := (mkF m 124 #[.val (.int p1), .val (.int p2), .val (.ref b1), .val (.ref b14), .val (.int (0 : Int32)), .val (.int (0 : Int32)), .val (.int (0 : Int32))] [(.int p2), (.ref w0)])) rfl (by rw [hml]; rfl) (argsL := [(.int p2)]) (rest := []) (lenOf own_pd1 rfl) rfl rfl (W := 0) (Nat.le_of_eq rfl) (hb hby at_124) (by decide) (by decide) (by decide) (by decide)
      obtain ⟨rfl, N21, e21⟩ := hQ21
      have N21' := Fr.app N20 N21
      refine own_st st21 ?_
      show own_Go _ _ _ _ T21 (mkF m 127 #[.val (.int p1), .val (.int p2), .val (.ref b1), .val (.ref b14), .val (.int (0 : Int32)), .val (.int (0 : Int32)), .val (.int (0 : Int32))] [(.int (own_h0 p2))])
      refine own_st (fun _ k => XS.iload X21.here hx rfl (hb hby at_127) rfl k) ?_
      show own_Go _ _ _ _ T21 (mkF m 129 #[.val (.int p1), .val (.int p2), .val (.ref b1), .val (.ref b14), .val (.int (0 : Int32)), .val (.int (0 : Int32)), .val (.int (0 : Int32))] [(.int (0 : Int32)), (.int (own_h0 p2))])
      refine own_st (fun _ k => XS.icmpNo X21.here hx rfl (hb hby at_129) rfl (teq (by simp [own_h0, hs, q1, q2] : (own_h0 p2) = (0 : Int32))).2 k) ?_
      show own_Go _ _ _ _ T21 (mkF m 132 #[.val (.int p1), .val (.int p2), .val (.ref b1), .val (.ref b14), .val (.int (0 : Int32)), .val (.int (0 : Int32)), .val (.int (0 : Int32))] [])
      refine own_st (fun _ k => XS.iconst X21.here hx rfl (hb hby at_132) k) ?_
      show own_Go _ _ _ _ T21 (mkF m 133 #[.val (.int p1), .val (.int p2), .val (.ref b1), .val (.ref b14), .val (.int (0 : Int32)), .val (.int (0 : Int32)), .val (.int (0 : Int32))] [(.int (1 : Int32))])
      refine own_st (fun _ k => XS.goto X21.here hx rfl (pc0 := 133) (pc' := 137) rfl (hb hby at_133) (by decide) (by decide) k) ?_
      show own_Go _ _ _ _ T21 (mkF m 137 #[.val (.int p1), .val (.int p2), .val (.ref b1), .val (.ref b14), .val (.int (0 : Int32)), .val (.int (0 : Int32)), .val (.int (0 : Int32))] [(.int (1 : Int32))])
      exact own_retN X21 hx hret (by simp) hlk (hb hby at_137) ⟨rfl, N21'⟩ (by decide) (by decide)
    · refine own_st (fun _ k => XS.ifYes X20.here hx rfl (pc0 := 82) (pc' := 89) rfl (hb hby at_82) rfl ((if0 _ _).trans (flt (hs : ¬ (p2 < (0 : Int32)))).2.1) (by decide) (by decide) k) ?_
      show own_Go _ _ _ _ T20 (mkF m 89 #[.val (.int p1), .val (.int p2), .val (.ref b1), .val (.ref b14), .val (.int (0 : Int32)), .unset, .unset] [])
      refine own_st (fun _ k => XS.iloadN X20.here hx rfl (hb hby at_89) rfl k) ?_
      show own_Go _ _ _ _ T20 (mkF m 90 #[.val (.int p1), .val (.int p2), .val (.ref b1), .val (.ref b14), .val (.int (0 : Int32)), .unset, .unset] [(.int p2)])
      by_cases hz : p2 = (0 : Int32)
      · refine own_st (fun _ k => XS.ifNo X20.here hx rfl (hb hby at_90) rfl ((if0 _ _).trans (teq (hz : p2 = (0 : Int32))).2) k) ?_
        show own_Go _ _ _ _ T20 (mkF m 93 #[.val (.int p1), .val (.int p2), .val (.ref b1), .val (.ref b14), .val (.int (0 : Int32)), .unset, .unset] [])
        have q2 : ¬ (0 : Int32) < p2 := by rw [hz]; decide
        have q3 : ¬ p2 < (0 : Int32) := by rw [hz]; decide
        show own_Go _ _ _ _ T20 (mkF m 93 #[.val (.int p1), .val (.int p2), .val (.ref b1), .val (.ref b14), .val (.int (0 : Int32)), .unset, .unset] [])
        refine own_st (fun _ k => XS.iconst X20.here hx rfl (hb hby at_93) k) ?_
        show own_Go _ _ _ _ T20 (mkF m 94 #[.val (.int p1), .val (.int p2), .val (.ref b1), .val (.ref b14), .val (.int (0 : Int32)), .unset, .unset] [(.int (1 : Int32))])
        refine own_st (fun _ k => XS.goto X20.here hx rfl (pc0 := 94) (pc' := 98) rfl (hb hby at_94) (by decide) (by decide) k) ?_
        show own_Go _ _ _ _ T20 (mkF m 98 #[.val (.int p1), .val (.int p2), .val (.ref b1), .val (.ref b14), .val (.int (0 : Int32)), .unset, .unset] [(.int (1 : Int32))])
        refine own_st (fun _ k => XS.istore X20.here hx rfl (hb hby at_98) rfl (l' := #[.val (.int p1), .val (.int p2), .val (.ref b1), .val (.ref b14), .val (.int (0 : Int32)), .val (.int (1 : Int32)), .unset]) rfl k) ?_
        show own_Go _ _ _ _ T20 (mkF m 100 #[.val (.int p1), .val (.int p2), .val (.ref b1), .val (.ref b14), .val (.int (0 : Int32)), .val (.int (1 : Int32)), .unset] [])
        refine own_st (fun _ k => XS.aloadN X20.here hx rfl (hb hby at_100) rfl rfl k) ?_
        show own_Go _ _ _ _ T20 (mkF m 101 #[.val (.int p1), .val (.int p2), .val (.ref b1), .val (.ref b14), .val (.int (0 : Int32)), .val (.int (1 : Int32)), .unset] [(.ref b14)])
        refine own_st (fun _ k => XS.iload X20.here hx rfl (hb hby at_101) rfl k) ?_
        show own_Go _ _ _ _ T20 (mkF m 103 #[.val (.int p1), .val (.int p2), .val (.ref b1), .val (.ref b14), .val (.int (0 : Int32)), .val (.int (1 : Int32)), .unset] [(.int (0 : Int32)), (.ref b14)])
        refine own_st (own_ldI X20 hx hZ e20 Va20 (j := (0 : Int32)) (by decide) (v := (.int (2 : Int32))) rfl (g := (mkF m 103 #[.val (.int p1), .val (.int p2), .val (.ref b1), .val (.ref b14), .val (.int (0 : Int32)), .val (.int (1 : Int32)), .unset] [(.int (0 : Int32)), (.ref b14)])) rfl rfl (hb hby at_103)) ?_
        show own_Go _ _ _ _ T20 (mkF m 104 #[.val (.int p1), .val (.int p2), .val (.ref b1), .val (.ref b14), .val (.int (0 : Int32)), .val (.int (1 : Int32)), .unset] [(.int (2 : Int32))])
        refine own_st (fun _ k => XS.iload X20.here hx rfl (hb hby at_104) rfl k) ?_
        show own_Go _ _ _ _ T20 (mkF m 106 #[.val (.int p1), .val (.int p2), .val (.ref b1), .val (.ref b14), .val (.int (0 : Int32)), .val (.int (1 : Int32)), .unset] [(.int (1 : Int32)), (.int (2 : Int32))])
        refine own_st (fun _ k => XS.ishr X20.here hx rfl (hb hby at_106) rfl k) ?_
        show own_Go _ _ _ _ T20 (mkF m 107 #[.val (.int p1), .val (.int p2), .val (.ref b1), .val (.ref b14), .val (.int (0 : Int32)), .val (.int (1 : Int32)), .unset] [(.int ((2 : Int32) >>> ((1 : Int32) &&& 31)))])
        rw [show ((2 : Int32) >>> ((1 : Int32) &&& 31)) = (1 : Int32) from by decide]
        show own_Go _ _ _ _ T20 (mkF m 107 #[.val (.int p1), .val (.int p2), .val (.ref b1), .val (.ref b14), .val (.int (0 : Int32)), .val (.int (1 : Int32)), .unset] [(.int (1 : Int32))])
        refine own_st (fun _ k => XS.iconst X20.here hx rfl (hb hby at_107) k) ?_
        show own_Go _ _ _ _ T20 (mkF m 108 #[.val (.int p1), .val (.int p2), .val (.ref b1), .val (.ref b14), .val (.int (0 : Int32)), .val (.int (1 : Int32)), .unset] [(.int (1 : Int32)), (.int (1 : Int32))])
        refine own_st (fun _ k => XS.iand X20.here hx rfl (hb hby at_108) rfl k) ?_
        show own_Go _ _ _ _ T20 (mkF m 109 #[.val (.int p1), .val (.int p2), .val (.ref b1), .val (.ref b14), .val (.int (0 : Int32)), .val (.int (1 : Int32)), .unset] [(.int ((1 : Int32) &&& (1 : Int32)))])
        rw [show ((1 : Int32) &&& (1 : Int32)) = (1 : Int32) from by decide]
        show own_Go _ _ _ _ T20 (mkF m 109 #[.val (.int p1), .val (.int p2), .val (.ref b1), .val (.ref b14), .val (.int (0 : Int32)), .val (.int (1 : Int32)), .unset] [(.int (1 : Int32))])
        refine own_st (fun _ k => XS.ifNo X20.here hx rfl (hb hby at_109) rfl ((if0 _ _).trans (feq (by decide : ¬ ((1 : Int32) = (0 : Int32)))).1) k) ?_
        show own_Go _ _ _ _ T20 (mkF m 112 #[.val (.int p1), .val (.int p2), .val (.ref b1), .val (.ref b14), .val (.int (0 : Int32)), .val (.int (1 : Int32)), .unset] [])
        refine own_st (fun _ k => XS.iconst X20.here hx rfl (hb hby at_112) k) ?_
        show own_Go _ _ _ _ T20 (mkF m 113 #[.val (.int p1), .val (.int p2), .val (.ref b1), .val (.ref b14), .val (.int (0 : Int32)), .val (.int (1 : Int32)), .unset] [(.int (1 : Int32))])
        refine own_st (fun _ k => XS.goto X20.here hx rfl (pc0 := 113) (pc' := 117) rfl (hb hby at_113) (by decide) (by decide) k) ?_
        show own_Go _ _ _ _ T20 (mkF m 117 #[.val (.int p1), .val (.int p2), .val (.ref b1), .val (.ref b14), .val (.int (0 : Int32)), .val (.int (1 : Int32)), .unset] [(.int (1 : Int32))])
        refine own_st (fun _ k => XS.istore X20.here hx rfl (hb hby at_117) rfl (l' := #[.val (.int p1), .val (.int p2), .val (.ref b1), .val (.ref b14), .val (.int (0 : Int32)), .val (.int (1 : Int32)), .val (.int (1 : Int32))]) rfl k) ?_
        show own_Go _ _ _ _ T20 (mkF m 119 #[.val (.int p1), .val (.int p2), .val (.ref b1), .val (.ref b14), .val (.int (0 : Int32)), .val (.int (1 : Int32)), .val (.int (1 : Int32))] [])
        refine own_st (fun _ k => XS.aloadN X20.here hx rfl (hb hby at_119) rfl rfl k) ?_
        show own_Go _ _ _ _ T20 (mkF m 120 #[.val (.int p1), .val (.int p2), .val (.ref b1), .val (.ref b14), .val (.int (0 : Int32)), .val (.int (1 : Int32)), .val (.int (1 : Int32))] [(.ref b1)])
        refine own_st (fun _ k => XS.iload X20.here hx rfl (hb hby at_120) rfl k) ?_
        show own_Go _ _ _ _ T20 (mkF m 122 #[.val (.int p1), .val (.int p2), .val (.ref b1), .val (.ref b14), .val (.int (0 : Int32)), .val (.int (1 : Int32)), .val (.int (1 : Int32))] [(.int (0 : Int32)), (.ref b1)])
        refine own_st (own_ldR X20 hx hZ e20 V_b1_20 rfl (j := (0 : Int32)) (by decide) (v := (.ref w0)) rfl (g := (mkF m 122 #[.val (.int p1), .val (.int p2), .val (.ref b1), .val (.ref b14), .val (.int (0 : Int32)), .val (.int (1 : Int32)), .val (.int (1 : Int32))] [(.int (0 : Int32)), (.ref b1)])) rfl rfl (hb hby at_122)) ?_
        show own_Go _ _ _ _ T20 (mkF m 123 #[.val (.int p1), .val (.int p2), .val (.ref b1), .val (.ref b14), .val (.int (0 : Int32)), .val (.int (1 : Int32)), .val (.int (1 : Int32))] [(.ref w0)])
        refine own_st (fun _ k => XS.iloadN X20.here hx rfl (hb hby at_123) rfl k) ?_
        show own_Go _ _ _ _ T20 (mkF m 124 #[.val (.int p1), .val (.int p2), .val (.ref b1), .val (.ref b14), .val (.int (0 : Int32)), .val (.int (1 : Int32)), .val (.int (1 : Int32))] [(.int p2), (.ref w0)])
        obtain ⟨v22, T22, L22, hQ22, X22, st22⟩ := own_callV X20 hx hZ (y := (⟨"com/example/overflowstream/overflowstream/Query$Operator", "holds", "(I)Z"⟩ : MethodName)) hown (own_w18 hw) (own_w19 hw) (own_w21 hw) (own_w20 hw) (own_w3 hw) (own_w22 hw) (by decide) (own_hold0 l hw [] w0 p2 hp20 n0 (Nat.le_trans Z0 O20.1) (E0.ext O20) (Fo0.ext O20)) e20 (E0.ext O20) (g := (mkF m 124 #[.val (.int p1), .val (.int p2), .val (.ref b1), .val (.ref b14), .val (.int (0 : Int32)), .val (.int (1 : Int32)), .val (.int (1 : Int32))] [(.int p2), (.ref w0)])) rfl (by rw [hml]; rfl) (argsL := [(.int p2)]) (rest := []) (lenOf own_pd1 rfl) rfl rfl (W := 0) (Nat.le_of_eq rfl) (hb hby at_124) (by decide) (by decide) (by decide) (by decide)
        obtain ⟨rfl, N22, e22⟩ := hQ22
        have N22' := Fr.app N20 N22
        refine own_st st22 ?_
        show own_Go _ _ _ _ T22 (mkF m 127 #[.val (.int p1), .val (.int p2), .val (.ref b1), .val (.ref b14), .val (.int (0 : Int32)), .val (.int (1 : Int32)), .val (.int (1 : Int32))] [(.int (own_h0 p2))])
        refine own_st (fun _ k => XS.iload X22.here hx rfl (hb hby at_127) rfl k) ?_
        show own_Go _ _ _ _ T22 (mkF m 129 #[.val (.int p1), .val (.int p2), .val (.ref b1), .val (.ref b14), .val (.int (0 : Int32)), .val (.int (1 : Int32)), .val (.int (1 : Int32))] [(.int (1 : Int32)), (.int (own_h0 p2))])
        refine own_st (fun _ k => XS.icmpNo X22.here hx rfl (hb hby at_129) rfl (teq (by simp [own_h0, hz] : (own_h0 p2) = (1 : Int32))).2 k) ?_
        show own_Go _ _ _ _ T22 (mkF m 132 #[.val (.int p1), .val (.int p2), .val (.ref b1), .val (.ref b14), .val (.int (0 : Int32)), .val (.int (1 : Int32)), .val (.int (1 : Int32))] [])
        refine own_st (fun _ k => XS.iconst X22.here hx rfl (hb hby at_132) k) ?_
        show own_Go _ _ _ _ T22 (mkF m 133 #[.val (.int p1), .val (.int p2), .val (.ref b1), .val (.ref b14), .val (.int (0 : Int32)), .val (.int (1 : Int32)), .val (.int (1 : Int32))] [(.int (1 : Int32))])
        refine own_st (fun _ k => XS.goto X22.here hx rfl (pc0 := 133) (pc' := 137) rfl (hb hby at_133) (by decide) (by decide) k) ?_
        show own_Go _ _ _ _ T22 (mkF m 137 #[.val (.int p1), .val (.int p2), .val (.ref b1), .val (.ref b14), .val (.int (0 : Int32)), .val (.int (1 : Int32)), .val (.int (1 : Int32))] [(.int (1 : Int32))])
        exact own_retN X22 hx hret (by simp) hlk (hb hby at_137) ⟨rfl, N22'⟩ (by decide) (by decide)
      · refine own_st (fun _ k => XS.ifYes X20.here hx rfl (pc0 := 90) (pc' := 97) rfl (hb hby at_90) rfl ((if0 _ _).trans (feq (hz : ¬ (p2 = (0 : Int32)))).2) (by decide) (by decide) k) ?_
        show own_Go _ _ _ _ T20 (mkF m 97 #[.val (.int p1), .val (.int p2), .val (.ref b1), .val (.ref b14), .val (.int (0 : Int32)), .unset, .unset] [])
        have q2 := own_s2 hs hz
        show own_Go _ _ _ _ T20 (mkF m 97 #[.val (.int p1), .val (.int p2), .val (.ref b1), .val (.ref b14), .val (.int (0 : Int32)), .unset, .unset] [])
        refine own_st (fun _ k => XS.iconst X20.here hx rfl (hb hby at_97) k) ?_
        show own_Go _ _ _ _ T20 (mkF m 98 #[.val (.int p1), .val (.int p2), .val (.ref b1), .val (.ref b14), .val (.int (0 : Int32)), .unset, .unset] [(.int (2 : Int32))])
        refine own_st (fun _ k => XS.istore X20.here hx rfl (hb hby at_98) rfl (l' := #[.val (.int p1), .val (.int p2), .val (.ref b1), .val (.ref b14), .val (.int (0 : Int32)), .val (.int (2 : Int32)), .unset]) rfl k) ?_
        show own_Go _ _ _ _ T20 (mkF m 100 #[.val (.int p1), .val (.int p2), .val (.ref b1), .val (.ref b14), .val (.int (0 : Int32)), .val (.int (2 : Int32)), .unset] [])
        refine own_st (fun _ k => XS.aloadN X20.here hx rfl (hb hby at_100) rfl rfl k) ?_
        show own_Go _ _ _ _ T20 (mkF m 101 #[.val (.int p1), .val (.int p2), .val (.ref b1), .val (.ref b14), .val (.int (0 : Int32)), .val (.int (2 : Int32)), .unset] [(.ref b14)])
        refine own_st (fun _ k => XS.iload X20.here hx rfl (hb hby at_101) rfl k) ?_
        show own_Go _ _ _ _ T20 (mkF m 103 #[.val (.int p1), .val (.int p2), .val (.ref b1), .val (.ref b14), .val (.int (0 : Int32)), .val (.int (2 : Int32)), .unset] [(.int (0 : Int32)), (.ref b14)])
        refine own_st (own_ldI X20 hx hZ e20 Va20 (j := (0 : Int32)) (by decide) (v := (.int (2 : Int32))) rfl (g := (mkF m 103 #[.val (.int p1), .val (.int p2), .val (.ref b1), .val (.ref b14), .val (.int (0 : Int32)), .val (.int (2 : Int32)), .unset] [(.int (0 : Int32)), (.ref b14)])) rfl rfl (hb hby at_103)) ?_
        show own_Go _ _ _ _ T20 (mkF m 104 #[.val (.int p1), .val (.int p2), .val (.ref b1), .val (.ref b14), .val (.int (0 : Int32)), .val (.int (2 : Int32)), .unset] [(.int (2 : Int32))])
        refine own_st (fun _ k => XS.iload X20.here hx rfl (hb hby at_104) rfl k) ?_
        show own_Go _ _ _ _ T20 (mkF m 106 #[.val (.int p1), .val (.int p2), .val (.ref b1), .val (.ref b14), .val (.int (0 : Int32)), .val (.int (2 : Int32)), .unset] [(.int (2 : Int32)), (.int (2 : Int32))])
        refine own_st (fun _ k => XS.ishr X20.here hx rfl (hb hby at_106) rfl k) ?_
        show own_Go _ _ _ _ T20 (mkF m 107 #[.val (.int p1), .val (.int p2), .val (.ref b1), .val (.ref b14), .val (.int (0 : Int32)), .val (.int (2 : Int32)), .unset] [(.int ((2 : Int32) >>> ((2 : Int32) &&& 31)))])
        rw [show ((2 : Int32) >>> ((2 : Int32) &&& 31)) = (0 : Int32) from by decide]
        show own_Go _ _ _ _ T20 (mkF m 107 #[.val (.int p1), .val (.int p2), .val (.ref b1), .val (.ref b14), .val (.int (0 : Int32)), .val (.int (2 : Int32)), .unset] [(.int (0 : Int32))])
        refine own_st (fun _ k => XS.iconst X20.here hx rfl (hb hby at_107) k) ?_
        show own_Go _ _ _ _ T20 (mkF m 108 #[.val (.int p1), .val (.int p2), .val (.ref b1), .val (.ref b14), .val (.int (0 : Int32)), .val (.int (2 : Int32)), .unset] [(.int (1 : Int32)), (.int (0 : Int32))])
        refine own_st (fun _ k => XS.iand X20.here hx rfl (hb hby at_108) rfl k) ?_
        show own_Go _ _ _ _ T20 (mkF m 109 #[.val (.int p1), .val (.int p2), .val (.ref b1), .val (.ref b14), .val (.int (0 : Int32)), .val (.int (2 : Int32)), .unset] [(.int ((0 : Int32) &&& (1 : Int32)))])
        rw [show ((0 : Int32) &&& (1 : Int32)) = (0 : Int32) from by decide]
        show own_Go _ _ _ _ T20 (mkF m 109 #[.val (.int p1), .val (.int p2), .val (.ref b1), .val (.ref b14), .val (.int (0 : Int32)), .val (.int (2 : Int32)), .unset] [(.int (0 : Int32))])
        refine own_st (fun _ k => XS.ifYes X20.here hx rfl (pc0 := 109) (pc' := 116) rfl (hb hby at_109) rfl ((if0 _ _).trans (teq (by decide : (0 : Int32) = (0 : Int32))).1) (by decide) (by decide) k) ?_
        show own_Go _ _ _ _ T20 (mkF m 116 #[.val (.int p1), .val (.int p2), .val (.ref b1), .val (.ref b14), .val (.int (0 : Int32)), .val (.int (2 : Int32)), .unset] [])
        refine own_st (fun _ k => XS.iconst X20.here hx rfl (hb hby at_116) k) ?_
        show own_Go _ _ _ _ T20 (mkF m 117 #[.val (.int p1), .val (.int p2), .val (.ref b1), .val (.ref b14), .val (.int (0 : Int32)), .val (.int (2 : Int32)), .unset] [(.int (0 : Int32))])
        refine own_st (fun _ k => XS.istore X20.here hx rfl (hb hby at_117) rfl (l' := #[.val (.int p1), .val (.int p2), .val (.ref b1), .val (.ref b14), .val (.int (0 : Int32)), .val (.int (2 : Int32)), .val (.int (0 : Int32))]) rfl k) ?_
        show own_Go _ _ _ _ T20 (mkF m 119 #[.val (.int p1), .val (.int p2), .val (.ref b1), .val (.ref b14), .val (.int (0 : Int32)), .val (.int (2 : Int32)), .val (.int (0 : Int32))] [])
        refine own_st (fun _ k => XS.aloadN X20.here hx rfl (hb hby at_119) rfl rfl k) ?_
        show own_Go _ _ _ _ T20 (mkF m 120 #[.val (.int p1), .val (.int p2), .val (.ref b1), .val (.ref b14), .val (.int (0 : Int32)), .val (.int (2 : Int32)), .val (.int (0 : Int32))] [(.ref b1)])
        refine own_st (fun _ k => XS.iload X20.here hx rfl (hb hby at_120) rfl k) ?_
        show own_Go _ _ _ _ T20 (mkF m 122 #[.val (.int p1), .val (.int p2), .val (.ref b1), .val (.ref b14), .val (.int (0 : Int32)), .val (.int (2 : Int32)), .val (.int (0 : Int32))] [(.int (0 : Int32)), (.ref b1)])
        refine own_st (own_ldR X20 hx hZ e20 V_b1_20 rfl (j := (0 : Int32)) (by decide) (v := (.ref w0)) rfl (g := (mkF m 122 #[.val (.int p1), .val (.int p2), .val (.ref b1), .val (.ref b14), .val (.int (0 : Int32)), .val (.int (2 : Int32)), .val (.int (0 : Int32))] [(.int (0 : Int32)), (.ref b1)])) rfl rfl (hb hby at_122)) ?_
        show own_Go _ _ _ _ T20 (mkF m 123 #[.val (.int p1), .val (.int p2), .val (.ref b1), .val (.ref b14), .val (.int (0 : Int32)), .val (.int (2 : Int32)), .val (.int (0 : Int32))] [(.ref w0)])
        refine own_st (fun _ k => XS.iloadN X20.here hx rfl (hb hby at_123) rfl k) ?_
        show own_Go _ _ _ _ T20 (mkF m 124 #[.val (.int p1), .val (.int p2), .val (.ref b1), .val (.ref b14), .val (.int (0 : Int32)), .val (.int (2 : Int32)), .val (.int (0 : Int32))] [(.int p2), (.ref w0)])
        obtain ⟨v23, T23, L23, hQ23, X23, st23⟩ := own_callV X20 hx hZ (y := (⟨"com/example/overflowstream/overflowstream/Query$Operator", "holds", "(I)Z"⟩ : MethodName)) hown (own_w18 hw) (own_w19 hw) (own_w21 hw) (own_w20 hw) (own_w3 hw) (own_w22 hw) (by decide) (own_hold0 l hw [] w0 p2 hp20 n0 (Nat.le_trans Z0 O20.1) (E0.ext O20) (Fo0.ext O20)) e20 (E0.ext O20) (g := (mkF m 124 #[.val (.int p1), .val (.int p2), .val (.ref b1), .val (.ref b14), .val (.int (0 : Int32)), .val (.int (2 : Int32)), .val (.int (0 : Int32))] [(.int p2), (.ref w0)])) rfl (by rw [hml]; rfl) (argsL := [(.int p2)]) (rest := []) (lenOf own_pd1 rfl) rfl rfl (W := 0) (Nat.le_of_eq rfl) (hb hby at_124) (by decide) (by decide) (by decide) (by decide)
        obtain ⟨rfl, N23, e23⟩ := hQ23
        have N23' := Fr.app N20 N23
        refine own_st st23 ?_
        show own_Go _ _ _ _ T23 (mkF m 127 #[.val (.int p1), .val (.int p2), .val (.ref b1), .val (.ref b14), .val (.int (0 : Int32)), .val (.int (2 : Int32)), .val (.int (0 : Int32))] [(.int (own_h0 p2))])
        refine own_st (fun _ k => XS.iload X23.here hx rfl (hb hby at_127) rfl k) ?_
        show own_Go _ _ _ _ T23 (mkF m 129 #[.val (.int p1), .val (.int p2), .val (.ref b1), .val (.ref b14), .val (.int (0 : Int32)), .val (.int (2 : Int32)), .val (.int (0 : Int32))] [(.int (0 : Int32)), (.int (own_h0 p2))])
        refine own_st (fun _ k => XS.icmpNo X23.here hx rfl (hb hby at_129) rfl (teq (by simp [own_h0, hs, hz, q2] : (own_h0 p2) = (0 : Int32))).2 k) ?_
        show own_Go _ _ _ _ T23 (mkF m 132 #[.val (.int p1), .val (.int p2), .val (.ref b1), .val (.ref b14), .val (.int (0 : Int32)), .val (.int (2 : Int32)), .val (.int (0 : Int32))] [])
        refine own_st (fun _ k => XS.iconst X23.here hx rfl (hb hby at_132) k) ?_
        show own_Go _ _ _ _ T23 (mkF m 133 #[.val (.int p1), .val (.int p2), .val (.ref b1), .val (.ref b14), .val (.int (0 : Int32)), .val (.int (2 : Int32)), .val (.int (0 : Int32))] [(.int (1 : Int32))])
        refine own_st (fun _ k => XS.goto X23.here hx rfl (pc0 := 133) (pc' := 137) rfl (hb hby at_133) (by decide) (by decide) k) ?_
        show own_Go _ _ _ _ T23 (mkF m 137 #[.val (.int p1), .val (.int p2), .val (.ref b1), .val (.ref b14), .val (.int (0 : Int32)), .val (.int (2 : Int32)), .val (.int (0 : Int32))] [(.int (1 : Int32))])
        exact own_retN X23 hx hret (by simp) hlk (hb hby at_137) ⟨rfl, N23'⟩ (by decide) (by decide)
  · rw [hi]
    show own_Go _ _ _ _ T20 (mkF m 81 #[.val (.int p1), .val (.int p2), .val (.ref b1), .val (.ref b14), .val (.int (1 : Int32)), .unset, .unset] [])
    refine own_st (fun _ k => XS.iloadN X20.here hx rfl (hb hby at_81) rfl k) ?_
    show own_Go _ _ _ _ T20 (mkF m 82 #[.val (.int p1), .val (.int p2), .val (.ref b1), .val (.ref b14), .val (.int (1 : Int32)), .unset, .unset] [(.int p2)])
    by_cases hs : p2 < (0 : Int32)
    · refine own_st (fun _ k => XS.ifNo X20.here hx rfl (hb hby at_82) rfl ((if0 _ _).trans (tlt (hs : p2 < (0 : Int32))).2.1) k) ?_
      show own_Go _ _ _ _ T20 (mkF m 85 #[.val (.int p1), .val (.int p2), .val (.ref b1), .val (.ref b14), .val (.int (1 : Int32)), .unset, .unset] [])
      have q1 := (own_s1 hs).1
      have q2 := (own_s1 hs).2
      show own_Go _ _ _ _ T20 (mkF m 85 #[.val (.int p1), .val (.int p2), .val (.ref b1), .val (.ref b14), .val (.int (1 : Int32)), .unset, .unset] [])
      refine own_st (fun _ k => XS.iconst X20.here hx rfl (hb hby at_85) k) ?_
      show own_Go _ _ _ _ T20 (mkF m 86 #[.val (.int p1), .val (.int p2), .val (.ref b1), .val (.ref b14), .val (.int (1 : Int32)), .unset, .unset] [(.int (0 : Int32))])
      refine own_st (fun _ k => XS.goto X20.here hx rfl (pc0 := 86) (pc' := 98) rfl (hb hby at_86) (by decide) (by decide) k) ?_
      show own_Go _ _ _ _ T20 (mkF m 98 #[.val (.int p1), .val (.int p2), .val (.ref b1), .val (.ref b14), .val (.int (1 : Int32)), .unset, .unset] [(.int (0 : Int32))])
      refine own_st (fun _ k => XS.istore X20.here hx rfl (hb hby at_98) rfl (l' := #[.val (.int p1), .val (.int p2), .val (.ref b1), .val (.ref b14), .val (.int (1 : Int32)), .val (.int (0 : Int32)), .unset]) rfl k) ?_
      show own_Go _ _ _ _ T20 (mkF m 100 #[.val (.int p1), .val (.int p2), .val (.ref b1), .val (.ref b14), .val (.int (1 : Int32)), .val (.int (0 : Int32)), .unset] [])
      refine own_st (fun _ k => XS.aloadN X20.here hx rfl (hb hby at_100) rfl rfl k) ?_
      show own_Go _ _ _ _ T20 (mkF m 101 #[.val (.int p1), .val (.int p2), .val (.ref b1), .val (.ref b14), .val (.int (1 : Int32)), .val (.int (0 : Int32)), .unset] [(.ref b14)])
      refine own_st (fun _ k => XS.iload X20.here hx rfl (hb hby at_101) rfl k) ?_
      show own_Go _ _ _ _ T20 (mkF m 103 #[.val (.int p1), .val (.int p2), .val (.ref b1), .val (.ref b14), .val (.int (1 : Int32)), .val (.int (0 : Int32)), .unset] [(.int (1 : Int32)), (.ref b14)])
      refine own_st (own_ldI X20 hx hZ e20 Va20 (j := (1 : Int32)) (by decide) (v := (.int (5 : Int32))) rfl (g := (mkF m 103 #[.val (.int p1), .val (.int p2), .val (.ref b1), .val (.ref b14), .val (.int (1 : Int32)), .val (.int (0 : Int32)), .unset] [(.int (1 : Int32)), (.ref b14)])) rfl rfl (hb hby at_103)) ?_
      show own_Go _ _ _ _ T20 (mkF m 104 #[.val (.int p1), .val (.int p2), .val (.ref b1), .val (.ref b14), .val (.int (1 : Int32)), .val (.int (0 : Int32)), .unset] [(.int (5 : Int32))])
      refine own_st (fun _ k => XS.iload X20.here hx rfl (hb hby at_104) rfl k) ?_
      show own_Go _ _ _ _ T20 (mkF m 106 #[.val (.int p1), .val (.int p2), .val (.ref b1), .val (.ref b14), .val (.int (1 : Int32)), .val (.int (0 : Int32)), .unset] [(.int (0 : Int32)), (.int (5 : Int32))])
      refine own_st (fun _ k => XS.ishr X20.here hx rfl (hb hby at_106) rfl k) ?_
      show own_Go _ _ _ _ T20 (mkF m 107 #[.val (.int p1), .val (.int p2), .val (.ref b1), .val (.ref b14), .val (.int (1 : Int32)), .val (.int (0 : Int32)), .unset] [(.int ((5 : Int32) >>> ((0 : Int32) &&& 31)))])
      rw [show ((5 : Int32) >>> ((0 : Int32) &&& 31)) = (5 : Int32) from by decide]
      show own_Go _ _ _ _ T20 (mkF m 107 #[.val (.int p1), .val (.int p2), .val (.ref b1), .val (.ref b14), .val (.int (1 : Int32)), .val (.int (0 : Int32)), .unset] [(.int (5 : Int32))])
      refine own_st (fun _ k => XS.iconst X20.here hx rfl (hb hby at_107) k) ?_
      show own_Go _ _ _ _ T20 (mkF m 108 #[.val (.int p1), .val (.int p2), .val (.ref b1), .val (.ref b14), .val (.int (1 : Int32)), .val (.int (0 : Int32)), .unset] [(.int (1 : Int32)), (.int (5 : Int32))])
      refine own_st (fun _ k => XS.iand X20.here hx rfl (hb hby at_108) rfl k) ?_
      show own_Go _ _ _ _ T20 (mkF m 109 #[.val (.int p1), .val (.int p2), .val (.ref b1), .val (.ref b14), .val (.int (1 : Int32)), .val (.int (0 : Int32)), .unset] [(.int ((5 : Int32) &&& (1 : Int32)))])
      rw [show ((5 : Int32) &&& (1 : Int32)) = (1 : Int32) from by decide]
      show own_Go _ _ _ _ T20 (mkF m 109 #[.val (.int p1), .val (.int p2), .val (.ref b1), .val (.ref b14), .val (.int (1 : Int32)), .val (.int (0 : Int32)), .unset] [(.int (1 : Int32))])
      refine own_st (fun _ k => XS.ifNo X20.here hx rfl (hb hby at_109) rfl ((if0 _ _).trans (feq (by decide : ¬ ((1 : Int32) = (0 : Int32)))).1) k) ?_
      show own_Go _ _ _ _ T20 (mkF m 112 #[.val (.int p1), .val (.int p2), .val (.ref b1), .val (.ref b14), .val (.int (1 : Int32)), .val (.int (0 : Int32)), .unset] [])
      refine own_st (fun _ k => XS.iconst X20.here hx rfl (hb hby at_112) k) ?_
      show own_Go _ _ _ _ T20 (mkF m 113 #[.val (.int p1), .val (.int p2), .val (.ref b1), .val (.ref b14), .val (.int (1 : Int32)), .val (.int (0 : Int32)), .unset] [(.int (1 : Int32))])
      refine own_st (fun _ k => XS.goto X20.here hx rfl (pc0 := 113) (pc' := 117) rfl (hb hby at_113) (by decide) (by decide) k) ?_
      show own_Go _ _ _ _ T20 (mkF m 117 #[.val (.int p1), .val (.int p2), .val (.ref b1), .val (.ref b14), .val (.int (1 : Int32)), .val (.int (0 : Int32)), .unset] [(.int (1 : Int32))])
      refine own_st (fun _ k => XS.istore X20.here hx rfl (hb hby at_117) rfl (l' := #[.val (.int p1), .val (.int p2), .val (.ref b1), .val (.ref b14), .val (.int (1 : Int32)), .val (.int (0 : Int32)), .val (.int (1 : Int32))]) rfl k) ?_
      show own_Go _ _ _ _ T20 (mkF m 119 #[.val (.int p1), .val (.int p2), .val (.ref b1), .val (.ref b14), .val (.int (1 : Int32)), .val (.int (0 : Int32)), .val (.int (1 : Int32))] [])
      refine own_st (fun _ k => XS.aloadN X20.here hx rfl (hb hby at_119) rfl rfl k) ?_
      show own_Go _ _ _ _ T20 (mkF m 120 #[.val (.int p1), .val (.int p2), .val (.ref b1), .val (.ref b14), .val (.int (1 : Int32)), .val (.int (0 : Int32)), .val (.int (1 : Int32))] [(.ref b1)])
      refine own_st (fun _ k => XS.iload X20.here hx rfl (hb hby at_120) rfl k) ?_
      show own_Go _ _ _ _ T20 (mkF m 122 #[.val (.int p1), .val (.int p2), .val (.ref b1), .val (.ref b14), .val (.int (1 : Int32)), .val (.int (0 : Int32)), .val (.int (1 : Int32))] [(.int (1 : Int32)), (.ref b1)])
      refine own_st (own_ldR X20 hx hZ e20 V_b1_20 rfl (j := (1 : Int32)) (by decide) (v := (.ref w1)) rfl (g := (mkF m 122 #[.val (.int p1), .val (.int p2), .val (.ref b1), .val (.ref b14), .val (.int (1 : Int32)), .val (.int (0 : Int32)), .val (.int (1 : Int32))] [(.int (1 : Int32)), (.ref b1)])) rfl rfl (hb hby at_122)) ?_
      show own_Go _ _ _ _ T20 (mkF m 123 #[.val (.int p1), .val (.int p2), .val (.ref b1), .val (.ref b14), .val (.int (1 : Int32)), .val (.int (0 : Int32)), .val (.int (1 : Int32))] [(.ref w1)])
      refine own_st (fun _ k => XS.iloadN X20.here hx rfl (hb hby at_123) rfl k) ?_
      show own_Go _ _ _ _ T20 (mkF m 124 #[.val (.int p1), .val (.int p2), .val (.ref b1), .val (.ref b14), .val (.int (1 : Int32)), .val (.int (0 : Int32)), .val (.int (1 : Int32))] [(.int p2), (.ref w1)])
      obtain ⟨v24, T24, L24, hQ24, X24, st24⟩ := own_callV X20 hx hZ (y := (⟨"com/example/overflowstream/overflowstream/Query$Operator", "holds", "(I)Z"⟩ : MethodName)) hown (own_w18 hw) (own_w19 hw) (own_w21 hw) (own_w20 hw) (own_w3 hw) (own_w22 hw) (by decide) (own_hold1 l hw [] w1 p2 hp20 n0 (Nat.le_trans Z0 O20.1) (E1.ext O20) (Fo1.ext O20)) e20 (E1.ext O20) (g := (mkF m 124 #[.val (.int p1), .val (.int p2), .val (.ref b1), .val (.ref b14), .val (.int (1 : Int32)), .val (.int (0 : Int32)), .val (.int (1 : Int32))] [(.int p2), (.ref w1)])) rfl (by rw [hml]; rfl) (argsL := [(.int p2)]) (rest := []) (lenOf own_pd1 rfl) rfl rfl (W := 0) (Nat.le_of_eq rfl) (hb hby at_124) (by decide) (by decide) (by decide) (by decide)
      obtain ⟨rfl, N24, e24⟩ := hQ24
      have N24' := Fr.app N20 N24
      refine own_st st24 ?_
      show own_Go _ _ _ _ T24 (mkF m 127 #[.val (.int p1), .val (.int p2), .val (.ref b1), .val (.ref b14), .val (.int (1 : Int32)), .val (.int (0 : Int32)), .val (.int (1 : Int32))] [(.int (own_h1 p2))])
      refine own_st (fun _ k => XS.iload X24.here hx rfl (hb hby at_127) rfl k) ?_
      show own_Go _ _ _ _ T24 (mkF m 129 #[.val (.int p1), .val (.int p2), .val (.ref b1), .val (.ref b14), .val (.int (1 : Int32)), .val (.int (0 : Int32)), .val (.int (1 : Int32))] [(.int (1 : Int32)), (.int (own_h1 p2))])
      refine own_st (fun _ k => XS.icmpNo X24.here hx rfl (hb hby at_129) rfl (teq (by simp [own_h1, hs, q1, q2] : (own_h1 p2) = (1 : Int32))).2 k) ?_
      show own_Go _ _ _ _ T24 (mkF m 132 #[.val (.int p1), .val (.int p2), .val (.ref b1), .val (.ref b14), .val (.int (1 : Int32)), .val (.int (0 : Int32)), .val (.int (1 : Int32))] [])
      refine own_st (fun _ k => XS.iconst X24.here hx rfl (hb hby at_132) k) ?_
      show own_Go _ _ _ _ T24 (mkF m 133 #[.val (.int p1), .val (.int p2), .val (.ref b1), .val (.ref b14), .val (.int (1 : Int32)), .val (.int (0 : Int32)), .val (.int (1 : Int32))] [(.int (1 : Int32))])
      refine own_st (fun _ k => XS.goto X24.here hx rfl (pc0 := 133) (pc' := 137) rfl (hb hby at_133) (by decide) (by decide) k) ?_
      show own_Go _ _ _ _ T24 (mkF m 137 #[.val (.int p1), .val (.int p2), .val (.ref b1), .val (.ref b14), .val (.int (1 : Int32)), .val (.int (0 : Int32)), .val (.int (1 : Int32))] [(.int (1 : Int32))])
      exact own_retN X24 hx hret (by simp) hlk (hb hby at_137) ⟨rfl, N24'⟩ (by decide) (by decide)
    · refine own_st (fun _ k => XS.ifYes X20.here hx rfl (pc0 := 82) (pc' := 89) rfl (hb hby at_82) rfl ((if0 _ _).trans (flt (hs : ¬ (p2 < (0 : Int32)))).2.1) (by decide) (by decide) k) ?_
      show own_Go _ _ _ _ T20 (mkF m 89 #[.val (.int p1), .val (.int p2), .val (.ref b1), .val (.ref b14), .val (.int (1 : Int32)), .unset, .unset] [])
      refine own_st (fun _ k => XS.iloadN X20.here hx rfl (hb hby at_89) rfl k) ?_
      show own_Go _ _ _ _ T20 (mkF m 90 #[.val (.int p1), .val (.int p2), .val (.ref b1), .val (.ref b14), .val (.int (1 : Int32)), .unset, .unset] [(.int p2)])
      by_cases hz : p2 = (0 : Int32)
      · refine own_st (fun _ k => XS.ifNo X20.here hx rfl (hb hby at_90) rfl ((if0 _ _).trans (teq (hz : p2 = (0 : Int32))).2) k) ?_
        show own_Go _ _ _ _ T20 (mkF m 93 #[.val (.int p1), .val (.int p2), .val (.ref b1), .val (.ref b14), .val (.int (1 : Int32)), .unset, .unset] [])
        have q2 : ¬ (0 : Int32) < p2 := by rw [hz]; decide
        have q3 : ¬ p2 < (0 : Int32) := by rw [hz]; decide
        show own_Go _ _ _ _ T20 (mkF m 93 #[.val (.int p1), .val (.int p2), .val (.ref b1), .val (.ref b14), .val (.int (1 : Int32)), .unset, .unset] [])
        refine own_st (fun _ k => XS.iconst X20.here hx rfl (hb hby at_93) k) ?_
        show own_Go _ _ _ _ T20 (mkF m 94 #[.val (.int p1), .val (.int p2), .val (.ref b1), .val (.ref b14), .val (.int (1 : Int32)), .unset, .unset] [(.int (1 : Int32))])
        refine own_st (fun _ k => XS.goto X20.here hx rfl (pc0 := 94) (pc' := 98) rfl (hb hby at_94) (by decide) (by decide) k) ?_
        show own_Go _ _ _ _ T20 (mkF m 98 #[.val (.int p1), .val (.int p2), .val (.ref b1), .val (.ref b14), .val (.int (1 : Int32)), .unset, .unset] [(.int (1 : Int32))])
        refine own_st (fun _ k => XS.istore X20.here hx rfl (hb hby at_98) rfl (l' := #[.val (.int p1), .val (.int p2), .val (.ref b1), .val (.ref b14), .val (.int (1 : Int32)), .val (.int (1 : Int32)), .unset]) rfl k) ?_
        show own_Go _ _ _ _ T20 (mkF m 100 #[.val (.int p1), .val (.int p2), .val (.ref b1), .val (.ref b14), .val (.int (1 : Int32)), .val (.int (1 : Int32)), .unset] [])
        refine own_st (fun _ k => XS.aloadN X20.here hx rfl (hb hby at_100) rfl rfl k) ?_
        show own_Go _ _ _ _ T20 (mkF m 101 #[.val (.int p1), .val (.int p2), .val (.ref b1), .val (.ref b14), .val (.int (1 : Int32)), .val (.int (1 : Int32)), .unset] [(.ref b14)])
        refine own_st (fun _ k => XS.iload X20.here hx rfl (hb hby at_101) rfl k) ?_
        show own_Go _ _ _ _ T20 (mkF m 103 #[.val (.int p1), .val (.int p2), .val (.ref b1), .val (.ref b14), .val (.int (1 : Int32)), .val (.int (1 : Int32)), .unset] [(.int (1 : Int32)), (.ref b14)])
        refine own_st (own_ldI X20 hx hZ e20 Va20 (j := (1 : Int32)) (by decide) (v := (.int (5 : Int32))) rfl (g := (mkF m 103 #[.val (.int p1), .val (.int p2), .val (.ref b1), .val (.ref b14), .val (.int (1 : Int32)), .val (.int (1 : Int32)), .unset] [(.int (1 : Int32)), (.ref b14)])) rfl rfl (hb hby at_103)) ?_
        show own_Go _ _ _ _ T20 (mkF m 104 #[.val (.int p1), .val (.int p2), .val (.ref b1), .val (.ref b14), .val (.int (1 : Int32)), .val (.int (1 : Int32)), .unset] [(.int (5 : Int32))])
        refine own_st (fun _ k => XS.iload X20.here hx rfl (hb hby at_104) rfl k) ?_
        show own_Go _ _ _ _ T20 (mkF m 106 #[.val (.int p1), .val (.int p2), .val (.ref b1), .val (.ref b14), .val (.int (1 : Int32)), .val (.int (1 : Int32)), .unset] [(.int (1 : Int32)), (.int (5 : Int32))])
        refine own_st (fun _ k => XS.ishr X20.here hx rfl (hb hby at_106) rfl k) ?_
        show own_Go _ _ _ _ T20 (mkF m 107 #[.val (.int p1), .val (.int p2), .val (.ref b1), .val (.ref b14), .val (.int (1 : Int32)), .val (.int (1 : Int32)), .unset] [(.int ((5 : Int32) >>> ((1 : Int32) &&& 31)))])
        rw [show ((5 : Int32) >>> ((1 : Int32) &&& 31)) = (2 : Int32) from by decide]
        show own_Go _ _ _ _ T20 (mkF m 107 #[.val (.int p1), .val (.int p2), .val (.ref b1), .val (.ref b14), .val (.int (1 : Int32)), .val (.int (1 : Int32)), .unset] [(.int (2 : Int32))])
        refine own_st (fun _ k => XS.iconst X20.here hx rfl (hb hby at_107) k) ?_
        show own_Go _ _ _ _ T20 (mkF m 108 #[.val (.int p1), .val (.int p2), .val (.ref b1), .val (.ref b14), .val (.int (1 : Int32)), .val (.int (1 : Int32)), .unset] [(.int (1 : Int32)), (.int (2 : Int32))])
        refine own_st (fun _ k => XS.iand X20.here hx rfl (hb hby at_108) rfl k) ?_
        show own_Go _ _ _ _ T20 (mkF m 109 #[.val (.int p1), .val (.int p2), .val (.ref b1), .val (.ref b14), .val (.int (1 : Int32)), .val (.int (1 : Int32)), .unset] [(.int ((2 : Int32) &&& (1 : Int32)))])
        rw [show ((2 : Int32) &&& (1 : Int32)) = (0 : Int32) from by decide]
        show own_Go _ _ _ _ T20 (mkF m 109 #[.val (.int p1), .val (.int p2), .val (.ref b1), .val (.ref b14), .val (.int (1 : Int32)), .val (.int (1 : Int32)), .unset] [(.int (0 : Int32))])
        refine own_st (fun _ k => XS.ifYes X20.here hx rfl (pc0 := 109) (pc' := 116) rfl (hb hby at_109) rfl ((if0 _ _).trans (teq (by decide : (0 : Int32) = (0 : Int32))).1) (by decide) (by decide) k) ?_
        show own_Go _ _ _ _ T20 (mkF m 116 #[.val (.int p1), .val (.int p2), .val (.ref b1), .val (.ref b14), .val (.int (1 : Int32)), .val (.int (1 : Int32)), .unset] [])
        refine own_st (fun _ k => XS.iconst X20.here hx rfl (hb hby at_116) k) ?_
        show own_Go _ _ _ _ T20 (mkF m 117 #[.val (.int p1), .val (.int p2), .val (.ref b1), .val (.ref b14), .val (.int (1 : Int32)), .val (.int (1 : Int32)), .unset] [(.int (0 : Int32))])
        refine own_st (fun _ k => XS.istore X20.here hx rfl (hb hby at_117) rfl (l' := #[.val (.int p1), .val (.int p2), .val (.ref b1), .val (.ref b14), .val (.int (1 : Int32)), .val (.int (1 : Int32)), .val (.int (0 : Int32))]) rfl k) ?_
        show own_Go _ _ _ _ T20 (mkF m 119 #[.val (.int p1), .val (.int p2), .val (.ref b1), .val (.ref b14), .val (.int (1 : Int32)), .val (.int (1 : Int32)), .val (.int (0 : Int32))] [])
        refine own_st (fun _ k => XS.aloadN X20.here hx rfl (hb hby at_119) rfl rfl k) ?_
        show own_Go _ _ _ _ T20 (mkF m 120 #[.val (.int p1), .val (.int p2), .val (.ref b1), .val (.ref b14), .val (.int (1 : Int32)), .val (.int (1 : Int32)), .val (.int (0 : Int32))] [(.ref b1)])
        refine own_st (fun _ k => XS.iload X20.here hx rfl (hb hby at_120) rfl k) ?_
        show own_Go _ _ _ _ T20 (mkF m 122 #[.val (.int p1), .val (.int p2), .val (.ref b1), .val (.ref b14), .val (.int (1 : Int32)), .val (.int (1 : Int32)), .val (.int (0 : Int32))] [(.int (1 : Int32)), (.ref b1)])
        refine own_st (own_ldR X20 hx hZ e20 V_b1_20 rfl (j := (1 : Int32)) (by decide) (v := (.ref w1)) rfl (g := (mkF m 122 #[.val (.int p1), .val (.int p2), .val (.ref b1), .val (.ref b14), .val (.int (1 : Int32)), .val (.int (1 : Int32)), .val (.int (0 : Int32))] [(.int (1 : Int32)), (.ref b1)])) rfl rfl (hb hby at_122)) ?_
        show own_Go _ _ _ _ T20 (mkF m 123 #[.val (.int p1), .val (.int p2), .val (.ref b1), .val (.ref b14), .val (.int (1 : Int32)), .val (.int (1 : Int32)), .val (.int (0 : Int32))] [(.ref w1)])
        refine own_st (fun _ k => XS.iloadN X20.here hx rfl (hb hby at_123) rfl k) ?_
        show own_Go _ _ _ _ T20 (mkF m 124 #[.val (.int p1), .val (.int p2), .val (.ref b1), .val (.ref b14), .val (.int (1 : Int32)), .val (.int (1 : Int32)), .val (.int (0 : Int32))] [(.int p2), (.ref w1)])
        obtain ⟨v25, T25, L25, hQ25, X25, st25⟩ := own_callV X20 hx hZ (y := (⟨"com/example/overflowstream/overflowstream/Query$Operator", "holds", "(I)Z"⟩ : MethodName)) hown (own_w18 hw) (own_w19 hw) (own_w21 hw) (own_w20 hw) (own_w3 hw) (own_w22 hw) (by decide) (own_hold1 l hw [] w1 p2 hp20 n0 (Nat.le_trans Z0 O20.1) (E1.ext O20) (Fo1.ext O20)) e20 (E1.ext O20) (g := (mkF m 124 #[.val (.int p1), .val (.int p2), .val (.ref b1), .val (.ref b14), .val (.int (1 : Int32)), .val (.int (1 : Int32)), .val (.int (0 : Int32))] [(.int p2), (.ref w1)])) rfl (by rw [hml]; rfl) (argsL := [(.int p2)]) (rest := []) (lenOf own_pd1 rfl) rfl rfl (W := 0) (Nat.le_of_eq rfl) (hb hby at_124) (by decide) (by decide) (by decide) (by decide)
        obtain ⟨rfl, N25, e25⟩ := hQ25
        have N25' := Fr.app N20 N25
        refine own_st st25 ?_
        show own_Go _ _ _ _ T25 (mkF m 127 #[.val (.int p1), .val (.int p2), .val (.ref b1), .val (.ref b14), .val (.int (1 : Int32)), .val (.int (1 : Int32)), .val (.int (0 : Int32))] [(.int (own_h1 p2))])
        refine own_st (fun _ k => XS.iload X25.here hx rfl (hb hby at_127) rfl k) ?_
        show own_Go _ _ _ _ T25 (mkF m 129 #[.val (.int p1), .val (.int p2), .val (.ref b1), .val (.ref b14), .val (.int (1 : Int32)), .val (.int (1 : Int32)), .val (.int (0 : Int32))] [(.int (0 : Int32)), (.int (own_h1 p2))])
        refine own_st (fun _ k => XS.icmpNo X25.here hx rfl (hb hby at_129) rfl (teq (by simp [own_h1, hz] : (own_h1 p2) = (0 : Int32))).2 k) ?_
        show own_Go _ _ _ _ T25 (mkF m 132 #[.val (.int p1), .val (.int p2), .val (.ref b1), .val (.ref b14), .val (.int (1 : Int32)), .val (.int (1 : Int32)), .val (.int (0 : Int32))] [])
        refine own_st (fun _ k => XS.iconst X25.here hx rfl (hb hby at_132) k) ?_
        show own_Go _ _ _ _ T25 (mkF m 133 #[.val (.int p1), .val (.int p2), .val (.ref b1), .val (.ref b14), .val (.int (1 : Int32)), .val (.int (1 : Int32)), .val (.int (0 : Int32))] [(.int (1 : Int32))])
        refine own_st (fun _ k => XS.goto X25.here hx rfl (pc0 := 133) (pc' := 137) rfl (hb hby at_133) (by decide) (by decide) k) ?_
        show own_Go _ _ _ _ T25 (mkF m 137 #[.val (.int p1), .val (.int p2), .val (.ref b1), .val (.ref b14), .val (.int (1 : Int32)), .val (.int (1 : Int32)), .val (.int (0 : Int32))] [(.int (1 : Int32))])
        exact own_retN X25 hx hret (by simp) hlk (hb hby at_137) ⟨rfl, N25'⟩ (by decide) (by decide)
      · refine own_st (fun _ k => XS.ifYes X20.here hx rfl (pc0 := 90) (pc' := 97) rfl (hb hby at_90) rfl ((if0 _ _).trans (feq (hz : ¬ (p2 = (0 : Int32)))).2) (by decide) (by decide) k) ?_
        show own_Go _ _ _ _ T20 (mkF m 97 #[.val (.int p1), .val (.int p2), .val (.ref b1), .val (.ref b14), .val (.int (1 : Int32)), .unset, .unset] [])
        have q2 := own_s2 hs hz
        show own_Go _ _ _ _ T20 (mkF m 97 #[.val (.int p1), .val (.int p2), .val (.ref b1), .val (.ref b14), .val (.int (1 : Int32)), .unset, .unset] [])
        refine own_st (fun _ k => XS.iconst X20.here hx rfl (hb hby at_97) k) ?_
        show own_Go _ _ _ _ T20 (mkF m 98 #[.val (.int p1), .val (.int p2), .val (.ref b1), .val (.ref b14), .val (.int (1 : Int32)), .unset, .unset] [(.int (2 : Int32))])
        refine own_st (fun _ k => XS.istore X20.here hx rfl (hb hby at_98) rfl (l' := #[.val (.int p1), .val (.int p2), .val (.ref b1), .val (.ref b14), .val (.int (1 : Int32)), .val (.int (2 : Int32)), .unset]) rfl k) ?_
        show own_Go _ _ _ _ T20 (mkF m 100 #[.val (.int p1), .val (.int p2), .val (.ref b1), .val (.ref b14), .val (.int (1 : Int32)), .val (.int (2 : Int32)), .unset] [])
        refine own_st (fun _ k => XS.aloadN X20.here hx rfl (hb hby at_100) rfl rfl k) ?_
        show own_Go _ _ _ _ T20 (mkF m 101 #[.val (.int p1), .val (.int p2), .val (.ref b1), .val (.ref b14), .val (.int (1 : Int32)), .val (.int (2 : Int32)), .unset] [(.ref b14)])
        refine own_st (fun _ k => XS.iload X20.here hx rfl (hb hby at_101) rfl k) ?_
        show own_Go _ _ _ _ T20 (mkF m 103 #[.val (.int p1), .val (.int p2), .val (.ref b1), .val (.ref b14), .val (.int (1 : Int32)), .val (.int (2 : Int32)), .unset] [(.int (1 : Int32)), (.ref b14)])
        refine own_st (own_ldI X20 hx hZ e20 Va20 (j := (1 : Int32)) (by decide) (v := (.int (5 : Int32))) rfl (g := (mkF m 103 #[.val (.int p1), .val (.int p2), .val (.ref b1), .val (.ref b14), .val (.int (1 : Int32)), .val (.int (2 : Int32)), .unset] [(.int (1 : Int32)), (.ref b14)])) rfl rfl (hb hby at_103)) ?_
        show own_Go _ _ _ _ T20 (mkF m 104 #[.val (.int p1), .val (.int p2), .val (.ref b1), .val (.ref b14), .val (.int (1 : Int32)), .val (.int (2 : Int32)), .unset] [(.int (5 : Int32))])
        refine own_st (fun _ k => XS.iload X20.here hx rfl (hb hby at_104) rfl k) ?_
        show own_Go _ _ _ _ T20 (mkF m 106 #[.val (.int p1), .val (.int p2), .val (.ref b1), .val (.ref b14), .val (.int (1 : Int32)), .val (.int (2 : Int32)), .unset] [(.int (2 : Int32)), (.int (5 : Int32))])
        refine own_st (fun _ k => XS.ishr X20.here hx rfl (hb hby at_106) rfl k) ?_
        show own_Go _ _ _ _ T20 (mkF m 107 #[.val (.int p1), .val (.int p2), .val (.ref b1), .val (.ref b14), .val (.int (1 : Int32)), .val (.int (2 : Int32)), .unset] [(.int ((5 : Int32) >>> ((2 : Int32) &&& 31)))])
        rw [show ((5 : Int32) >>> ((2 : Int32) &&& 31)) = (1 : Int32) from by decide]
        show own_Go _ _ _ _ T20 (mkF m 107 #[.val (.int p1), .val (.int p2), .val (.ref b1), .val (.ref b14), .val (.int (1 : Int32)), .val (.int (2 : Int32)), .unset] [(.int (1 : Int32))])
        refine own_st (fun _ k => XS.iconst X20.here hx rfl (hb hby at_107) k) ?_
        show own_Go _ _ _ _ T20 (mkF m 108 #[.val (.int p1), .val (.int p2), .val (.ref b1), .val (.ref b14), .val (.int (1 : Int32)), .val (.int (2 : Int32)), .unset] [(.int (1 : Int32)), (.int (1 : Int32))])
        refine own_st (fun _ k => XS.iand X20.here hx rfl (hb hby at_108) rfl k) ?_
        show own_Go _ _ _ _ T20 (mkF m 109 #[.val (.int p1), .val (.int p2), .val (.ref b1), .val (.ref b14), .val (.int (1 : Int32)), .val (.int (2 : Int32)), .unset] [(.int ((1 : Int32) &&& (1 : Int32)))])
        rw [show ((1 : Int32) &&& (1 : Int32)) = (1 : Int32) from by decide]
        show own_Go _ _ _ _ T20 (mkF m 109 #[.val (.int p1), .val (.int p2), .val (.ref b1), .val (.ref b14), .val (.int (1 : Int32)), .val (.int (2 : Int32)), .unset] [(.int (1 : Int32))])
        refine own_st (fun _ k => XS.ifNo X20.here hx rfl (hb hby at_109) rfl ((if0 _ _).trans (feq (by decide : ¬ ((1 : Int32) = (0 : Int32)))).1) k) ?_
        show own_Go _ _ _ _ T20 (mkF m 112 #[.val (.int p1), .val (.int p2), .val (.ref b1), .val (.ref b14), .val (.int (1 : Int32)), .val (.int (2 : Int32)), .unset] [])
        refine own_st (fun _ k => XS.iconst X20.here hx rfl (hb hby at_112) k) ?_
        show own_Go _ _ _ _ T20 (mkF m 113 #[.val (.int p1), .val (.int p2), .val (.ref b1), .val (.ref b14), .val (.int (1 : Int32)), .val (.int (2 : Int32)), .unset] [(.int (1 : Int32))])
        refine own_st (fun _ k => XS.goto X20.here hx rfl (pc0 := 113) (pc' := 117) rfl (hb hby at_113) (by decide) (by decide) k) ?_
        show own_Go _ _ _ _ T20 (mkF m 117 #[.val (.int p1), .val (.int p2), .val (.ref b1), .val (.ref b14), .val (.int (1 : Int32)), .val (.int (2 : Int32)), .unset] [(.int (1 : Int32))])
        refine own_st (fun _ k => XS.istore X20.here hx rfl (hb hby at_117) rfl (l' := #[.val (.int p1), .val (.int p2), .val (.ref b1), .val (.ref b14), .val (.int (1 : Int32)), .val (.int (2 : Int32)), .val (.int (1 : Int32))]) rfl k) ?_
        show own_Go _ _ _ _ T20 (mkF m 119 #[.val (.int p1), .val (.int p2), .val (.ref b1), .val (.ref b14), .val (.int (1 : Int32)), .val (.int (2 : Int32)), .val (.int (1 : Int32))] [])
        refine own_st (fun _ k => XS.aloadN X20.here hx rfl (hb hby at_119) rfl rfl k) ?_
        show own_Go _ _ _ _ T20 (mkF m 120 #[.val (.int p1), .val (.int p2), .val (.ref b1), .val (.ref b14), .val (.int (1 : Int32)), .val (.int (2 : Int32)), .val (.int (1 : Int32))] [(.ref b1)])
        refine own_st (fun _ k => XS.iload X20.here hx rfl (hb hby at_120) rfl k) ?_
        show own_Go _ _ _ _ T20 (mkF m 122 #[.val (.int p1), .val (.int p2), .val (.ref b1), .val (.ref b14), .val (.int (1 : Int32)), .val (.int (2 : Int32)), .val (.int (1 : Int32))] [(.int (1 : Int32)), (.ref b1)])
        refine own_st (own_ldR X20 hx hZ e20 V_b1_20 rfl (j := (1 : Int32)) (by decide) (v := (.ref w1)) rfl (g := (mkF m 122 #[.val (.int p1), .val (.int p2), .val (.ref b1), .val (.ref b14), .val (.int (1 : Int32)), .val (.int (2 : Int32)), .val (.int (1 : Int32))] [(.int (1 : Int32)), (.ref b1)])) rfl rfl (hb hby at_122)) ?_
        show own_Go _ _ _ _ T20 (mkF m 123 #[.val (.int p1), .val (.int p2), .val (.ref b1), .val (.ref b14), .val (.int (1 : Int32)), .val (.int (2 : Int32)), .val (.int (1 : Int32))] [(.ref w1)])
        refine own_st (fun _ k => XS.iloadN X20.here hx rfl (hb hby at_123) rfl k) ?_
        show own_Go _ _ _ _ T20 (mkF m 124 #[.val (.int p1), .val (.int p2), .val (.ref b1), .val (.ref b14), .val (.int (1 : Int32)), .val (.int (2 : Int32)), .val (.int (1 : Int32))] [(.int p2), (.ref w1)])
        obtain ⟨v26, T26, L26, hQ26, X26, st26⟩ := own_callV X20 hx hZ (y := (⟨"com/example/overflowstream/overflowstream/Query$Operator", "holds", "(I)Z"⟩ : MethodName)) hown (own_w18 hw) (own_w19 hw) (own_w21 hw) (own_w20 hw) (own_w3 hw) (own_w22 hw) (by decide) (own_hold1 l hw [] w1 p2 hp20 n0 (Nat.le_trans Z0 O20.1) (E1.ext O20) (Fo1.ext O20)) e20 (E1.ext O20) (g := (mkF m 124 #[.val (.int p1), .val (.int p2), .val (.ref b1), .val (.ref b14), .val (.int (1 : Int32)), .val (.int (2 : Int32)), .val (.int (1 : Int32))] [(.int p2), (.ref w1)])) rfl (by rw [hml]; rfl) (argsL := [(.int p2)]) (rest := []) (lenOf own_pd1 rfl) rfl rfl (W := 0) (Nat.le_of_eq rfl) (hb hby at_124) (by decide) (by decide) (by decide) (by decide)
        obtain ⟨rfl, N26, e26⟩ := hQ26
        have N26' := Fr.app N20 N26
        refine own_st st26 ?_
        show own_Go _ _ _ _ T26 (mkF m 127 #[.val (.int p1), .val (.int p2), .val (.ref b1), .val (.ref b14), .val (.int (1 : Int32)), .val (.int (2 : Int32)), .val (.int (1 : Int32))] [(.int (own_h1 p2))])
        refine own_st (fun _ k => XS.iload X26.here hx rfl (hb hby at_127) rfl k) ?_
        show own_Go _ _ _ _ T26 (mkF m 129 #[.val (.int p1), .val (.int p2), .val (.ref b1), .val (.ref b14), .val (.int (1 : Int32)), .val (.int (2 : Int32)), .val (.int (1 : Int32))] [(.int (1 : Int32)), (.int (own_h1 p2))])
        refine own_st (fun _ k => XS.icmpNo X26.here hx rfl (hb hby at_129) rfl (teq (by simp [own_h1, hs, hz, q2] : (own_h1 p2) = (1 : Int32))).2 k) ?_
        show own_Go _ _ _ _ T26 (mkF m 132 #[.val (.int p1), .val (.int p2), .val (.ref b1), .val (.ref b14), .val (.int (1 : Int32)), .val (.int (2 : Int32)), .val (.int (1 : Int32))] [])
        refine own_st (fun _ k => XS.iconst X26.here hx rfl (hb hby at_132) k) ?_
        show own_Go _ _ _ _ T26 (mkF m 133 #[.val (.int p1), .val (.int p2), .val (.ref b1), .val (.ref b14), .val (.int (1 : Int32)), .val (.int (2 : Int32)), .val (.int (1 : Int32))] [(.int (1 : Int32))])
        refine own_st (fun _ k => XS.goto X26.here hx rfl (pc0 := 133) (pc' := 137) rfl (hb hby at_133) (by decide) (by decide) k) ?_
        show own_Go _ _ _ _ T26 (mkF m 137 #[.val (.int p1), .val (.int p2), .val (.ref b1), .val (.ref b14), .val (.int (1 : Int32)), .val (.int (2 : Int32)), .val (.int (1 : Int32))] [(.int (1 : Int32))])
        exact own_retN X26 hx hret (by simp) hlk (hb hby at_137) ⟨rfl, N26'⟩ (by decide) (by decide)
  · rw [hi]
    show own_Go _ _ _ _ T20 (mkF m 81 #[.val (.int p1), .val (.int p2), .val (.ref b1), .val (.ref b14), .val (.int (2 : Int32)), .unset, .unset] [])
    refine own_st (fun _ k => XS.iloadN X20.here hx rfl (hb hby at_81) rfl k) ?_
    show own_Go _ _ _ _ T20 (mkF m 82 #[.val (.int p1), .val (.int p2), .val (.ref b1), .val (.ref b14), .val (.int (2 : Int32)), .unset, .unset] [(.int p2)])
    by_cases hs : p2 < (0 : Int32)
    · refine own_st (fun _ k => XS.ifNo X20.here hx rfl (hb hby at_82) rfl ((if0 _ _).trans (tlt (hs : p2 < (0 : Int32))).2.1) k) ?_
      show own_Go _ _ _ _ T20 (mkF m 85 #[.val (.int p1), .val (.int p2), .val (.ref b1), .val (.ref b14), .val (.int (2 : Int32)), .unset, .unset] [])
      have q1 := (own_s1 hs).1
      have q2 := (own_s1 hs).2
      show own_Go _ _ _ _ T20 (mkF m 85 #[.val (.int p1), .val (.int p2), .val (.ref b1), .val (.ref b14), .val (.int (2 : Int32)), .unset, .unset] [])
      refine own_st (fun _ k => XS.iconst X20.here hx rfl (hb hby at_85) k) ?_
      show own_Go _ _ _ _ T20 (mkF m 86 #[.val (.int p1), .val (.int p2), .val (.ref b1), .val (.ref b14), .val (.int (2 : Int32)), .unset, .unset] [(.int (0 : Int32))])
      refine own_st (fun _ k => XS.goto X20.here hx rfl (pc0 := 86) (pc' := 98) rfl (hb hby at_86) (by decide) (by decide) k) ?_
      show own_Go _ _ _ _ T20 (mkF m 98 #[.val (.int p1), .val (.int p2), .val (.ref b1), .val (.ref b14), .val (.int (2 : Int32)), .unset, .unset] [(.int (0 : Int32))])
      refine own_st (fun _ k => XS.istore X20.here hx rfl (hb hby at_98) rfl (l' := #[.val (.int p1), .val (.int p2), .val (.ref b1), .val (.ref b14), .val (.int (2 : Int32)), .val (.int (0 : Int32)), .unset]) rfl k) ?_
      show own_Go _ _ _ _ T20 (mkF m 100 #[.val (.int p1), .val (.int p2), .val (.ref b1), .val (.ref b14), .val (.int (2 : Int32)), .val (.int (0 : Int32)), .unset] [])
      refine own_st (fun _ k => XS.aloadN X20.here hx rfl (hb hby at_100) rfl rfl k) ?_
      show own_Go _ _ _ _ T20 (mkF m 101 #[.val (.int p1), .val (.int p2), .val (.ref b1), .val (.ref b14), .val (.int (2 : Int32)), .val (.int (0 : Int32)), .unset] [(.ref b14)])
      refine own_st (fun _ k => XS.iload X20.here hx rfl (hb hby at_101) rfl k) ?_
      show own_Go _ _ _ _ T20 (mkF m 103 #[.val (.int p1), .val (.int p2), .val (.ref b1), .val (.ref b14), .val (.int (2 : Int32)), .val (.int (0 : Int32)), .unset] [(.int (2 : Int32)), (.ref b14)])
      refine own_st (own_ldI X20 hx hZ e20 Va20 (j := (2 : Int32)) (by decide) (v := (.int (1 : Int32))) rfl (g := (mkF m 103 #[.val (.int p1), .val (.int p2), .val (.ref b1), .val (.ref b14), .val (.int (2 : Int32)), .val (.int (0 : Int32)), .unset] [(.int (2 : Int32)), (.ref b14)])) rfl rfl (hb hby at_103)) ?_
      show own_Go _ _ _ _ T20 (mkF m 104 #[.val (.int p1), .val (.int p2), .val (.ref b1), .val (.ref b14), .val (.int (2 : Int32)), .val (.int (0 : Int32)), .unset] [(.int (1 : Int32))])
      refine own_st (fun _ k => XS.iload X20.here hx rfl (hb hby at_104) rfl k) ?_
      show own_Go _ _ _ _ T20 (mkF m 106 #[.val (.int p1), .val (.int p2), .val (.ref b1), .val (.ref b14), .val (.int (2 : Int32)), .val (.int (0 : Int32)), .unset] [(.int (0 : Int32)), (.int (1 : Int32))])
      refine own_st (fun _ k => XS.ishr X20.here hx rfl (hb hby at_106) rfl k) ?_
      show own_Go _ _ _ _ T20 (mkF m 107 #[.val (.int p1), .val (.int p2), .val (.ref b1), .val (.ref b14), .val (.int (2 : Int32)), .val (.int (0 : Int32)), .unset] [(.int ((1 : Int32) >>> ((0 : Int32) &&& 31)))])
      rw [show ((1 : Int32) >>> ((0 : Int32) &&& 31)) = (1 : Int32) from by decide]
      show own_Go _ _ _ _ T20 (mkF m 107 #[.val (.int p1), .val (.int p2), .val (.ref b1), .val (.ref b14), .val (.int (2 : Int32)), .val (.int (0 : Int32)), .unset] [(.int (1 : Int32))])
      refine own_st (fun _ k => XS.iconst X20.here hx rfl (hb hby at_107) k) ?_
      show own_Go _ _ _ _ T20 (mkF m 108 #[.val (.int p1), .val (.int p2), .val (.ref b1), .val (.ref b14), .val (.int (2 : Int32)), .val (.int (0 : Int32)), .unset] [(.int (1 : Int32)), (.int (1 : Int32))])
      refine own_st (fun _ k => XS.iand X20.here hx rfl (hb hby at_108) rfl k) ?_
      show own_Go _ _ _ _ T20 (mkF m 109 #[.val (.int p1), .val (.int p2), .val (.ref b1), .val (.ref b14), .val (.int (2 : Int32)), .val (.int (0 : Int32)), .unset] [(.int ((1 : Int32) &&& (1 : Int32)))])
      rw [show ((1 : Int32) &&& (1 : Int32)) = (1 : Int32) from by decide]
      show own_Go _ _ _ _ T20 (mkF m 109 #[.val (.int p1), .val (.int p2), .val (.ref b1), .val (.ref b14), .val (.int (2 : Int32)), .val (.int (0 : Int32)), .unset] [(.int (1 : Int32))])
      refine own_st (fun _ k => XS.ifNo X20.here hx rfl (hb hby at_109) rfl ((if0 _ _).trans (feq (by decide : ¬ ((1 : Int32) = (0 : Int32)))).1) k) ?_
      show own_Go _ _ _ _ T20 (mkF m 112 #[.val (.int p1), .val (.int p2), .val (.ref b1), .val (.ref b14), .val (.int (2 : Int32)), .val (.int (0 : Int32)), .unset] [])
      refine own_st (fun _ k => XS.iconst X20.here hx rfl (hb hby at_112) k) ?_
      show own_Go _ _ _ _ T20 (mkF m 113 #[.val (.int p1), .val (.int p2), .val (.ref b1), .val (.ref b14), .val (.int (2 : Int32)), .val (.int (0 : Int32)), .unset] [(.int (1 : Int32))])
      refine own_st (fun _ k => XS.goto X20.here hx rfl (pc0 := 113) (pc' := 117) rfl (hb hby at_113) (by decide) (by decide) k) ?_
      show own_Go _ _ _ _ T20 (mkF m 117 #[.val (.int p1), .val (.int p2), .val (.ref b1), .val (.ref b14), .val (.int (2 : Int32)), .val (.int (0 : Int32)), .unset] [(.int (1 : Int32))])
      refine own_st (fun _ k => XS.istore X20.here hx rfl (hb hby at_117) rfl (l' := #[.val (.int p1), .val (.int p2), .val (.ref b1), .val (.ref b14), .val (.int (2 : Int32)), .val (.int (0 : Int32)), .val (.int (1 : Int32))]) rfl k) ?_
      show own_Go _ _ _ _ T20 (mkF m 119 #[.val (.int p1), .val (.int p2), .val (.ref b1), .val (.ref b14), .val (.int (2 : Int32)), .val (.int (0 : Int32)), .val (.int (1 : Int32))] [])
      refine own_st (fun _ k => XS.aloadN X20.here hx rfl (hb hby at_119) rfl rfl k) ?_
      show own_Go _ _ _ _ T20 (mkF m 120 #[.val (.int p1), .val (.int p2), .val (.ref b1), .val (.ref b14), .val (.int (2 : Int32)), .val (.int (0 : Int32)), .val (.int (1 : Int32))] [(.ref b1)])
      refine own_st (fun _ k => XS.iload X20.here hx rfl (hb hby at_120) rfl k) ?_
      show own_Go _ _ _ _ T20 (mkF m 122 #[.val (.int p1), .val (.int p2), .val (.ref b1), .val (.ref b14), .val (.int (2 : Int32)), .val (.int (0 : Int32)), .val (.int (1 : Int32))] [(.int (2 : Int32)), (.ref b1)])
      refine own_st (own_ldR X20 hx hZ e20 V_b1_20 rfl (j := (2 : Int32)) (by decide) (v := (.ref w2)) rfl (g := (mkF m 122 #[.val (.int p1), .val (.int p2), .val (.ref b1), .val (.ref b14), .val (.int (2 : Int32)), .val (.int (0 : Int32)), .val (.int (1 : Int32))] [(.int (2 : Int32)), (.ref b1)])) rfl rfl (hb hby at_122)) ?_
      show own_Go _ _ _ _ T20 (mkF m 123 #[.val (.int p1), .val (.int p2), .val (.ref b1), .val (.ref b14), .val (.int (2 : Int32)), .val (.int (0 : Int32)), .val (.int (1 : Int32))] [(.ref w2)])
      refine own_st (fun _ k => XS.iloadN X20.here hx rfl (hb hby at_123) rfl k) ?_
      show own_Go _ _ _ _ T20 (mkF m 124 #[.val (.int p1), .val (.int p2), .val (.ref b1), .val (.ref b14), .val (.int (2 : Int32)), .val (.int (0 : Int32)), .val (.int (1 : Int32))] [(.int p2), (.ref w2)])
      obtain ⟨v27, T27, L27, hQ27, X27, st27⟩ := own_callV X20 hx hZ (y := (⟨"com/example/overflowstream/overflowstream/Query$Operator", "holds", "(I)Z"⟩ : MethodName)) hown (own_w18 hw) (own_w19 hw) (own_w21 hw) (own_w20 hw) (own_w3 hw) (own_w22 hw) (by decide) (own_hold2 l hw [] w2 p2 hp20 n0 (Nat.le_trans Z0 O20.1) (E2.ext O20) (Fo2.ext O20)) e20 (E2.ext O20) (g := (mkF m 124 #[.val (.int p1), .val (.int p2), .val (.ref b1), .val (.ref b14), .val (.int (2 : Int32)), .val (.int (0 : Int32)), .val (.int (1 : Int32))] [(.int p2), (.ref w2)])) rfl (by rw [hml]; rfl) (argsL := [(.int p2)]) (rest := []) (lenOf own_pd1 rfl) rfl rfl (W := 0) (Nat.le_of_eq rfl) (hb hby at_124) (by decide) (by decide) (by decide) (by decide)
      obtain ⟨rfl, N27, e27⟩ := hQ27
      have N27' := Fr.app N20 N27
      refine own_st st27 ?_
      show own_Go _ _ _ _ T27 (mkF m 127 #[.val (.int p1), .val (.int p2), .val (.ref b1), .val (.ref b14), .val (.int (2 : Int32)), .val (.int (0 : Int32)), .val (.int (1 : Int32))] [(.int (own_h2 p2))])
      refine own_st (fun _ k => XS.iload X27.here hx rfl (hb hby at_127) rfl k) ?_
      show own_Go _ _ _ _ T27 (mkF m 129 #[.val (.int p1), .val (.int p2), .val (.ref b1), .val (.ref b14), .val (.int (2 : Int32)), .val (.int (0 : Int32)), .val (.int (1 : Int32))] [(.int (1 : Int32)), (.int (own_h2 p2))])
      refine own_st (fun _ k => XS.icmpNo X27.here hx rfl (hb hby at_129) rfl (teq (by simp [own_h2, hs, q1, q2] : (own_h2 p2) = (1 : Int32))).2 k) ?_
      show own_Go _ _ _ _ T27 (mkF m 132 #[.val (.int p1), .val (.int p2), .val (.ref b1), .val (.ref b14), .val (.int (2 : Int32)), .val (.int (0 : Int32)), .val (.int (1 : Int32))] [])
      refine own_st (fun _ k => XS.iconst X27.here hx rfl (hb hby at_132) k) ?_
      show own_Go _ _ _ _ T27 (mkF m 133 #[.val (.int p1), .val (.int p2), .val (.ref b1), .val (.ref b14), .val (.int (2 : Int32)), .val (.int (0 : Int32)), .val (.int (1 : Int32))] [(.int (1 : Int32))])
      refine own_st (fun _ k => XS.goto X27.here hx rfl (pc0 := 133) (pc' := 137) rfl (hb hby at_133) (by decide) (by decide) k) ?_
      show own_Go _ _ _ _ T27 (mkF m 137 #[.val (.int p1), .val (.int p2), .val (.ref b1), .val (.ref b14), .val (.int (2 : Int32)), .val (.int (0 : Int32)), .val (.int (1 : Int32))] [(.int (1 : Int32))])
      exact own_retN X27 hx hret (by simp) hlk (hb hby at_137) ⟨rfl, N27'⟩ (by decide) (by decide)
    · refine own_st (fun _ k => XS.ifYes X20.here hx rfl (pc0 := 82) (pc' := 89) rfl (hb hby at_82) rfl ((if0 _ _).trans (flt (hs : ¬ (p2 < (0 : Int32)))).2.1) (by decide) (by decide) k) ?_
      show own_Go _ _ _ _ T20 (mkF m 89 #[.val (.int p1), .val (.int p2), .val (.ref b1), .val (.ref b14), .val (.int (2 : Int32)), .unset, .unset] [])
      refine own_st (fun _ k => XS.iloadN X20.here hx rfl (hb hby at_89) rfl k) ?_
      show own_Go _ _ _ _ T20 (mkF m 90 #[.val (.int p1), .val (.int p2), .val (.ref b1), .val (.ref b14), .val (.int (2 : Int32)), .unset, .unset] [(.int p2)])
      by_cases hz : p2 = (0 : Int32)
      · refine own_st (fun _ k => XS.ifNo X20.here hx rfl (hb hby at_90) rfl ((if0 _ _).trans (teq (hz : p2 = (0 : Int32))).2) k) ?_
        show own_Go _ _ _ _ T20 (mkF m 93 #[.val (.int p1), .val (.int p2), .val (.ref b1), .val (.ref b14), .val (.int (2 : Int32)), .unset, .unset] [])
        have q2 : ¬ (0 : Int32) < p2 := by rw [hz]; decide
        have q3 : ¬ p2 < (0 : Int32) := by rw [hz]; decide
        show own_Go _ _ _ _ T20 (mkF m 93 #[.val (.int p1), .val (.int p2), .val (.ref b1), .val (.ref b14), .val (.int (2 : Int32)), .unset, .unset] [])
        refine own_st (fun _ k => XS.iconst X20.here hx rfl (hb hby at_93) k) ?_
        show own_Go _ _ _ _ T20 (mkF m 94 #[.val (.int p1), .val (.int p2), .val (.ref b1), .val (.ref b14), .val (.int (2 : Int32)), .unset, .unset] [(.int (1 : Int32))])
        refine own_st (fun _ k => XS.goto X20.here hx rfl (pc0 := 94) (pc' := 98) rfl (hb hby at_94) (by decide) (by decide) k) ?_
        show own_Go _ _ _ _ T20 (mkF m 98 #[.val (.int p1), .val (.int p2), .val (.ref b1), .val (.ref b14), .val (.int (2 : Int32)), .unset, .unset] [(.int (1 : Int32))])
        refine own_st (fun _ k => XS.istore X20.here hx rfl (hb hby at_98) rfl (l' := #[.val (.int p1), .val (.int p2), .val (.ref b1), .val (.ref b14), .val (.int (2 : Int32)), .val (.int (1 : Int32)), .unset]) rfl k) ?_
        show own_Go _ _ _ _ T20 (mkF m 100 #[.val (.int p1), .val (.int p2), .val (.ref b1), .val (.ref b14), .val (.int (2 : Int32)), .val (.int (1 : Int32)), .unset] [])
        refine own_st (fun _ k => XS.aloadN X20.here hx rfl (hb hby at_100) rfl rfl k) ?_
        show own_Go _ _ _ _ T20 (mkF m 101 #[.val (.int p1), .val (.int p2), .val (.ref b1), .val (.ref b14), .val (.int (2 : Int32)), .val (.int (1 : Int32)), .unset] [(.ref b14)])
        refine own_st (fun _ k => XS.iload X20.here hx rfl (hb hby at_101) rfl k) ?_
        show own_Go _ _ _ _ T20 (mkF m 103 #[.val (.int p1), .val (.int p2), .val (.ref b1), .val (.ref b14), .val (.int (2 : Int32)), .val (.int (1 : Int32)), .unset] [(.int (2 : Int32)), (.ref b14)])
        refine own_st (own_ldI X20 hx hZ e20 Va20 (j := (2 : Int32)) (by decide) (v := (.int (1 : Int32))) rfl (g := (mkF m 103 #[.val (.int p1), .val (.int p2), .val (.ref b1), .val (.ref b14), .val (.int (2 : Int32)), .val (.int (1 : Int32)), .unset] [(.int (2 : Int32)), (.ref b14)])) rfl rfl (hb hby at_103)) ?_
        show own_Go _ _ _ _ T20 (mkF m 104 #[.val (.int p1), .val (.int p2), .val (.ref b1), .val (.ref b14), .val (.int (2 : Int32)), .val (.int (1 : Int32)), .unset] [(.int (1 : Int32))])
        refine own_st (fun _ k => XS.iload X20.here hx rfl (hb hby at_104) rfl k) ?_
        show own_Go _ _ _ _ T20 (mkF m 106 #[.val (.int p1), .val (.int p2), .val (.ref b1), .val (.ref b14), .val (.int (2 : Int32)), .val (.int (1 : Int32)), .unset] [(.int (1 : Int32)), (.int (1 : Int32))])
        refine own_st (fun _ k => XS.ishr X20.here hx rfl (hb hby at_106) rfl k) ?_
        show own_Go _ _ _ _ T20 (mkF m 107 #[.val (.int p1), .val (.int p2), .val (.ref b1), .val (.ref b14), .val (.int (2 : Int32)), .val (.int (1 : Int32)), .unset] [(.int ((1 : Int32) >>> ((1 : Int32) &&& 31)))])
        rw [show ((1 : Int32) >>> ((1 : Int32) &&& 31)) = (0 : Int32) from by decide]
        show own_Go _ _ _ _ T20 (mkF m 107 #[.val (.int p1), .val (.int p2), .val (.ref b1), .val (.ref b14), .val (.int (2 : Int32)), .val (.int (1 : Int32)), .unset] [(.int (0 : Int32))])
        refine own_st (fun _ k => XS.iconst X20.here hx rfl (hb hby at_107) k) ?_
        show own_Go _ _ _ _ T20 (mkF m 108 #[.val (.int p1), .val (.int p2), .val (.ref b1), .val (.ref b14), .val (.int (2 : Int32)), .val (.int (1 : Int32)), .unset] [(.int (1 : Int32)), (.int (0 : Int32))])
        refine own_st (fun _ k => XS.iand X20.here hx rfl (hb hby at_108) rfl k) ?_
        show own_Go _ _ _ _ T20 (mkF m 109 #[.val (.int p1), .val (.int p2), .val (.ref b1), .val (.ref b14), .val (.int (2 : Int32)), .val (.int (1 : Int32)), .unset] [(.int ((0 : Int32) &&& (1 : Int32)))])
        rw [show ((0 : Int32) &&& (1 : Int32)) = (0 : Int32) from by decide]
        show own_Go _ _ _ _ T20 (mkF m 109 #[.val (.int p1), .val (.int p2), .val (.ref b1), .val (.ref b14), .val (.int (2 : Int32)), .val (.int (1 : Int32)), .unset] [(.int (0 : Int32))])
        refine own_st (fun _ k => XS.ifYes X20.here hx rfl (pc0 := 109) (pc' := 116) rfl (hb hby at_109) rfl ((if0 _ _).trans (teq (by decide : (0 : Int32) = (0 : Int32))).1) (by decide) (by decide) k) ?_
        show own_Go _ _ _ _ T20 (mkF m 116 #[.val (.int p1), .val (.int p2), .val (.ref b1), .val (.ref b14), .val (.int (2 : Int32)), .val (.int (1 : Int32)), .unset] [])
        refine own_st (fun _ k => XS.iconst X20.here hx rfl (hb hby at_116) k) ?_
        show own_Go _ _ _ _ T20 (mkF m 117 #[.val (.int p1), .val (.int p2), .val (.ref b1), .val (.ref b14), .val (.int (2 : Int32)), .val (.int (1 : Int32)), .unset] [(.int (0 : Int32))])
        refine own_st (fun _ k => XS.istore X20.here hx rfl (hb hby at_117) rfl (l' := #[.val (.int p1), .val (.int p2), .val (.ref b1), .val (.ref b14), .val (.int (2 : Int32)), .val (.int (1 : Int32)), .val (.int (0 : Int32))]) rfl k) ?_
        show own_Go _ _ _ _ T20 (mkF m 119 #[.val (.int p1), .val (.int p2), .val (.ref b1), .val (.ref b14), .val (.int (2 : Int32)), .val (.int (1 : Int32)), .val (.int (0 : Int32))] [])
        refine own_st (fun _ k => XS.aloadN X20.here hx rfl (hb hby at_119) rfl rfl k) ?_
        show own_Go _ _ _ _ T20 (mkF m 120 #[.val (.int p1), .val (.int p2), .val (.ref b1), .val (.ref b14), .val (.int (2 : Int32)), .val (.int (1 : Int32)), .val (.int (0 : Int32))] [(.ref b1)])
        refine own_st (fun _ k => XS.iload X20.here hx rfl (hb hby at_120) rfl k) ?_
        show own_Go _ _ _ _ T20 (mkF m 122 #[.val (.int p1), .val (.int p2), .val (.ref b1), .val (.ref b14), .val (.int (2 : Int32)), .val (.int (1 : Int32)), .val (.int (0 : Int32))] [(.int (2 : Int32)), (.ref b1)])
        refine own_st (own_ldR X20 hx hZ e20 V_b1_20 rfl (j := (2 : Int32)) (by decide) (v := (.ref w2)) rfl (g := (mkF m 122 #[.val (.int p1), .val (.int p2), .val (.ref b1), .val (.ref b14), .val (.int (2 : Int32)), .val (.int (1 : Int32)), .val (.int (0 : Int32))] [(.int (2 : Int32)), (.ref b1)])) rfl rfl (hb hby at_122)) ?_
        show own_Go _ _ _ _ T20 (mkF m 123 #[.val (.int p1), .val (.int p2), .val (.ref b1), .val (.ref b14), .val (.int (2 : Int32)), .val (.int (1 : Int32)), .val (.int (0 : Int32))] [(.ref w2)])
        refine own_st (fun _ k => XS.iloadN X20.here hx rfl (hb hby at_123) rfl k) ?_
        show own_Go _ _ _ _ T20 (mkF m 124 #[.val (.int p1), .val (.int p2), .val (.ref b1), .val (.ref b14), .val (.int (2 : Int32)), .val (.int (1 : Int32)), .val (.int (0 : Int32))] [(.int p2), (.ref w2)])
        obtain ⟨v28, T28, L28, hQ28, X28, st28⟩ := own_callV X20 hx hZ (y := (⟨"com/example/overflowstream/overflowstream/Query$Operator", "holds", "(I)Z"⟩ : MethodName)) hown (own_w18 hw) (own_w19 hw) (own_w21 hw) (own_w20 hw) (own_w3 hw) (own_w22 hw) (by decide) (own_hold2 l hw [] w2 p2 hp20 n0 (Nat.le_trans Z0 O20.1) (E2.ext O20) (Fo2.ext O20)) e20 (E2.ext O20) (g := (mkF m 124 #[.val (.int p1), .val (.int p2), .val (.ref b1), .val (.ref b14), .val (.int (2 : Int32)), .val (.int (1 : Int32)), .val (.int (0 : Int32))] [(.int p2), (.ref w2)])) rfl (by rw [hml]; rfl) (argsL := [(.int p2)]) (rest := []) (lenOf own_pd1 rfl) rfl rfl (W := 0) (Nat.le_of_eq rfl) (hb hby at_124) (by decide) (by decide) (by decide) (by decide)
        obtain ⟨rfl, N28, e28⟩ := hQ28
        have N28' := Fr.app N20 N28
        refine own_st st28 ?_
        show own_Go _ _ _ _ T28 (mkF m 127 #[.val (.int p1), .val (.int p2), .val (.ref b1), .val (.ref b14), .val (.int (2 : Int32)), .val (.int (1 : Int32)), .val (.int (0 : Int32))] [(.int (own_h2 p2))])
        refine own_st (fun _ k => XS.iload X28.here hx rfl (hb hby at_127) rfl k) ?_
        show own_Go _ _ _ _ T28 (mkF m 129 #[.val (.int p1), .val (.int p2), .val (.ref b1), .val (.ref b14), .val (.int (2 : Int32)), .val (.int (1 : Int32)), .val (.int (0 : Int32))] [(.int (0 : Int32)), (.int (own_h2 p2))])
        refine own_st (fun _ k => XS.icmpNo X28.here hx rfl (hb hby at_129) rfl (teq (by simp [own_h2, hz] : (own_h2 p2) = (0 : Int32))).2 k) ?_
        show own_Go _ _ _ _ T28 (mkF m 132 #[.val (.int p1), .val (.int p2), .val (.ref b1), .val (.ref b14), .val (.int (2 : Int32)), .val (.int (1 : Int32)), .val (.int (0 : Int32))] [])
        refine own_st (fun _ k => XS.iconst X28.here hx rfl (hb hby at_132) k) ?_
        show own_Go _ _ _ _ T28 (mkF m 133 #[.val (.int p1), .val (.int p2), .val (.ref b1), .val (.ref b14), .val (.int (2 : Int32)), .val (.int (1 : Int32)), .val (.int (0 : Int32))] [(.int (1 : Int32))])
        refine own_st (fun _ k => XS.goto X28.here hx rfl (pc0 := 133) (pc' := 137) rfl (hb hby at_133) (by decide) (by decide) k) ?_
        show own_Go _ _ _ _ T28 (mkF m 137 #[.val (.int p1), .val (.int p2), .val (.ref b1), .val (.ref b14), .val (.int (2 : Int32)), .val (.int (1 : Int32)), .val (.int (0 : Int32))] [(.int (1 : Int32))])
        exact own_retN X28 hx hret (by simp) hlk (hb hby at_137) ⟨rfl, N28'⟩ (by decide) (by decide)
      · refine own_st (fun _ k => XS.ifYes X20.here hx rfl (pc0 := 90) (pc' := 97) rfl (hb hby at_90) rfl ((if0 _ _).trans (feq (hz : ¬ (p2 = (0 : Int32)))).2) (by decide) (by decide) k) ?_
        show own_Go _ _ _ _ T20 (mkF m 97 #[.val (.int p1), .val (.int p2), .val (.ref b1), .val (.ref b14), .val (.int (2 : Int32)), .unset, .unset] [])
        have q2 := own_s2 hs hz
        show own_Go _ _ _ _ T20 (mkF m 97 #[.val (.int p1), .val (.int p2), .val (.ref b1), .val (.ref b14), .val (.int (2 : Int32)), .unset, .unset] [])
        refine own_st (fun _ k => XS.iconst X20.here hx rfl (hb hby at_97) k) ?_
        show own_Go _ _ _ _ T20 (mkF m 98 #[.val (.int p1), .val (.int p2), .val (.ref b1), .val (.ref b14), .val (.int (2 : Int32)), .unset, .unset] [(.int (2 : Int32))])
        refine own_st (fun _ k => XS.istore X20.here hx rfl (hb hby at_98) rfl (l' := #[.val (.int p1), .val (.int p2), .val (.ref b1), .val (.ref b14), .val (.int (2 : Int32)), .val (.int (2 : Int32)), .unset]) rfl k) ?_
        show own_Go _ _ _ _ T20 (mkF m 100 #[.val (.int p1), .val (.int p2), .val (.ref b1), .val (.ref b14), .val (.int (2 : Int32)), .val (.int (2 : Int32)), .unset] [])
        refine own_st (fun _ k => XS.aloadN X20.here hx rfl (hb hby at_100) rfl rfl k) ?_
        show own_Go _ _ _ _ T20 (mkF m 101 #[.val (.int p1), .val (.int p2), .val (.ref b1), .val (.ref b14), .val (.int (2 : Int32)), .val (.int (2 : Int32)), .unset] [(.ref b14)])
        refine own_st (fun _ k => XS.iload X20.here hx rfl (hb hby at_101) rfl k) ?_
        show own_Go _ _ _ _ T20 (mkF m 103 #[.val (.int p1), .val (.int p2), .val (.ref b1), .val (.ref b14), .val (.int (2 : Int32)), .val (.int (2 : Int32)), .unset] [(.int (2 : Int32)), (.ref b14)])
        refine own_st (own_ldI X20 hx hZ e20 Va20 (j := (2 : Int32)) (by decide) (v := (.int (1 : Int32))) rfl (g := (mkF m 103 #[.val (.int p1), .val (.int p2), .val (.ref b1), .val (.ref b14), .val (.int (2 : Int32)), .val (.int (2 : Int32)), .unset] [(.int (2 : Int32)), (.ref b14)])) rfl rfl (hb hby at_103)) ?_
        show own_Go _ _ _ _ T20 (mkF m 104 #[.val (.int p1), .val (.int p2), .val (.ref b1), .val (.ref b14), .val (.int (2 : Int32)), .val (.int (2 : Int32)), .unset] [(.int (1 : Int32))])
        refine own_st (fun _ k => XS.iload X20.here hx rfl (hb hby at_104) rfl k) ?_
        show own_Go _ _ _ _ T20 (mkF m 106 #[.val (.int p1), .val (.int p2), .val (.ref b1), .val (.ref b14), .val (.int (2 : Int32)), .val (.int (2 : Int32)), .unset] [(.int (2 : Int32)), (.int (1 : Int32))])
        refine own_st (fun _ k => XS.ishr X20.here hx rfl (hb hby at_106) rfl k) ?_
        show own_Go _ _ _ _ T20 (mkF m 107 #[.val (.int p1), .val (.int p2), .val (.ref b1), .val (.ref b14), .val (.int (2 : Int32)), .val (.int (2 : Int32)), .unset] [(.int ((1 : Int32) >>> ((2 : Int32) &&& 31)))])
        rw [show ((1 : Int32) >>> ((2 : Int32) &&& 31)) = (0 : Int32) from by decide]
        show own_Go _ _ _ _ T20 (mkF m 107 #[.val (.int p1), .val (.int p2), .val (.ref b1), .val (.ref b14), .val (.int (2 : Int32)), .val (.int (2 : Int32)), .unset] [(.int (0 : Int32))])
        refine own_st (fun _ k => XS.iconst X20.here hx rfl (hb hby at_107) k) ?_
        show own_Go _ _ _ _ T20 (mkF m 108 #[.val (.int p1), .val (.int p2), .val (.ref b1), .val (.ref b14), .val (.int (2 : Int32)), .val (.int (2 : Int32)), .unset] [(.int (1 : Int32)), (.int (0 : Int32))])
        refine own_st (fun _ k => XS.iand X20.here hx rfl (hb hby at_108) rfl k) ?_
        show own_Go _ _ _ _ T20 (mkF m 109 #[.val (.int p1), .val (.int p2), .val (.ref b1), .val (.ref b14), .val (.int (2 : Int32)), .val (.int (2 : Int32)), .unset] [(.int ((0 : Int32) &&& (1 : Int32)))])
        rw [show ((0 : Int32) &&& (1 : Int32)) = (0 : Int32) from by decide]
        show own_Go _ _ _ _ T20 (mkF m 109 #[.val (.int p1), .val (.int p2), .val (.ref b1), .val (.ref b14), .val (.int (2 : Int32)), .val (.int (2 : Int32)), .unset] [(.int (0 : Int32))])
        refine own_st (fun _ k => XS.ifYes X20.here hx rfl (pc0 := 109) (pc' := 116) rfl (hb hby at_109) rfl ((if0 _ _).trans (teq (by decide : (0 : Int32) = (0 : Int32))).1) (by decide) (by decide) k) ?_
        show own_Go _ _ _ _ T20 (mkF m 116 #[.val (.int p1), .val (.int p2), .val (.ref b1), .val (.ref b14), .val (.int (2 : Int32)), .val (.int (2 : Int32)), .unset] [])
        refine own_st (fun _ k => XS.iconst X20.here hx rfl (hb hby at_116) k) ?_
        show own_Go _ _ _ _ T20 (mkF m 117 #[.val (.int p1), .val (.int p2), .val (.ref b1), .val (.ref b14), .val (.int (2 : Int32)), .val (.int (2 : Int32)), .unset] [(.int (0 : Int32))])
        refine own_st (fun _ k => XS.istore X20.here hx rfl (hb hby at_117) rfl (l' := #[.val (.int p1), .val (.int p2), .val (.ref b1), .val (.ref b14), .val (.int (2 : Int32)), .val (.int (2 : Int32)), .val (.int (0 : Int32))]) rfl k) ?_
        show own_Go _ _ _ _ T20 (mkF m 119 #[.val (.int p1), .val (.int p2), .val (.ref b1), .val (.ref b14), .val (.int (2 : Int32)), .val (.int (2 : Int32)), .val (.int (0 : Int32))] [])
        refine own_st (fun _ k => XS.aloadN X20.here hx rfl (hb hby at_119) rfl rfl k) ?_
        show own_Go _ _ _ _ T20 (mkF m 120 #[.val (.int p1), .val (.int p2), .val (.ref b1), .val (.ref b14), .val (.int (2 : Int32)), .val (.int (2 : Int32)), .val (.int (0 : Int32))] [(.ref b1)])
        refine own_st (fun _ k => XS.iload X20.here hx rfl (hb hby at_120) rfl k) ?_
        show own_Go _ _ _ _ T20 (mkF m 122 #[.val (.int p1), .val (.int p2), .val (.ref b1), .val (.ref b14), .val (.int (2 : Int32)), .val (.int (2 : Int32)), .val (.int (0 : Int32))] [(.int (2 : Int32)), (.ref b1)])
        refine own_st (own_ldR X20 hx hZ e20 V_b1_20 rfl (j := (2 : Int32)) (by decide) (v := (.ref w2)) rfl (g := (mkF m 122 #[.val (.int p1), .val (.int p2), .val (.ref b1), .val (.ref b14), .val (.int (2 : Int32)), .val (.int (2 : Int32)), .val (.int (0 : Int32))] [(.int (2 : Int32)), (.ref b1)])) rfl rfl (hb hby at_122)) ?_
        show own_Go _ _ _ _ T20 (mkF m 123 #[.val (.int p1), .val (.int p2), .val (.ref b1), .val (.ref b14), .val (.int (2 : Int32)), .val (.int (2 : Int32)), .val (.int (0 : Int32))] [(.ref w2)])
        refine own_st (fun _ k => XS.iloadN X20.here hx rfl (hb hby at_123) rfl k) ?_
        show own_Go _ _ _ _ T20 (mkF m 124 #[.val (.int p1), .val (.int p2), .val (.ref b1), .val (.ref b14), .val (.int (2 : Int32)), .val (.int (2 : Int32)), .val (.int (0 : Int32))] [(.int p2), (.ref w2)])
        obtain ⟨v29, T29, L29, hQ29, X29, st29⟩ := own_callV X20 hx hZ (y := (⟨"com/example/overflowstream/overflowstream/Query$Operator", "holds", "(I)Z"⟩ : MethodName)) hown (own_w18 hw) (own_w19 hw) (own_w21 hw) (own_w20 hw) (own_w3 hw) (own_w22 hw) (by decide) (own_hold2 l hw [] w2 p2 hp20 n0 (Nat.le_trans Z0 O20.1) (E2.ext O20) (Fo2.ext O20)) e20 (E2.ext O20) (g := (mkF m 124 #[.val (.int p1), .val (.int p2), .val (.ref b1), .val (.ref b14), .val (.int (2 : Int32)), .val (.int (2 : Int32)), .val (.int (0 : Int32))] [(.int p2), (.ref w2)])) rfl (by rw [hml]; rfl) (argsL := [(.int p2)]) (rest := []) (lenOf own_pd1 rfl) rfl rfl (W := 0) (Nat.le_of_eq rfl) (hb hby at_124) (by decide) (by decide) (by decide) (by decide)
        obtain ⟨rfl, N29, e29⟩ := hQ29
        have N29' := Fr.app N20 N29
        refine own_st st29 ?_
        show own_Go _ _ _ _ T29 (mkF m 127 #[.val (.int p1), .val (.int p2), .val (.ref b1), .val (.ref b14), .val (.int (2 : Int32)), .val (.int (2 : Int32)), .val (.int (0 : Int32))] [(.int (own_h2 p2))])
        refine own_st (fun _ k => XS.iload X29.here hx rfl (hb hby at_127) rfl k) ?_
        show own_Go _ _ _ _ T29 (mkF m 129 #[.val (.int p1), .val (.int p2), .val (.ref b1), .val (.ref b14), .val (.int (2 : Int32)), .val (.int (2 : Int32)), .val (.int (0 : Int32))] [(.int (0 : Int32)), (.int (own_h2 p2))])
        refine own_st (fun _ k => XS.icmpNo X29.here hx rfl (hb hby at_129) rfl (teq (by simp [own_h2, hs, hz, q2] : (own_h2 p2) = (0 : Int32))).2 k) ?_
        show own_Go _ _ _ _ T29 (mkF m 132 #[.val (.int p1), .val (.int p2), .val (.ref b1), .val (.ref b14), .val (.int (2 : Int32)), .val (.int (2 : Int32)), .val (.int (0 : Int32))] [])
        refine own_st (fun _ k => XS.iconst X29.here hx rfl (hb hby at_132) k) ?_
        show own_Go _ _ _ _ T29 (mkF m 133 #[.val (.int p1), .val (.int p2), .val (.ref b1), .val (.ref b14), .val (.int (2 : Int32)), .val (.int (2 : Int32)), .val (.int (0 : Int32))] [(.int (1 : Int32))])
        refine own_st (fun _ k => XS.goto X29.here hx rfl (pc0 := 133) (pc' := 137) rfl (hb hby at_133) (by decide) (by decide) k) ?_
        show own_Go _ _ _ _ T29 (mkF m 137 #[.val (.int p1), .val (.int p2), .val (.ref b1), .val (.ref b14), .val (.int (2 : Int32)), .val (.int (2 : Int32)), .val (.int (0 : Int32))] [(.int (1 : Int32))])
        exact own_retN X29 hx hret (by simp) hlk (hb hby at_137) ⟨rfl, N29'⟩ (by decide) (by decide)
  · rw [hi]
    show own_Go _ _ _ _ T20 (mkF m 81 #[.val (.int p1), .val (.int p2), .val (.ref b1), .val (.ref b14), .val (.int (3 : Int32)), .unset, .unset] [])
    refine own_st (fun _ k => XS.iloadN X20.here hx rfl (hb hby at_81) rfl k) ?_
    show own_Go _ _ _ _ T20 (mkF m 82 #[.val (.int p1), .val (.int p2), .val (.ref b1), .val (.ref b14), .val (.int (3 : Int32)), .unset, .unset] [(.int p2)])
    by_cases hs : p2 < (0 : Int32)
    · refine own_st (fun _ k => XS.ifNo X20.here hx rfl (hb hby at_82) rfl ((if0 _ _).trans (tlt (hs : p2 < (0 : Int32))).2.1) k) ?_
      show own_Go _ _ _ _ T20 (mkF m 85 #[.val (.int p1), .val (.int p2), .val (.ref b1), .val (.ref b14), .val (.int (3 : Int32)), .unset, .unset] [])
      have q1 := (own_s1 hs).1
      have q2 := (own_s1 hs).2
      show own_Go _ _ _ _ T20 (mkF m 85 #[.val (.int p1), .val (.int p2), .val (.ref b1), .val (.ref b14), .val (.int (3 : Int32)), .unset, .unset] [])
      refine own_st (fun _ k => XS.iconst X20.here hx rfl (hb hby at_85) k) ?_
      show own_Go _ _ _ _ T20 (mkF m 86 #[.val (.int p1), .val (.int p2), .val (.ref b1), .val (.ref b14), .val (.int (3 : Int32)), .unset, .unset] [(.int (0 : Int32))])
      refine own_st (fun _ k => XS.goto X20.here hx rfl (pc0 := 86) (pc' := 98) rfl (hb hby at_86) (by decide) (by decide) k) ?_
      show own_Go _ _ _ _ T20 (mkF m 98 #[.val (.int p1), .val (.int p2), .val (.ref b1), .val (.ref b14), .val (.int (3 : Int32)), .unset, .unset] [(.int (0 : Int32))])
      refine own_st (fun _ k => XS.istore X20.here hx rfl (hb hby at_98) rfl (l' := #[.val (.int p1), .val (.int p2), .val (.ref b1), .val (.ref b14), .val (.int (3 : Int32)), .val (.int (0 : Int32)), .unset]) rfl k) ?_
      show own_Go _ _ _ _ T20 (mkF m 100 #[.val (.int p1), .val (.int p2), .val (.ref b1), .val (.ref b14), .val (.int (3 : Int32)), .val (.int (0 : Int32)), .unset] [])
      refine own_st (fun _ k => XS.aloadN X20.here hx rfl (hb hby at_100) rfl rfl k) ?_
      show own_Go _ _ _ _ T20 (mkF m 101 #[.val (.int p1), .val (.int p2), .val (.ref b1), .val (.ref b14), .val (.int (3 : Int32)), .val (.int (0 : Int32)), .unset] [(.ref b14)])
      refine own_st (fun _ k => XS.iload X20.here hx rfl (hb hby at_101) rfl k) ?_
      show own_Go _ _ _ _ T20 (mkF m 103 #[.val (.int p1), .val (.int p2), .val (.ref b1), .val (.ref b14), .val (.int (3 : Int32)), .val (.int (0 : Int32)), .unset] [(.int (3 : Int32)), (.ref b14)])
      refine own_st (own_ldI X20 hx hZ e20 Va20 (j := (3 : Int32)) (by decide) (v := (.int (3 : Int32))) rfl (g := (mkF m 103 #[.val (.int p1), .val (.int p2), .val (.ref b1), .val (.ref b14), .val (.int (3 : Int32)), .val (.int (0 : Int32)), .unset] [(.int (3 : Int32)), (.ref b14)])) rfl rfl (hb hby at_103)) ?_
      show own_Go _ _ _ _ T20 (mkF m 104 #[.val (.int p1), .val (.int p2), .val (.ref b1), .val (.ref b14), .val (.int (3 : Int32)), .val (.int (0 : Int32)), .unset] [(.int (3 : Int32))])
      refine own_st (fun _ k => XS.iload X20.here hx rfl (hb hby at_104) rfl k) ?_
      show own_Go _ _ _ _ T20 (mkF m 106 #[.val (.int p1), .val (.int p2), .val (.ref b1), .val (.ref b14), .val (.int (3 : Int32)), .val (.int (0 : Int32)), .unset] [(.int (0 : Int32)), (.int (3 : Int32))])
      refine own_st (fun _ k => XS.ishr X20.here hx rfl (hb hby at_106) rfl k) ?_
      show own_Go _ _ _ _ T20 (mkF m 107 #[.val (.int p1), .val (.int p2), .val (.ref b1), .val (.ref b14), .val (.int (3 : Int32)), .val (.int (0 : Int32)), .unset] [(.int ((3 : Int32) >>> ((0 : Int32) &&& 31)))])
      rw [show ((3 : Int32) >>> ((0 : Int32) &&& 31)) = (3 : Int32) from by decide]
      show own_Go _ _ _ _ T20 (mkF m 107 #[.val (.int p1), .val (.int p2), .val (.ref b1), .val (.ref b14), .val (.int (3 : Int32)), .val (.int (0 : Int32)), .unset] [(.int (3 : Int32))])
      refine own_st (fun _ k => XS.iconst X20.here hx rfl (hb hby at_107) k) ?_
      show own_Go _ _ _ _ T20 (mkF m 108 #[.val (.int p1), .val (.int p2), .val (.ref b1), .val (.ref b14), .val (.int (3 : Int32)), .val (.int (0 : Int32)), .unset] [(.int (1 : Int32)), (.int (3 : Int32))])
      refine own_st (fun _ k => XS.iand X20.here hx rfl (hb hby at_108) rfl k) ?_
      show own_Go _ _ _ _ T20 (mkF m 109 #[.val (.int p1), .val (.int p2), .val (.ref b1), .val (.ref b14), .val (.int (3 : Int32)), .val (.int (0 : Int32)), .unset] [(.int ((3 : Int32) &&& (1 : Int32)))])
      rw [show ((3 : Int32) &&& (1 : Int32)) = (1 : Int32) from by decide]
      show own_Go _ _ _ _ T20 (mkF m 109 #[.val (.int p1), .val (.int p2), .val (.ref b1), .val (.ref b14), .val (.int (3 : Int32)), .val (.int (0 : Int32)), .unset] [(.int (1 : Int32))])
      refine own_st (fun _ k => XS.ifNo X20.here hx rfl (hb hby at_109) rfl ((if0 _ _).trans (feq (by decide : ¬ ((1 : Int32) = (0 : Int32)))).1) k) ?_
      show own_Go _ _ _ _ T20 (mkF m 112 #[.val (.int p1), .val (.int p2), .val (.ref b1), .val (.ref b14), .val (.int (3 : Int32)), .val (.int (0 : Int32)), .unset] [])
      refine own_st (fun _ k => XS.iconst X20.here hx rfl (hb hby at_112) k) ?_
      show own_Go _ _ _ _ T20 (mkF m 113 #[.val (.int p1), .val (.int p2), .val (.ref b1), .val (.ref b14), .val (.int (3 : Int32)), .val (.int (0 : Int32)), .unset] [(.int (1 : Int32))])
      refine own_st (fun _ k => XS.goto X20.here hx rfl (pc0 := 113) (pc' := 117) rfl (hb hby at_113) (by decide) (by decide) k) ?_
      show own_Go _ _ _ _ T20 (mkF m 117 #[.val (.int p1), .val (.int p2), .val (.ref b1), .val (.ref b14), .val (.int (3 : Int32)), .val (.int (0 : Int32)), .unset] [(.int (1 : Int32))])
      refine own_st (fun _ k => XS.istore X20.here hx rfl (hb hby at_117) rfl (l' := #[.val (.int p1), .val (.int p2), .val (.ref b1), .val (.ref b14), .val (.int (3 : Int32)), .val (.int (0 : Int32)), .val (.int (1 : Int32))]) rfl k) ?_
      show own_Go _ _ _ _ T20 (mkF m 119 #[.val (.int p1), .val (.int p2), .val (.ref b1), .val (.ref b14), .val (.int (3 : Int32)), .val (.int (0 : Int32)), .val (.int (1 : Int32))] [])
      refine own_st (fun _ k => XS.aloadN X20.here hx rfl (hb hby at_119) rfl rfl k) ?_
      show own_Go _ _ _ _ T20 (mkF m 120 #[.val (.int p1), .val (.int p2), .val (.ref b1), .val (.ref b14), .val (.int (3 : Int32)), .val (.int (0 : Int32)), .val (.int (1 : Int32))] [(.ref b1)])
      refine own_st (fun _ k => XS.iload X20.here hx rfl (hb hby at_120) rfl k) ?_
      show own_Go _ _ _ _ T20 (mkF m 122 #[.val (.int p1), .val (.int p2), .val (.ref b1), .val (.ref b14), .val (.int (3 : Int32)), .val (.int (0 : Int32)), .val (.int (1 : Int32))] [(.int (3 : Int32)), (.ref b1)])
      refine own_st (own_ldR X20 hx hZ e20 V_b1_20 rfl (j := (3 : Int32)) (by decide) (v := (.ref w3)) rfl (g := (mkF m 122 #[.val (.int p1), .val (.int p2), .val (.ref b1), .val (.ref b14), .val (.int (3 : Int32)), .val (.int (0 : Int32)), .val (.int (1 : Int32))] [(.int (3 : Int32)), (.ref b1)])) rfl rfl (hb hby at_122)) ?_
      show own_Go _ _ _ _ T20 (mkF m 123 #[.val (.int p1), .val (.int p2), .val (.ref b1), .val (.ref b14), .val (.int (3 : Int32)), .val (.int (0 : Int32)), .val (.int (1 : Int32))] [(.ref w3)])
      refine own_st (fun _ k => XS.iloadN X20.here hx rfl (hb hby at_123) rfl k) ?_
      show own_Go _ _ _ _ T20 (mkF m 124 #[.val (.int p1), .val (.int p2), .val (.ref b1), .val (.ref b14), .val (.int (3 : Int32)), .val (.int (0 : Int32)), .val (.int (1 : Int32))] [(.int p2), (.ref w3)])
      obtain ⟨v30, T30, L30, hQ30, X30, st30⟩ := own_callV X20 hx hZ (y := (⟨"com/example/overflowstream/overflowstream/Query$Operator", "holds", "(I)Z"⟩ : MethodName)) hown (own_w18 hw) (own_w19 hw) (own_w21 hw) (own_w20 hw) (own_w3 hw) (own_w22 hw) (by decide) (own_hold3 l hw [] w3 p2 hp20 n0 (Nat.le_trans Z0 O20.1) (E3.ext O20) (Fo3.ext O20)) e20 (E3.ext O20) (g := (mkF m 124 #[.val (.int p1), .val (.int p2), .val (.ref b1), .val (.ref b14), .val (.int (3 : Int32)), .val (.int (0 : Int32)), .val (.int (1 : Int32))] [(.int p2), (.ref w3)])) rfl (by rw [hml]; rfl) (argsL := [(.int p2)]) (rest := []) (lenOf own_pd1 rfl) rfl rfl (W := 0) (Nat.le_of_eq rfl) (hb hby at_124) (by decide) (by decide) (by decide) (by decide)
      obtain ⟨rfl, N30, e30⟩ := hQ30
      have N30' := Fr.app N20 N30
      refine own_st st30 ?_
      show own_Go _ _ _ _ T30 (mkF m 127 #[.val (.int p1), .val (.int p2), .val (.ref b1), .val (.ref b14), .val (.int (3 : Int32)), .val (.int (0 : Int32)), .val (.int (1 : Int32))] [(.int (own_h3 p2))])
      refine own_st (fun _ k => XS.iload X30.here hx rfl (hb hby at_127) rfl k) ?_
      show own_Go _ _ _ _ T30 (mkF m 129 #[.val (.int p1), .val (.int p2), .val (.ref b1), .val (.ref b14), .val (.int (3 : Int32)), .val (.int (0 : Int32)), .val (.int (1 : Int32))] [(.int (1 : Int32)), (.int (own_h3 p2))])
      refine own_st (fun _ k => XS.icmpNo X30.here hx rfl (hb hby at_129) rfl (teq (by simp [own_h3, hs, q1, q2] : (own_h3 p2) = (1 : Int32))).2 k) ?_
      show own_Go _ _ _ _ T30 (mkF m 132 #[.val (.int p1), .val (.int p2), .val (.ref b1), .val (.ref b14), .val (.int (3 : Int32)), .val (.int (0 : Int32)), .val (.int (1 : Int32))] [])
      refine own_st (fun _ k => XS.iconst X30.here hx rfl (hb hby at_132) k) ?_
      show own_Go _ _ _ _ T30 (mkF m 133 #[.val (.int p1), .val (.int p2), .val (.ref b1), .val (.ref b14), .val (.int (3 : Int32)), .val (.int (0 : Int32)), .val (.int (1 : Int32))] [(.int (1 : Int32))])
      refine own_st (fun _ k => XS.goto X30.here hx rfl (pc0 := 133) (pc' := 137) rfl (hb hby at_133) (by decide) (by decide) k) ?_
      show own_Go _ _ _ _ T30 (mkF m 137 #[.val (.int p1), .val (.int p2), .val (.ref b1), .val (.ref b14), .val (.int (3 : Int32)), .val (.int (0 : Int32)), .val (.int (1 : Int32))] [(.int (1 : Int32))])
      exact own_retN X30 hx hret (by simp) hlk (hb hby at_137) ⟨rfl, N30'⟩ (by decide) (by decide)
    · refine own_st (fun _ k => XS.ifYes X20.here hx rfl (pc0 := 82) (pc' := 89) rfl (hb hby at_82) rfl ((if0 _ _).trans (flt (hs : ¬ (p2 < (0 : Int32)))).2.1) (by decide) (by decide) k) ?_
      show own_Go _ _ _ _ T20 (mkF m 89 #[.val (.int p1), .val (.int p2), .val (.ref b1), .val (.ref b14), .val (.int (3 : Int32)), .unset, .unset] [])
      refine own_st (fun _ k => XS.iloadN X20.here hx rfl (hb hby at_89) rfl k) ?_
      show own_Go _ _ _ _ T20 (mkF m 90 #[.val (.int p1), .val (.int p2), .val (.ref b1), .val (.ref b14), .val (.int (3 : Int32)), .unset, .unset] [(.int p2)])
      by_cases hz : p2 = (0 : Int32)
      · refine own_st (fun _ k => XS.ifNo X20.here hx rfl (hb hby at_90) rfl ((if0 _ _).trans (teq (hz : p2 = (0 : Int32))).2) k) ?_
        show own_Go _ _ _ _ T20 (mkF m 93 #[.val (.int p1), .val (.int p2), .val (.ref b1), .val (.ref b14), .val (.int (3 : Int32)), .unset, .unset] [])
        have q2 : ¬ (0 : Int32) < p2 := by rw [hz]; decide
        have q3 : ¬ p2 < (0 : Int32) := by rw [hz]; decide
        show own_Go _ _ _ _ T20 (mkF m 93 #[.val (.int p1), .val (.int p2), .val (.ref b1), .val (.ref b14), .val (.int (3 : Int32)), .unset, .unset] [])
        refine own_st (fun _ k => XS.iconst X20.here hx rfl (hb hby at_93) k) ?_
        show own_Go _ _ _ _ T20 (mkF m 94 #[.val (.int p1), .val (.int p2), .val (.ref b1), .val (.ref b14), .val (.int (3 : Int32)), .unset, .unset] [(.int (1 : Int32))])
        refine own_st (fun _ k => XS.goto X20.here hx rfl (pc0 := 94) (pc' := 98) rfl (hb hby at_94) (by decide) (by decide) k) ?_
        show own_Go _ _ _ _ T20 (mkF m 98 #[.val (.int p1), .val (.int p2), .val (.ref b1), .val (.ref b14), .val (.int (3 : Int32)), .unset, .unset] [(.int (1 : Int32))])
        refine own_st (fun _ k => XS.istore X20.here hx rfl (hb hby at_98) rfl (l' := #[.val (.int p1), .val (.int p2), .val (.ref b1), .val (.ref b14), .val (.int (3 : Int32)), .val (.int (1 : Int32)), .unset]) rfl k) ?_
        show own_Go _ _ _ _ T20 (mkF m 100 #[.val (.int p1), .val (.int p2), .val (.ref b1), .val (.ref b14), .val (.int (3 : Int32)), .val (.int (1 : Int32)), .unset] [])
        refine own_st (fun _ k => XS.aloadN X20.here hx rfl (hb hby at_100) rfl rfl k) ?_
        show own_Go _ _ _ _ T20 (mkF m 101 #[.val (.int p1), .val (.int p2), .val (.ref b1), .val (.ref b14), .val (.int (3 : Int32)), .val (.int (1 : Int32)), .unset] [(.ref b14)])
        refine own_st (fun _ k => XS.iload X20.here hx rfl (hb hby at_101) rfl k) ?_
        show own_Go _ _ _ _ T20 (mkF m 103 #[.val (.int p1), .val (.int p2), .val (.ref b1), .val (.ref b14), .val (.int (3 : Int32)), .val (.int (1 : Int32)), .unset] [(.int (3 : Int32)), (.ref b14)])
        refine own_st (own_ldI X20 hx hZ e20 Va20 (j := (3 : Int32)) (by decide) (v := (.int (3 : Int32))) rfl (g := (mkF m 103 #[.val (.int p1), .val (.int p2), .val (.ref b1), .val (.ref b14), .val (.int (3 : Int32)), .val (.int (1 : Int32)), .unset] [(.int (3 : Int32)), (.ref b14)])) rfl rfl (hb hby at_103)) ?_
        show own_Go _ _ _ _ T20 (mkF m 104 #[.val (.int p1), .val (.int p2), .val (.ref b1), .val (.ref b14), .val (.int (3 : Int32)), .val (.int (1 : Int32)), .unset] [(.int (3 : Int32))])
        refine own_st (fun _ k => XS.iload X20.here hx rfl (hb hby at_104) rfl k) ?_
        show own_Go _ _ _ _ T20 (mkF m 106 #[.val (.int p1), .val (.int p2), .val (.ref b1), .val (.ref b14), .val (.int (3 : Int32)), .val (.int (1 : Int32)), .unset] [(.int (1 : Int32)), (.int (3 : Int32))])
        refine own_st (fun _ k => XS.ishr X20.here hx rfl (hb hby at_106) rfl k) ?_
        show own_Go _ _ _ _ T20 (mkF m 107 #[.val (.int p1), .val (.int p2), .val (.ref b1), .val (.ref b14), .val (.int (3 : Int32)), .val (.int (1 : Int32)), .unset] [(.int ((3 : Int32) >>> ((1 : Int32) &&& 31)))])
        rw [show ((3 : Int32) >>> ((1 : Int32) &&& 31)) = (1 : Int32) from by decide]
        show own_Go _ _ _ _ T20 (mkF m 107 #[.val (.int p1), .val (.int p2), .val (.ref b1), .val (.ref b14), .val (.int (3 : Int32)), .val (.int (1 : Int32)), .unset] [(.int (1 : Int32))])
        refine own_st (fun _ k => XS.iconst X20.here hx rfl (hb hby at_107) k) ?_
        show own_Go _ _ _ _ T20 (mkF m 108 #[.val (.int p1), .val (.int p2), .val (.ref b1), .val (.ref b14), .val (.int (3 : Int32)), .val (.int (1 : Int32)), .unset] [(.int (1 : Int32)), (.int (1 : Int32))])
        refine own_st (fun _ k => XS.iand X20.here hx rfl (hb hby at_108) rfl k) ?_
        show own_Go _ _ _ _ T20 (mkF m 109 #[.val (.int p1), .val (.int p2), .val (.ref b1), .val (.ref b14), .val (.int (3 : Int32)), .val (.int (1 : Int32)), .unset] [(.int ((1 : Int32) &&& (1 : Int32)))])
        rw [show ((1 : Int32) &&& (1 : Int32)) = (1 : Int32) from by decide]
        show own_Go _ _ _ _ T20 (mkF m 109 #[.val (.int p1), .val (.int p2), .val (.ref b1), .val (.ref b14), .val (.int (3 : Int32)), .val (.int (1 : Int32)), .unset] [(.int (1 : Int32))])
        refine own_st (fun _ k => XS.ifNo X20.here hx rfl (hb hby at_109) rfl ((if0 _ _).trans (feq (by decide : ¬ ((1 : Int32) = (0 : Int32)))).1) k) ?_
        show own_Go _ _ _ _ T20 (mkF m 112 #[.val (.int p1), .val (.int p2), .val (.ref b1), .val (.ref b14), .val (.int (3 : Int32)), .val (.int (1 : Int32)), .unset] [])
        refine own_st (fun _ k => XS.iconst X20.here hx rfl (hb hby at_112) k) ?_
        show own_Go _ _ _ _ T20 (mkF m 113 #[.val (.int p1), .val (.int p2), .val (.ref b1), .val (.ref b14), .val (.int (3 : Int32)), .val (.int (1 : Int32)), .unset] [(.int (1 : Int32))])
        refine own_st (fun _ k => XS.goto X20.here hx rfl (pc0 := 113) (pc' := 117) rfl (hb hby at_113) (by decide) (by decide) k) ?_
        show own_Go _ _ _ _ T20 (mkF m 117 #[.val (.int p1), .val (.int p2), .val (.ref b1), .val (.ref b14), .val (.int (3 : Int32)), .val (.int (1 : Int32)), .unset] [(.int (1 : Int32))])
        refine own_st (fun _ k => XS.istore X20.here hx rfl (hb hby at_117) rfl (l' := #[.val (.int p1), .val (.int p2), .val (.ref b1), .val (.ref b14), .val (.int (3 : Int32)), .val (.int (1 : Int32)), .val (.int (1 : Int32))]) rfl k) ?_
        show own_Go _ _ _ _ T20 (mkF m 119 #[.val (.int p1), .val (.int p2), .val (.ref b1), .val (.ref b14), .val (.int (3 : Int32)), .val (.int (1 : Int32)), .val (.int (1 : Int32))] [])
        refine own_st (fun _ k => XS.aloadN X20.here hx rfl (hb hby at_119) rfl rfl k) ?_
        show own_Go _ _ _ _ T20 (mkF m 120 #[.val (.int p1), .val (.int p2), .val (.ref b1), .val (.ref b14), .val (.int (3 : Int32)), .val (.int (1 : Int32)), .val (.int (1 : Int32))] [(.ref b1)])
        refine own_st (fun _ k => XS.iload X20.here hx rfl (hb hby at_120) rfl k) ?_
        show own_Go _ _ _ _ T20 (mkF m 122 #[.val (.int p1), .val (.int p2), .val (.ref b1), .val (.ref b14), .val (.int (3 : Int32)), .val (.int (1 : Int32)), .val (.int (1 : Int32))] [(.int (3 : Int32)), (.ref b1)])
        refine own_st (own_ldR X20 hx hZ e20 V_b1_20 rfl (j := (3 : Int32)) (by decide) (v := (.ref w3)) rfl (g := (mkF m 122 #[.val (.int p1), .val (.int p2), .val (.ref b1), .val (.ref b14), .val (.int (3 : Int32)), .val (.int (1 : Int32)), .val (.int (1 : Int32))] [(.int (3 : Int32)), (.ref b1)])) rfl rfl (hb hby at_122)) ?_
        show own_Go _ _ _ _ T20 (mkF m 123 #[.val (.int p1), .val (.int p2), .val (.ref b1), .val (.ref b14), .val (.int (3 : Int32)), .val (.int (1 : Int32)), .val (.int (1 : Int32))] [(.ref w3)])
        refine own_st (fun _ k => XS.iloadN X20.here hx rfl (hb hby at_123) rfl k) ?_
        show own_Go _ _ _ _ T20 (mkF m 124 #[.val (.int p1), .val (.int p2), .val (.ref b1), .val (.ref b14), .val (.int (3 : Int32)), .val (.int (1 : Int32)), .val (.int (1 : Int32))] [(.int p2), (.ref w3)])
        obtain ⟨v31, T31, L31, hQ31, X31, st31⟩ := own_callV X20 hx hZ (y := (⟨"com/example/overflowstream/overflowstream/Query$Operator", "holds", "(I)Z"⟩ : MethodName)) hown (own_w18 hw) (own_w19 hw) (own_w21 hw) (own_w20 hw) (own_w3 hw) (own_w22 hw) (by decide) (own_hold3 l hw [] w3 p2 hp20 n0 (Nat.le_trans Z0 O20.1) (E3.ext O20) (Fo3.ext O20)) e20 (E3.ext O20) (g := (mkF m 124 #[.val (.int p1), .val (.int p2), .val (.ref b1), .val (.ref b14), .val (.int (3 : Int32)), .val (.int (1 : Int32)), .val (.int (1 : Int32))] [(.int p2), (.ref w3)])) rfl (by rw [hml]; rfl) (argsL := [(.int p2)]) (rest := []) (lenOf own_pd1 rfl) rfl rfl (W := 0) (Nat.le_of_eq rfl) (hb hby at_124) (by decide) (by decide) (by decide) (by decide)
        obtain ⟨rfl, N31, e31⟩ := hQ31
        have N31' := Fr.app N20 N31
        refine own_st st31 ?_
        show own_Go _ _ _ _ T31 (mkF m 127 #[.val (.int p1), .val (.int p2), .val (.ref b1), .val (.ref b14), .val (.int (3 : Int32)), .val (.int (1 : Int32)), .val (.int (1 : Int32))] [(.int (own_h3 p2))])
        refine own_st (fun _ k => XS.iload X31.here hx rfl (hb hby at_127) rfl k) ?_
        show own_Go _ _ _ _ T31 (mkF m 129 #[.val (.int p1), .val (.int p2), .val (.ref b1), .val (.ref b14), .val (.int (3 : Int32)), .val (.int (1 : Int32)), .val (.int (1 : Int32))] [(.int (1 : Int32)), (.int (own_h3 p2))])
        refine own_st (fun _ k => XS.icmpNo X31.here hx rfl (hb hby at_129) rfl (teq (by simp [own_h3, hz] : (own_h3 p2) = (1 : Int32))).2 k) ?_
        show own_Go _ _ _ _ T31 (mkF m 132 #[.val (.int p1), .val (.int p2), .val (.ref b1), .val (.ref b14), .val (.int (3 : Int32)), .val (.int (1 : Int32)), .val (.int (1 : Int32))] [])
        refine own_st (fun _ k => XS.iconst X31.here hx rfl (hb hby at_132) k) ?_
        show own_Go _ _ _ _ T31 (mkF m 133 #[.val (.int p1), .val (.int p2), .val (.ref b1), .val (.ref b14), .val (.int (3 : Int32)), .val (.int (1 : Int32)), .val (.int (1 : Int32))] [(.int (1 : Int32))])
        refine own_st (fun _ k => XS.goto X31.here hx rfl (pc0 := 133) (pc' := 137) rfl (hb hby at_133) (by decide) (by decide) k) ?_
        show own_Go _ _ _ _ T31 (mkF m 137 #[.val (.int p1), .val (.int p2), .val (.ref b1), .val (.ref b14), .val (.int (3 : Int32)), .val (.int (1 : Int32)), .val (.int (1 : Int32))] [(.int (1 : Int32))])
        exact own_retN X31 hx hret (by simp) hlk (hb hby at_137) ⟨rfl, N31'⟩ (by decide) (by decide)
      · refine own_st (fun _ k => XS.ifYes X20.here hx rfl (pc0 := 90) (pc' := 97) rfl (hb hby at_90) rfl ((if0 _ _).trans (feq (hz : ¬ (p2 = (0 : Int32)))).2) (by decide) (by decide) k) ?_
        show own_Go _ _ _ _ T20 (mkF m 97 #[.val (.int p1), .val (.int p2), .val (.ref b1), .val (.ref b14), .val (.int (3 : Int32)), .unset, .unset] [])
        have q2 := own_s2 hs hz
        show own_Go _ _ _ _ T20 (mkF m 97 #[.val (.int p1), .val (.int p2), .val (.ref b1), .val (.ref b14), .val (.int (3 : Int32)), .unset, .unset] [])
        refine own_st (fun _ k => XS.iconst X20.here hx rfl (hb hby at_97) k) ?_
        show own_Go _ _ _ _ T20 (mkF m 98 #[.val (.int p1), .val (.int p2), .val (.ref b1), .val (.ref b14), .val (.int (3 : Int32)), .unset, .unset] [(.int (2 : Int32))])
        refine own_st (fun _ k => XS.istore X20.here hx rfl (hb hby at_98) rfl (l' := #[.val (.int p1), .val (.int p2), .val (.ref b1), .val (.ref b14), .val (.int (3 : Int32)), .val (.int (2 : Int32)), .unset]) rfl k) ?_
        show own_Go _ _ _ _ T20 (mkF m 100 #[.val (.int p1), .val (.int p2), .val (.ref b1), .val (.ref b14), .val (.int (3 : Int32)), .val (.int (2 : Int32)), .unset] [])
        refine own_st (fun _ k => XS.aloadN X20.here hx rfl (hb hby at_100) rfl rfl k) ?_
        show own_Go _ _ _ _ T20 (mkF m 101 #[.val (.int p1), .val (.int p2), .val (.ref b1), .val (.ref b14), .val (.int (3 : Int32)), .val (.int (2 : Int32)), .unset] [(.ref b14)])
        refine own_st (fun _ k => XS.iload X20.here hx rfl (hb hby at_101) rfl k) ?_
        show own_Go _ _ _ _ T20 (mkF m 103 #[.val (.int p1), .val (.int p2), .val (.ref b1), .val (.ref b14), .val (.int (3 : Int32)), .val (.int (2 : Int32)), .unset] [(.int (3 : Int32)), (.ref b14)])
        refine own_st (own_ldI X20 hx hZ e20 Va20 (j := (3 : Int32)) (by decide) (v := (.int (3 : Int32))) rfl (g := (mkF m 103 #[.val (.int p1), .val (.int p2), .val (.ref b1), .val (.ref b14), .val (.int (3 : Int32)), .val (.int (2 : Int32)), .unset] [(.int (3 : Int32)), (.ref b14)])) rfl rfl (hb hby at_103)) ?_
        show own_Go _ _ _ _ T20 (mkF m 104 #[.val (.int p1), .val (.int p2), .val (.ref b1), .val (.ref b14), .val (.int (3 : Int32)), .val (.int (2 : Int32)), .unset] [(.int (3 : Int32))])
        refine own_st (fun _ k => XS.iload X20.here hx rfl (hb hby at_104) rfl k) ?_
        show own_Go _ _ _ _ T20 (mkF m 106 #[.val (.int p1), .val (.int p2), .val (.ref b1), .val (.ref b14), .val (.int (3 : Int32)), .val (.int (2 : Int32)), .unset] [(.int (2 : Int32)), (.int (3 : Int32))])
        refine own_st (fun _ k => XS.ishr X20.here hx rfl (hb hby at_106) rfl k) ?_
        show own_Go _ _ _ _ T20 (mkF m 107 #[.val (.int p1), .val (.int p2), .val (.ref b1), .val (.ref b14), .val (.int (3 : Int32)), .val (.int (2 : Int32)), .unset] [(.int ((3 : Int32) >>> ((2 : Int32) &&& 31)))])
        rw [show ((3 : Int32) >>> ((2 : Int32) &&& 31)) = (0 : Int32) from by decide]
        show own_Go _ _ _ _ T20 (mkF m 107 #[.val (.int p1), .val (.int p2), .val (.ref b1), .val (.ref b14), .val (.int (3 : Int32)), .val (.int (2 : Int32)), .unset] [(.int (0 : Int32))])
        refine own_st (fun _ k => XS.iconst X20.here hx rfl (hb hby at_107) k) ?_
        show own_Go _ _ _ _ T20 (mkF m 108 #[.val (.int p1), .val (.int p2), .val (.ref b1), .val (.ref b14), .val (.int (3 : Int32)), .val (.int (2 : Int32)), .unset] [(.int (1 : Int32)), (.int (0 : Int32))])
        refine own_st (fun _ k => XS.iand X20.here hx rfl (hb hby at_108) rfl k) ?_
        show own_Go _ _ _ _ T20 (mkF m 109 #[.val (.int p1), .val (.int p2), .val (.ref b1), .val (.ref b14), .val (.int (3 : Int32)), .val (.int (2 : Int32)), .unset] [(.int ((0 : Int32) &&& (1 : Int32)))])
        rw [show ((0 : Int32) &&& (1 : Int32)) = (0 : Int32) from by decide]
        show own_Go _ _ _ _ T20 (mkF m 109 #[.val (.int p1), .val (.int p2), .val (.ref b1), .val (.ref b14), .val (.int (3 : Int32)), .val (.int (2 : Int32)), .unset] [(.int (0 : Int32))])
        refine own_st (fun _ k => XS.ifYes X20.here hx rfl (pc0 := 109) (pc' := 116) rfl (hb hby at_109) rfl ((if0 _ _).trans (teq (by decide : (0 : Int32) = (0 : Int32))).1) (by decide) (by decide) k) ?_
        show own_Go _ _ _ _ T20 (mkF m 116 #[.val (.int p1), .val (.int p2), .val (.ref b1), .val (.ref b14), .val (.int (3 : Int32)), .val (.int (2 : Int32)), .unset] [])
        refine own_st (fun _ k => XS.iconst X20.here hx rfl (hb hby at_116) k) ?_
        show own_Go _ _ _ _ T20 (mkF m 117 #[.val (.int p1), .val (.int p2), .val (.ref b1), .val (.ref b14), .val (.int (3 : Int32)), .val (.int (2 : Int32)), .unset] [(.int (0 : Int32))])
        refine own_st (fun _ k => XS.istore X20.here hx rfl (hb hby at_117) rfl (l' := #[.val (.int p1), .val (.int p2), .val (.ref b1), .val (.ref b14), .val (.int (3 : Int32)), .val (.int (2 : Int32)), .val (.int (0 : Int32))]) rfl k) ?_
        show own_Go _ _ _ _ T20 (mkF m 119 #[.val (.int p1), .val (.int p2), .val (.ref b1), .val (.ref b14), .val (.int (3 : Int32)), .val (.int (2 : Int32)), .val (.int (0 : Int32))] [])
        refine own_st (fun _ k => XS.aloadN X20.here hx rfl (hb hby at_119) rfl rfl k) ?_
        show own_Go _ _ _ _ T20 (mkF m 120 #[.val (.int p1), .val (.int p2), .val (.ref b1), .val (.ref b14), .val (.int (3 : Int32)), .val (.int (2 : Int32)), .val (.int (0 : Int32))] [(.ref b1)])
        refine own_st (fun _ k => XS.iload X20.here hx rfl (hb hby at_120) rfl k) ?_
        show own_Go _ _ _ _ T20 (mkF m 122 #[.val (.int p1), .val (.int p2), .val (.ref b1), .val (.ref b14), .val (.int (3 : Int32)), .val (.int (2 : Int32)), .val (.int (0 : Int32))] [(.int (3 : Int32)), (.ref b1)])
        refine own_st (own_ldR X20 hx hZ e20 V_b1_20 rfl (j := (3 : Int32)) (by decide) (v := (.ref w3)) rfl (g := (mkF m 122 #[.val (.int p1), .val (.int p2), .val (.ref b1), .val (.ref b14), .val (.int (3 : Int32)), .val (.int (2 : Int32)), .val (.int (0 : Int32))] [(.int (3 : Int32)), (.ref b1)])) rfl rfl (hb hby at_122)) ?_
        show own_Go _ _ _ _ T20 (mkF m 123 #[.val (.int p1), .val (.int p2), .val (.ref b1), .val (.ref b14), .val (.int (3 : Int32)), .val (.int (2 : Int32)), .val (.int (0 : Int32))] [(.ref w3)])
        refine own_st (fun _ k => XS.iloadN X20.here hx rfl (hb hby at_123) rfl k) ?_
        show own_Go _ _ _ _ T20 (mkF m 124 #[.val (.int p1), .val (.int p2), .val (.ref b1), .val (.ref b14), .val (.int (3 : Int32)), .val (.int (2 : Int32)), .val (.int (0 : Int32))] [(.int p2), (.ref w3)])
        obtain ⟨v32, T32, L32, hQ32, X32, st32⟩ := own_callV X20 hx hZ (y := (⟨"com/example/overflowstream/overflowstream/Query$Operator", "holds", "(I)Z"⟩ : MethodName)) hown (own_w18 hw) (own_w19 hw) (own_w21 hw) (own_w20 hw) (own_w3 hw) (own_w22 hw) (by decide) (own_hold3 l hw [] w3 p2 hp20 n0 (Nat.le_trans Z0 O20.1) (E3.ext O20) (Fo3.ext O20)) e20 (E3.ext O20) (g := (mkF m 124 #[.val (.int p1), .val (.int p2), .val (.ref b1), .val (.ref b14), .val (.int (3 : Int32)), .val (.int (2 : Int32)), .val (.int (0 : Int32))] [(.int p2), (.ref w3)])) rfl (by rw [hml]; rfl) (argsL := [(.int p2)]) (rest := []) (lenOf own_pd1 rfl) rfl rfl (W := 0) (Nat.le_of_eq rfl) (hb hby at_124) (by decide) (by decide) (by decide) (by decide)
        obtain ⟨rfl, N32, e32⟩ := hQ32
        have N32' := Fr.app N20 N32
        refine own_st st32 ?_
        show own_Go _ _ _ _ T32 (mkF m 127 #[.val (.int p1), .val (.int p2), .val (.ref b1), .val (.ref b14), .val (.int (3 : Int32)), .val (.int (2 : Int32)), .val (.int (0 : Int32))] [(.int (own_h3 p2))])
        refine own_st (fun _ k => XS.iload X32.here hx rfl (hb hby at_127) rfl k) ?_
        show own_Go _ _ _ _ T32 (mkF m 129 #[.val (.int p1), .val (.int p2), .val (.ref b1), .val (.ref b14), .val (.int (3 : Int32)), .val (.int (2 : Int32)), .val (.int (0 : Int32))] [(.int (0 : Int32)), (.int (own_h3 p2))])
        refine own_st (fun _ k => XS.icmpNo X32.here hx rfl (hb hby at_129) rfl (teq (by simp [own_h3, hs, hz, q2] : (own_h3 p2) = (0 : Int32))).2 k) ?_
        show own_Go _ _ _ _ T32 (mkF m 132 #[.val (.int p1), .val (.int p2), .val (.ref b1), .val (.ref b14), .val (.int (3 : Int32)), .val (.int (2 : Int32)), .val (.int (0 : Int32))] [])
        refine own_st (fun _ k => XS.iconst X32.here hx rfl (hb hby at_132) k) ?_
        show own_Go _ _ _ _ T32 (mkF m 133 #[.val (.int p1), .val (.int p2), .val (.ref b1), .val (.ref b14), .val (.int (3 : Int32)), .val (.int (2 : Int32)), .val (.int (0 : Int32))] [(.int (1 : Int32))])
        refine own_st (fun _ k => XS.goto X32.here hx rfl (pc0 := 133) (pc' := 137) rfl (hb hby at_133) (by decide) (by decide) k) ?_
        show own_Go _ _ _ _ T32 (mkF m 137 #[.val (.int p1), .val (.int p2), .val (.ref b1), .val (.ref b14), .val (.int (3 : Int32)), .val (.int (2 : Int32)), .val (.int (0 : Int32))] [(.int (1 : Int32))])
        exact own_retN X32 hx hret (by simp) hlk (hb hby at_137) ⟨rfl, N32'⟩ (by decide) (by decide)
  · rw [hi]
    show own_Go _ _ _ _ T20 (mkF m 81 #[.val (.int p1), .val (.int p2), .val (.ref b1), .val (.ref b14), .val (.int (4 : Int32)), .unset, .unset] [])
    refine own_st (fun _ k => XS.iloadN X20.here hx rfl (hb hby at_81) rfl k) ?_
    show own_Go _ _ _ _ T20 (mkF m 82 #[.val (.int p1), .val (.int p2), .val (.ref b1), .val (.ref b14), .val (.int (4 : Int32)), .unset, .unset] [(.int p2)])
    by_cases hs : p2 < (0 : Int32)
    · refine own_st (fun _ k => XS.ifNo X20.here hx rfl (hb hby at_82) rfl ((if0 _ _).trans (tlt (hs : p2 < (0 : Int32))).2.1) k) ?_
      show own_Go _ _ _ _ T20 (mkF m 85 #[.val (.int p1), .val (.int p2), .val (.ref b1), .val (.ref b14), .val (.int (4 : Int32)), .unset, .unset] [])
      have q1 := (own_s1 hs).1
      have q2 := (own_s1 hs).2
      show own_Go _ _ _ _ T20 (mkF m 85 #[.val (.int p1), .val (.int p2), .val (.ref b1), .val (.ref b14), .val (.int (4 : Int32)), .unset, .unset] [])
      refine own_st (fun _ k => XS.iconst X20.here hx rfl (hb hby at_85) k) ?_
      show own_Go _ _ _ _ T20 (mkF m 86 #[.val (.int p1), .val (.int p2), .val (.ref b1), .val (.ref b14), .val (.int (4 : Int32)), .unset, .unset] [(.int (0 : Int32))])
      refine own_st (fun _ k => XS.goto X20.here hx rfl (pc0 := 86) (pc' := 98) rfl (hb hby at_86) (by decide) (by decide) k) ?_
      show own_Go _ _ _ _ T20 (mkF m 98 #[.val (.int p1), .val (.int p2), .val (.ref b1), .val (.ref b14), .val (.int (4 : Int32)), .unset, .unset] [(.int (0 : Int32))])
      refine own_st (fun _ k => XS.istore X20.here hx rfl (hb hby at_98) rfl (l' := #[.val (.int p1), .val (.int p2), .val (.ref b1), .val (.ref b14), .val (.int (4 : Int32)), .val (.int (0 : Int32)), .unset]) rfl k) ?_
      show own_Go _ _ _ _ T20 (mkF m 100 #[.val (.int p1), .val (.int p2), .val (.ref b1), .val (.ref b14), .val (.int (4 : Int32)), .val (.int (0 : Int32)), .unset] [])
      refine own_st (fun _ k => XS.aloadN X20.here hx rfl (hb hby at_100) rfl rfl k) ?_
      show own_Go _ _ _ _ T20 (mkF m 101 #[.val (.int p1), .val (.int p2), .val (.ref b1), .val (.ref b14), .val (.int (4 : Int32)), .val (.int (0 : Int32)), .unset] [(.ref b14)])
      refine own_st (fun _ k => XS.iload X20.here hx rfl (hb hby at_101) rfl k) ?_
      show own_Go _ _ _ _ T20 (mkF m 103 #[.val (.int p1), .val (.int p2), .val (.ref b1), .val (.ref b14), .val (.int (4 : Int32)), .val (.int (0 : Int32)), .unset] [(.int (4 : Int32)), (.ref b14)])
      refine own_st (own_ldI X20 hx hZ e20 Va20 (j := (4 : Int32)) (by decide) (v := (.int (4 : Int32))) rfl (g := (mkF m 103 #[.val (.int p1), .val (.int p2), .val (.ref b1), .val (.ref b14), .val (.int (4 : Int32)), .val (.int (0 : Int32)), .unset] [(.int (4 : Int32)), (.ref b14)])) rfl rfl (hb hby at_103)) ?_
      show own_Go _ _ _ _ T20 (mkF m 104 #[.val (.int p1), .val (.int p2), .val (.ref b1), .val (.ref b14), .val (.int (4 : Int32)), .val (.int (0 : Int32)), .unset] [(.int (4 : Int32))])
      refine own_st (fun _ k => XS.iload X20.here hx rfl (hb hby at_104) rfl k) ?_
      show own_Go _ _ _ _ T20 (mkF m 106 #[.val (.int p1), .val (.int p2), .val (.ref b1), .val (.ref b14), .val (.int (4 : Int32)), .val (.int (0 : Int32)), .unset] [(.int (0 : Int32)), (.int (4 : Int32))])
      refine own_st (fun _ k => XS.ishr X20.here hx rfl (hb hby at_106) rfl k) ?_
      show own_Go _ _ _ _ T20 (mkF m 107 #[.val (.int p1), .val (.int p2), .val (.ref b1), .val (.ref b14), .val (.int (4 : Int32)), .val (.int (0 : Int32)), .unset] [(.int ((4 : Int32) >>> ((0 : Int32) &&& 31)))])
      rw [show ((4 : Int32) >>> ((0 : Int32) &&& 31)) = (4 : Int32) from by decide]
      show own_Go _ _ _ _ T20 (mkF m 107 #[.val (.int p1), .val (.int p2), .val (.ref b1), .val (.ref b14), .val (.int (4 : Int32)), .val (.int (0 : Int32)), .unset] [(.int (4 : Int32))])
      refine own_st (fun _ k => XS.iconst X20.here hx rfl (hb hby at_107) k) ?_
      show own_Go _ _ _ _ T20 (mkF m 108 #[.val (.int p1), .val (.int p2), .val (.ref b1), .val (.ref b14), .val (.int (4 : Int32)), .val (.int (0 : Int32)), .unset] [(.int (1 : Int32)), (.int (4 : Int32))])
      refine own_st (fun _ k => XS.iand X20.here hx rfl (hb hby at_108) rfl k) ?_
      show own_Go _ _ _ _ T20 (mkF m 109 #[.val (.int p1), .val (.int p2), .val (.ref b1), .val (.ref b14), .val (.int (4 : Int32)), .val (.int (0 : Int32)), .unset] [(.int ((4 : Int32) &&& (1 : Int32)))])
      rw [show ((4 : Int32) &&& (1 : Int32)) = (0 : Int32) from by decide]
      show own_Go _ _ _ _ T20 (mkF m 109 #[.val (.int p1), .val (.int p2), .val (.ref b1), .val (.ref b14), .val (.int (4 : Int32)), .val (.int (0 : Int32)), .unset] [(.int (0 : Int32))])
      refine own_st (fun _ k => XS.ifYes X20.here hx rfl (pc0 := 109) (pc' := 116) rfl (hb hby at_109) rfl ((if0 _ _).trans (teq (by decide : (0 : Int32) = (0 : Int32))).1) (by decide) (by decide) k) ?_
      show own_Go _ _ _ _ T20 (mkF m 116 #[.val (.int p1), .val (.int p2), .val (.ref b1), .val (.ref b14), .val (.int (4 : Int32)), .val (.int (0 : Int32)), .unset] [])
      refine own_st (fun _ k => XS.iconst X20.here hx rfl (hb hby at_116) k) ?_
      show own_Go _ _ _ _ T20 (mkF m 117 #[.val (.int p1), .val (.int p2), .val (.ref b1), .val (.ref b14), .val (.int (4 : Int32)), .val (.int (0 : Int32)), .unset] [(.int (0 : Int32))])
      refine own_st (fun _ k => XS.istore X20.here hx rfl (hb hby at_117) rfl (l' := #[.val (.int p1), .val (.int p2), .val (.ref b1), .val (.ref b14), .val (.int (4 : Int32)), .val (.int (0 : Int32)), .val (.int (0 : Int32))]) rfl k) ?_
      show own_Go _ _ _ _ T20 (mkF m 119 #[.val (.int p1), .val (.int p2), .val (.ref b1), .val (.ref b14), .val (.int (4 : Int32)), .val (.int (0 : Int32)), .val (.int (0 : Int32))] [])
      refine own_st (fun _ k => XS.aloadN X20.here hx rfl (hb hby at_119) rfl rfl k) ?_
      show own_Go _ _ _ _ T20 (mkF m 120 #[.val (.int p1), .val (.int p2), .val (.ref b1), .val (.ref b14), .val (.int (4 : Int32)), .val (.int (0 : Int32)), .val (.int (0 : Int32))] [(.ref b1)])
      refine own_st (fun _ k => XS.iload X20.here hx rfl (hb hby at_120) rfl k) ?_
      show own_Go _ _ _ _ T20 (mkF m 122 #[.val (.int p1), .val (.int p2), .val (.ref b1), .val (.ref b14), .val (.int (4 : Int32)), .val (.int (0 : Int32)), .val (.int (0 : Int32))] [(.int (4 : Int32)), (.ref b1)])
      refine own_st (own_ldR X20 hx hZ e20 V_b1_20 rfl (j := (4 : Int32)) (by decide) (v := (.ref w4)) rfl (g := (mkF m 122 #[.val (.int p1), .val (.int p2), .val (.ref b1), .val (.ref b14), .val (.int (4 : Int32)), .val (.int (0 : Int32)), .val (.int (0 : Int32))] [(.int (4 : Int32)), (.ref b1)])) rfl rfl (hb hby at_122)) ?_
      show own_Go _ _ _ _ T20 (mkF m 123 #[.val (.int p1), .val (.int p2), .val (.ref b1), .val (.ref b14), .val (.int (4 : Int32)), .val (.int (0 : Int32)), .val (.int (0 : Int32))] [(.ref w4)])
      refine own_st (fun _ k => XS.iloadN X20.here hx rfl (hb hby at_123) rfl k) ?_
      show own_Go _ _ _ _ T20 (mkF m 124 #[.val (.int p1), .val (.int p2), .val (.ref b1), .val (.ref b14), .val (.int (4 : Int32)), .val (.int (0 : Int32)), .val (.int (0 : Int32))] [(.int p2), (.ref w4)])
      obtain ⟨v33, T33, L33, hQ33, X33, st33⟩ := own_callV X20 hx hZ (y := (⟨"com/example/overflowstream/overflowstream/Query$Operator", "holds", "(I)Z"⟩ : MethodName)) hown (own_w18 hw) (own_w19 hw) (own_w21 hw) (own_w20 hw) (own_w3 hw) (own_w22 hw) (by decide) (own_hold4 l hw [] w4 p2 hp20 n0 (Nat.le_trans Z0 O20.1) (E4.ext O20) (Fo4.ext O20)) e20 (E4.ext O20) (g := (mkF m 124 #[.val (.int p1), .val (.int p2), .val (.ref b1), .val (.ref b14), .val (.int (4 : Int32)), .val (.int (0 : Int32)), .val (.int (0 : Int32))] [(.int p2), (.ref w4)])) rfl (by rw [hml]; rfl) (argsL := [(.int p2)]) (rest := []) (lenOf own_pd1 rfl) rfl rfl (W := 0) (Nat.le_of_eq rfl) (hb hby at_124) (by decide) (by decide) (by decide) (by decide)
      obtain ⟨rfl, N33, e33⟩ := hQ33
      have N33' := Fr.app N20 N33
      refine own_st st33 ?_
      show own_Go _ _ _ _ T33 (mkF m 127 #[.val (.int p1), .val (.int p2), .val (.ref b1), .val (.ref b14), .val (.int (4 : Int32)), .val (.int (0 : Int32)), .val (.int (0 : Int32))] [(.int (own_h4 p2))])
      refine own_st (fun _ k => XS.iload X33.here hx rfl (hb hby at_127) rfl k) ?_
      show own_Go _ _ _ _ T33 (mkF m 129 #[.val (.int p1), .val (.int p2), .val (.ref b1), .val (.ref b14), .val (.int (4 : Int32)), .val (.int (0 : Int32)), .val (.int (0 : Int32))] [(.int (0 : Int32)), (.int (own_h4 p2))])
      refine own_st (fun _ k => XS.icmpNo X33.here hx rfl (hb hby at_129) rfl (teq (by simp [own_h4, hs, q1, q2] : (own_h4 p2) = (0 : Int32))).2 k) ?_
      show own_Go _ _ _ _ T33 (mkF m 132 #[.val (.int p1), .val (.int p2), .val (.ref b1), .val (.ref b14), .val (.int (4 : Int32)), .val (.int (0 : Int32)), .val (.int (0 : Int32))] [])
      refine own_st (fun _ k => XS.iconst X33.here hx rfl (hb hby at_132) k) ?_
      show own_Go _ _ _ _ T33 (mkF m 133 #[.val (.int p1), .val (.int p2), .val (.ref b1), .val (.ref b14), .val (.int (4 : Int32)), .val (.int (0 : Int32)), .val (.int (0 : Int32))] [(.int (1 : Int32))])
      refine own_st (fun _ k => XS.goto X33.here hx rfl (pc0 := 133) (pc' := 137) rfl (hb hby at_133) (by decide) (by decide) k) ?_
      show own_Go _ _ _ _ T33 (mkF m 137 #[.val (.int p1), .val (.int p2), .val (.ref b1), .val (.ref b14), .val (.int (4 : Int32)), .val (.int (0 : Int32)), .val (.int (0 : Int32))] [(.int (1 : Int32))])
      exact own_retN X33 hx hret (by simp) hlk (hb hby at_137) ⟨rfl, N33'⟩ (by decide) (by decide)
    · refine own_st (fun _ k => XS.ifYes X20.here hx rfl (pc0 := 82) (pc' := 89) rfl (hb hby at_82) rfl ((if0 _ _).trans (flt (hs : ¬ (p2 < (0 : Int32)))).2.1) (by decide) (by decide) k) ?_
      show own_Go _ _ _ _ T20 (mkF m 89 #[.val (.int p1), .val (.int p2), .val (.ref b1), .val (.ref b14), .val (.int (4 : Int32)), .unset, .unset] [])
      refine own_st (fun _ k => XS.iloadN X20.here hx rfl (hb hby at_89) rfl k) ?_
      show own_Go _ _ _ _ T20 (mkF m 90 #[.val (.int p1), .val (.int p2), .val (.ref b1), .val (.ref b14), .val (.int (4 : Int32)), .unset, .unset] [(.int p2)])
      by_cases hz : p2 = (0 : Int32)
      · refine own_st (fun _ k => XS.ifNo X20.here hx rfl (hb hby at_90) rfl ((if0 _ _).trans (teq (hz : p2 = (0 : Int32))).2) k) ?_
        show own_Go _ _ _ _ T20 (mkF m 93 #[.val (.int p1), .val (.int p2), .val (.ref b1), .val (.ref b14), .val (.int (4 : Int32)), .unset, .unset] [])
        have q2 : ¬ (0 : Int32) < p2 := by rw [hz]; decide
        have q3 : ¬ p2 < (0 : Int32) := by rw [hz]; decide
        show own_Go _ _ _ _ T20 (mkF m 93 #[.val (.int p1), .val (.int p2), .val (.ref b1), .val (.ref b14), .val (.int (4 : Int32)), .unset, .unset] [])
        refine own_st (fun _ k => XS.iconst X20.here hx rfl (hb hby at_93) k) ?_
        show own_Go _ _ _ _ T20 (mkF m 94 #[.val (.int p1), .val (.int p2), .val (.ref b1), .val (.ref b14), .val (.int (4 : Int32)), .unset, .unset] [(.int (1 : Int32))])
        refine own_st (fun _ k => XS.goto X20.here hx rfl (pc0 := 94) (pc' := 98) rfl (hb hby at_94) (by decide) (by decide) k) ?_
        show own_Go _ _ _ _ T20 (mkF m 98 #[.val (.int p1), .val (.int p2), .val (.ref b1), .val (.ref b14), .val (.int (4 : Int32)), .unset, .unset] [(.int (1 : Int32))])
        refine own_st (fun _ k => XS.istore X20.here hx rfl (hb hby at_98) rfl (l' := #[.val (.int p1), .val (.int p2), .val (.ref b1), .val (.ref b14), .val (.int (4 : Int32)), .val (.int (1 : Int32)), .unset]) rfl k) ?_
        show own_Go _ _ _ _ T20 (mkF m 100 #[.val (.int p1), .val (.int p2), .val (.ref b1), .val (.ref b14), .val (.int (4 : Int32)), .val (.int (1 : Int32)), .unset] [])
        refine own_st (fun _ k => XS.aloadN X20.here hx rfl (hb hby at_100) rfl rfl k) ?_
        show own_Go _ _ _ _ T20 (mkF m 101 #[.val (.int p1), .val (.int p2), .val (.ref b1), .val (.ref b14), .val (.int (4 : Int32)), .val (.int (1 : Int32)), .unset] [(.ref b14)])
        refine own_st (fun _ k => XS.iload X20.here hx rfl (hb hby at_101) rfl k) ?_
        show own_Go _ _ _ _ T20 (mkF m 103 #[.val (.int p1), .val (.int p2), .val (.ref b1), .val (.ref b14), .val (.int (4 : Int32)), .val (.int (1 : Int32)), .unset] [(.int (4 : Int32)), (.ref b14)])
        refine own_st (own_ldI X20 hx hZ e20 Va20 (j := (4 : Int32)) (by decide) (v := (.int (4 : Int32))) rfl (g := (mkF m 103 #[.val (.int p1), .val (.int p2), .val (.ref b1), .val (.ref b14), .val (.int (4 : Int32)), .val (.int (1 : Int32)), .unset] [(.int (4 : Int32)), (.ref b14)])) rfl rfl (hb hby at_103)) ?_
        show own_Go _ _ _ _ T20 (mkF m 104 #[.val (.int p1), .val (.int p2), .val (.ref b1), .val (.ref b14), .val (.int (4 : Int32)), .val (.int (1 : Int32)), .unset] [(.int (4 : Int32))])
        refine own_st (fun _ k => XS.iload X20.here hx rfl (hb hby at_104) rfl k) ?_
        show own_Go _ _ _ _ T20 (mkF m 106 #[.val (.int p1), .val (.int p2), .val (.ref b1), .val (.ref b14), .val (.int (4 : Int32)), .val (.int (1 : Int32)), .unset] [(.int (1 : Int32)), (.int (4 : Int32))])
        refine own_st (fun _ k => XS.ishr X20.here hx rfl (hb hby at_106) rfl k) ?_
        show own_Go _ _ _ _ T20 (mkF m 107 #[.val (.int p1), .val (.int p2), .val (.ref b1), .val (.ref b14), .val (.int (4 : Int32)), .val (.int (1 : Int32)), .unset] [(.int ((4 : Int32) >>> ((1 : Int32) &&& 31)))])
        rw [show ((4 : Int32) >>> ((1 : Int32) &&& 31)) = (2 : Int32) from by decide]
        show own_Go _ _ _ _ T20 (mkF m 107 #[.val (.int p1), .val (.int p2), .val (.ref b1), .val (.ref b14), .val (.int (4 : Int32)), .val (.int (1 : Int32)), .unset] [(.int (2 : Int32))])
        refine own_st (fun _ k => XS.iconst X20.here hx rfl (hb hby at_107) k) ?_
        show own_Go _ _ _ _ T20 (mkF m 108 #[.val (.int p1), .val (.int p2), .val (.ref b1), .val (.ref b14), .val (.int (4 : Int32)), .val (.int (1 : Int32)), .unset] [(.int (1 : Int32)), (.int (2 : Int32))])
        refine own_st (fun _ k => XS.iand X20.here hx rfl (hb hby at_108) rfl k) ?_
        show own_Go _ _ _ _ T20 (mkF m 109 #[.val (.int p1), .val (.int p2), .val (.ref b1), .val (.ref b14), .val (.int (4 : Int32)), .val (.int (1 : Int32)), .unset] [(.int ((2 : Int32) &&& (1 : Int32)))])
        rw [show ((2 : Int32) &&& (1 : Int32)) = (0 : Int32) from by decide]
        show own_Go _ _ _ _ T20 (mkF m 109 #[.val (.int p1), .val (.int p2), .val (.ref b1), .val (.ref b14), .val (.int (4 : Int32)), .val (.int (1 : Int32)), .unset] [(.int (0 : Int32))])
        refine own_st (fun _ k => XS.ifYes X20.here hx rfl (pc0 := 109) (pc' := 116) rfl (hb hby at_109) rfl ((if0 _ _).trans (teq (by decide : (0 : Int32) = (0 : Int32))).1) (by decide) (by decide) k) ?_
        show own_Go _ _ _ _ T20 (mkF m 116 #[.val (.int p1), .val (.int p2), .val (.ref b1), .val (.ref b14), .val (.int (4 : Int32)), .val (.int (1 : Int32)), .unset] [])
        refine own_st (fun _ k => XS.iconst X20.here hx rfl (hb hby at_116) k) ?_
        show own_Go _ _ _ _ T20 (mkF m 117 #[.val (.int p1), .val (.int p2), .val (.ref b1), .val (.ref b14), .val (.int (4 : Int32)), .val (.int (1 : Int32)), .unset] [(.int (0 : Int32))])
        refine own_st (fun _ k => XS.istore X20.here hx rfl (hb hby at_117) rfl (l' := #[.val (.int p1), .val (.int p2), .val (.ref b1), .val (.ref b14), .val (.int (4 : Int32)), .val (.int (1 : Int32)), .val (.int (0 : Int32))]) rfl k) ?_
        show own_Go _ _ _ _ T20 (mkF m 119 #[.val (.int p1), .val (.int p2), .val (.ref b1), .val (.ref b14), .val (.int (4 : Int32)), .val (.int (1 : Int32)), .val (.int (0 : Int32))] [])
        refine own_st (fun _ k => XS.aloadN X20.here hx rfl (hb hby at_119) rfl rfl k) ?_
        show own_Go _ _ _ _ T20 (mkF m 120 #[.val (.int p1), .val (.int p2), .val (.ref b1), .val (.ref b14), .val (.int (4 : Int32)), .val (.int (1 : Int32)), .val (.int (0 : Int32))] [(.ref b1)])
        refine own_st (fun _ k => XS.iload X20.here hx rfl (hb hby at_120) rfl k) ?_
        show own_Go _ _ _ _ T20 (mkF m 122 #[.val (.int p1), .val (.int p2), .val (.ref b1), .val (.ref b14), .val (.int (4 : Int32)), .val (.int (1 : Int32)), .val (.int (0 : Int32))] [(.int (4 : Int32)), (.ref b1)])
        refine own_st (own_ldR X20 hx hZ e20 V_b1_20 rfl (j := (4 : Int32)) (by decide) (v := (.ref w4)) rfl (g := (mkF m 122 #[.val (.int p1), .val (.int p2), .val (.ref b1), .val (.ref b14), .val (.int (4 : Int32)), .val (.int (1 : Int32)), .val (.int (0 : Int32))] [(.int (4 : Int32)), (.ref b1)])) rfl rfl (hb hby at_122)) ?_
        show own_Go _ _ _ _ T20 (mkF m 123 #[.val (.int p1), .val (.int p2), .val (.ref b1), .val (.ref b14), .val (.int (4 : Int32)), .val (.int (1 : Int32)), .val (.int (0 : Int32))] [(.ref w4)])
        refine own_st (fun _ k => XS.iloadN X20.here hx rfl (hb hby at_123) rfl k) ?_
        show own_Go _ _ _ _ T20 (mkF m 124 #[.val (.int p1), .val (.int p2), .val (.ref b1), .val (.ref b14), .val (.int (4 : Int32)), .val (.int (1 : Int32)), .val (.int (0 : Int32))] [(.int p2), (.ref w4)])
        obtain ⟨v34, T34, L34, hQ34, X34, st34⟩ := own_callV X20 hx hZ (y := (⟨"com/example/overflowstream/overflowstream/Query$Operator", "holds", "(I)Z"⟩ : MethodName)) hown (own_w18 hw) (own_w19 hw) (own_w21 hw) (own_w20 hw) (own_w3 hw) (own_w22 hw) (by decide) (own_hold4 l hw [] w4 p2 hp20 n0 (Nat.le_trans Z0 O20.1) (E4.ext O20) (Fo4.ext O20)) e20 (E4.ext O20) (g := (mkF m 124 #[.val (.int p1), .val (.int p2), .val (.ref b1), .val (.ref b14), .val (.int (4 : Int32)), .val (.int (1 : Int32)), .val (.int (0 : Int32))] [(.int p2), (.ref w4)])) rfl (by rw [hml]; rfl) (argsL := [(.int p2)]) (rest := []) (lenOf own_pd1 rfl) rfl rfl (W := 0) (Nat.le_of_eq rfl) (hb hby at_124) (by decide) (by decide) (by decide) (by decide)
        obtain ⟨rfl, N34, e34⟩ := hQ34
        have N34' := Fr.app N20 N34
        refine own_st st34 ?_
        show own_Go _ _ _ _ T34 (mkF m 127 #[.val (.int p1), .val (.int p2), .val (.ref b1), .val (.ref b14), .val (.int (4 : Int32)), .val (.int (1 : Int32)), .val (.int (0 : Int32))] [(.int (own_h4 p2))])
        refine own_st (fun _ k => XS.iload X34.here hx rfl (hb hby at_127) rfl k) ?_
        show own_Go _ _ _ _ T34 (mkF m 129 #[.val (.int p1), .val (.int p2), .val (.ref b1), .val (.ref b14), .val (.int (4 : Int32)), .val (.int (1 : Int32)), .val (.int (0 : Int32))] [(.int (0 : Int32)), (.int (own_h4 p2))])
        refine own_st (fun _ k => XS.icmpNo X34.here hx rfl (hb hby at_129) rfl (teq (by simp [own_h4, hz] : (own_h4 p2) = (0 : Int32))).2 k) ?_
        show own_Go _ _ _ _ T34 (mkF m 132 #[.val (.int p1), .val (.int p2), .val (.ref b1), .val (.ref b14), .val (.int (4 : Int32)), .val (.int (1 : Int32)), .val (.int (0 : Int32))] [])
        refine own_st (fun _ k => XS.iconst X34.here hx rfl (hb hby at_132) k) ?_
        show own_Go _ _ _ _ T34 (mkF m 133 #[.val (.int p1), .val (.int p2), .val (.ref b1), .val (.ref b14), .val (.int (4 : Int32)), .val (.int (1 : Int32)), .val (.int (0 : Int32))] [(.int (1 : Int32))])
        refine own_st (fun _ k => XS.goto X34.here hx rfl (pc0 := 133) (pc' := 137) rfl (hb hby at_133) (by decide) (by decide) k) ?_
        show own_Go _ _ _ _ T34 (mkF m 137 #[.val (.int p1), .val (.int p2), .val (.ref b1), .val (.ref b14), .val (.int (4 : Int32)), .val (.int (1 : Int32)), .val (.int (0 : Int32))] [(.int (1 : Int32))])
        exact own_retN X34 hx hret (by simp) hlk (hb hby at_137) ⟨rfl, N34'⟩ (by decide) (by decide)
      · refine own_st (fun _ k => XS.ifYes X20.here hx rfl (pc0 := 90) (pc' := 97) rfl (hb hby at_90) rfl ((if0 _ _).trans (feq (hz : ¬ (p2 = (0 : Int32)))).2) (by decide) (by decide) k) ?_
        show own_Go _ _ _ _ T20 (mkF m 97 #[.val (.int p1), .val (.int p2), .val (.ref b1), .val (.ref b14), .val (.int (4 : Int32)), .unset, .unset] [])
        have q2 := own_s2 hs hz
        show own_Go _ _ _ _ T20 (mkF m 97 #[.val (.int p1), .val (.int p2), .val (.ref b1), .val (.ref b14), .val (.int (4 : Int32)), .unset, .unset] [])
        refine own_st (fun _ k => XS.iconst X20.here hx rfl (hb hby at_97) k) ?_
        show own_Go _ _ _ _ T20 (mkF m 98 #[.val (.int p1), .val (.int p2), .val (.ref b1), .val (.ref b14), .val (.int (4 : Int32)), .unset, .unset] [(.int (2 : Int32))])
        refine own_st (fun _ k => XS.istore X20.here hx rfl (hb hby at_98) rfl (l' := #[.val (.int p1), .val (.int p2), .val (.ref b1), .val (.ref b14), .val (.int (4 : Int32)), .val (.int (2 : Int32)), .unset]) rfl k) ?_
        show own_Go _ _ _ _ T20 (mkF m 100 #[.val (.int p1), .val (.int p2), .val (.ref b1), .val (.ref b14), .val (.int (4 : Int32)), .val (.int (2 : Int32)), .unset] [])
        refine own_st (fun _ k => XS.aloadN X20.here hx rfl (hb hby at_100) rfl rfl k) ?_
        show own_Go _ _ _ _ T20 (mkF m 101 #[.val (.int p1), .val (.int p2), .val (.ref b1), .val (.ref b14), .val (.int (4 : Int32)), .val (.int (2 : Int32)), .unset] [(.ref b14)])
        refine own_st (fun _ k => XS.iload X20.here hx rfl (hb hby at_101) rfl k) ?_
        show own_Go _ _ _ _ T20 (mkF m 103 #[.val (.int p1), .val (.int p2), .val (.ref b1), .val (.ref b14), .val (.int (4 : Int32)), .val (.int (2 : Int32)), .unset] [(.int (4 : Int32)), (.ref b14)])
        refine own_st (own_ldI X20 hx hZ e20 Va20 (j := (4 : Int32)) (by decide) (v := (.int (4 : Int32))) rfl (g := (mkF m 103 #[.val (.int p1), .val (.int p2), .val (.ref b1), .val (.ref b14), .val (.int (4 : Int32)), .val (.int (2 : Int32)), .unset] [(.int (4 : Int32)), (.ref b14)])) rfl rfl (hb hby at_103)) ?_
        show own_Go _ _ _ _ T20 (mkF m 104 #[.val (.int p1), .val (.int p2), .val (.ref b1), .val (.ref b14), .val (.int (4 : Int32)), .val (.int (2 : Int32)), .unset] [(.int (4 : Int32))])
        refine own_st (fun _ k => XS.iload X20.here hx rfl (hb hby at_104) rfl k) ?_
        show own_Go _ _ _ _ T20 (mkF m 106 #[.val (.int p1), .val (.int p2), .val (.ref b1), .val (.ref b14), .val (.int (4 : Int32)), .val (.int (2 : Int32)), .unset] [(.int (2 : Int32)), (.int (4 : Int32))])
        refine own_st (fun _ k => XS.ishr X20.here hx rfl (hb hby at_106) rfl k) ?_
        show own_Go _ _ _ _ T20 (mkF m 107 #[.val (.int p1), .val (.int p2), .val (.ref b1), .val (.ref b14), .val (.int (4 : Int32)), .val (.int (2 : Int32)), .unset] [(.int ((4 : Int32) >>> ((2 : Int32) &&& 31)))])
        rw [show ((4 : Int32) >>> ((2 : Int32) &&& 31)) = (1 : Int32) from by decide]
        show own_Go _ _ _ _ T20 (mkF m 107 #[.val (.int p1), .val (.int p2), .val (.ref b1), .val (.ref b14), .val (.int (4 : Int32)), .val (.int (2 : Int32)), .unset] [(.int (1 : Int32))])
        refine own_st (fun _ k => XS.iconst X20.here hx rfl (hb hby at_107) k) ?_
        show own_Go _ _ _ _ T20 (mkF m 108 #[.val (.int p1), .val (.int p2), .val (.ref b1), .val (.ref b14), .val (.int (4 : Int32)), .val (.int (2 : Int32)), .unset] [(.int (1 : Int32)), (.int (1 : Int32))])
        refine own_st (fun _ k => XS.iand X20.here hx rfl (hb hby at_108) rfl k) ?_
        show own_Go _ _ _ _ T20 (mkF m 109 #[.val (.int p1), .val (.int p2), .val (.ref b1), .val (.ref b14), .val (.int (4 : Int32)), .val (.int (2 : Int32)), .unset] [(.int ((1 : Int32) &&& (1 : Int32)))])
        rw [show ((1 : Int32) &&& (1 : Int32)) = (1 : Int32) from by decide]
        show own_Go _ _ _ _ T20 (mkF m 109 #[.val (.int p1), .val (.int p2), .val (.ref b1), .val (.ref b14), .val (.int (4 : Int32)), .val (.int (2 : Int32)), .unset] [(.int (1 : Int32))])
        refine own_st (fun _ k => XS.ifNo X20.here hx rfl (hb hby at_109) rfl ((if0 _ _).trans (feq (by decide : ¬ ((1 : Int32) = (0 : Int32)))).1) k) ?_
        show own_Go _ _ _ _ T20 (mkF m 112 #[.val (.int p1), .val (.int p2), .val (.ref b1), .val (.ref b14), .val (.int (4 : Int32)), .val (.int (2 : Int32)), .unset] [])
        refine own_st (fun _ k => XS.iconst X20.here hx rfl (hb hby at_112) k) ?_
        show own_Go _ _ _ _ T20 (mkF m 113 #[.val (.int p1), .val (.int p2), .val (.ref b1), .val (.ref b14), .val (.int (4 : Int32)), .val (.int (2 : Int32)), .unset] [(.int (1 : Int32))])
        refine own_st (fun _ k => XS.goto X20.here hx rfl (pc0 := 113) (pc' := 117) rfl (hb hby at_113) (by decide) (by decide) k) ?_
        show own_Go _ _ _ _ T20 (mkF m 117 #[.val (.int p1), .val (.int p2), .val (.ref b1), .val (.ref b14), .val (.int (4 : Int32)), .val (.int (2 : Int32)), .unset] [(.int (1 : Int32))])
        refine own_st (fun _ k => XS.istore X20.here hx rfl (hb hby at_117) rfl (l' := #[.val (.int p1), .val (.int p2), .val (.ref b1), .val (.ref b14), .val (.int (4 : Int32)), .val (.int (2 : Int32)), .val (.int (1 : Int32))]) rfl k) ?_
        show own_Go _ _ _ _ T20 (mkF m 119 #[.val (.int p1), .val (.int p2), .val (.ref b1), .val (.ref b14), .val (.int (4 : Int32)), .val (.int (2 : Int32)), .val (.int (1 : Int32))] [])
        refine own_st (fun _ k => XS.aloadN X20.here hx rfl (hb hby at_119) rfl rfl k) ?_
        show own_Go _ _ _ _ T20 (mkF m 120 #[.val (.int p1), .val (.int p2), .val (.ref b1), .val (.ref b14), .val (.int (4 : Int32)), .val (.int (2 : Int32)), .val (.int (1 : Int32))] [(.ref b1)])
        refine own_st (fun _ k => XS.iload X20.here hx rfl (hb hby at_120) rfl k) ?_
        show own_Go _ _ _ _ T20 (mkF m 122 #[.val (.int p1), .val (.int p2), .val (.ref b1), .val (.ref b14), .val (.int (4 : Int32)), .val (.int (2 : Int32)), .val (.int (1 : Int32))] [(.int (4 : Int32)), (.ref b1)])
        refine own_st (own_ldR X20 hx hZ e20 V_b1_20 rfl (j := (4 : Int32)) (by decide) (v := (.ref w4)) rfl (g := (mkF m 122 #[.val (.int p1), .val (.int p2), .val (.ref b1), .val (.ref b14), .val (.int (4 : Int32)), .val (.int (2 : Int32)), .val (.int (1 : Int32))] [(.int (4 : Int32)), (.ref b1)])) rfl rfl (hb hby at_122)) ?_
        show own_Go _ _ _ _ T20 (mkF m 123 #[.val (.int p1), .val (.int p2), .val (.ref b1), .val (.ref b14), .val (.int (4 : Int32)), .val (.int (2 : Int32)), .val (.int (1 : Int32))] [(.ref w4)])
        refine own_st (fun _ k => XS.iloadN X20.here hx rfl (hb hby at_123) rfl k) ?_
        show own_Go _ _ _ _ T20 (mkF m 124 #[.val (.int p1), .val (.int p2), .val (.ref b1), .val (.ref b14), .val (.int (4 : Int32)), .val (.int (2 : Int32)), .val (.int (1 : Int32))] [(.int p2), (.ref w4)])
        obtain ⟨v35, T35, L35, hQ35, X35, st35⟩ := own_callV X20 hx hZ (y := (⟨"com/example/overflowstream/overflowstream/Query$Operator", "holds", "(I)Z"⟩ : MethodName)) hown (own_w18 hw) (own_w19 hw) (own_w21 hw) (own_w20 hw) (own_w3 hw) (own_w22 hw) (by decide) (own_hold4 l hw [] w4 p2 hp20 n0 (Nat.le_trans Z0 O20.1) (E4.ext O20) (Fo4.ext O20)) e20 (E4.ext O20) (g := (mkF m 124 #[.val (.int p1), .val (.int p2), .val (.ref b1), .val (.ref b14), .val (.int (4 : Int32)), .val (.int (2 : Int32)), .val (.int (1 : Int32))] [(.int p2), (.ref w4)])) rfl (by rw [hml]; rfl) (argsL := [(.int p2)]) (rest := []) (lenOf own_pd1 rfl) rfl rfl (W := 0) (Nat.le_of_eq rfl) (hb hby at_124) (by decide) (by decide) (by decide) (by decide)
        obtain ⟨rfl, N35, e35⟩ := hQ35
        have N35' := Fr.app N20 N35
        refine own_st st35 ?_
        show own_Go _ _ _ _ T35 (mkF m 127 #[.val (.int p1), .val (.int p2), .val (.ref b1), .val (.ref b14), .val (.int (4 : Int32)), .val (.int (2 : Int32)), .val (.int (1 : Int32))] [(.int (own_h4 p2))])
        refine own_st (fun _ k => XS.iload X35.here hx rfl (hb hby at_127) rfl k) ?_
        show own_Go _ _ _ _ T35 (mkF m 129 #[.val (.int p1), .val (.int p2), .val (.ref b1), .val (.ref b14), .val (.int (4 : Int32)), .val (.int (2 : Int32)), .val (.int (1 : Int32))] [(.int (1 : Int32)), (.int (own_h4 p2))])
        refine own_st (fun _ k => XS.icmpNo X35.here hx rfl (hb hby at_129) rfl (teq (by simp [own_h4, hs, hz, q2] : (own_h4 p2) = (1 : Int32))).2 k) ?_
        show own_Go _ _ _ _ T35 (mkF m 132 #[.val (.int p1), .val (.int p2), .val (.ref b1), .val (.ref b14), .val (.int (4 : Int32)), .val (.int (2 : Int32)), .val (.int (1 : Int32))] [])
        refine own_st (fun _ k => XS.iconst X35.here hx rfl (hb hby at_132) k) ?_
        show own_Go _ _ _ _ T35 (mkF m 133 #[.val (.int p1), .val (.int p2), .val (.ref b1), .val (.ref b14), .val (.int (4 : Int32)), .val (.int (2 : Int32)), .val (.int (1 : Int32))] [(.int (1 : Int32))])
        refine own_st (fun _ k => XS.goto X35.here hx rfl (pc0 := 133) (pc' := 137) rfl (hb hby at_133) (by decide) (by decide) k) ?_
        show own_Go _ _ _ _ T35 (mkF m 137 #[.val (.int p1), .val (.int p2), .val (.ref b1), .val (.ref b14), .val (.int (4 : Int32)), .val (.int (2 : Int32)), .val (.int (1 : Int32))] [(.int (1 : Int32))])
        exact own_retN X35 hx hret (by simp) hlk (hb hby at_137) ⟨rfl, N35'⟩ (by decide) (by decide)
  · rw [hi]
    show own_Go _ _ _ _ T20 (mkF m 81 #[.val (.int p1), .val (.int p2), .val (.ref b1), .val (.ref b14), .val (.int (5 : Int32)), .unset, .unset] [])
    refine own_st (fun _ k => XS.iloadN X20.here hx rfl (hb hby at_81) rfl k) ?_
    show own_Go _ _ _ _ T20 (mkF m 82 #[.val (.int p1), .val (.int p2), .val (.ref b1), .val (.ref b14), .val (.int (5 : Int32)), .unset, .unset] [(.int p2)])
    by_cases hs : p2 < (0 : Int32)
    · refine own_st (fun _ k => XS.ifNo X20.here hx rfl (hb hby at_82) rfl ((if0 _ _).trans (tlt (hs : p2 < (0 : Int32))).2.1) k) ?_
      show own_Go _ _ _ _ T20 (mkF m 85 #[.val (.int p1), .val (.int p2), .val (.ref b1), .val (.ref b14), .val (.int (5 : Int32)), .unset, .unset] [])
      have q1 := (own_s1 hs).1
      have q2 := (own_s1 hs).2
      show own_Go _ _ _ _ T20 (mkF m 85 #[.val (.int p1), .val (.int p2), .val (.ref b1), .val (.ref b14), .val (.int (5 : Int32)), .unset, .unset] [])
      refine own_st (fun _ k => XS.iconst X20.here hx rfl (hb hby at_85) k) ?_
      show own_Go _ _ _ _ T20 (mkF m 86 #[.val (.int p1), .val (.int p2), .val (.ref b1), .val (.ref b14), .val (.int (5 : Int32)), .unset, .unset] [(.int (0 : Int32))])
      refine own_st (fun _ k => XS.goto X20.here hx rfl (pc0 := 86) (pc' := 98) rfl (hb hby at_86) (by decide) (by decide) k) ?_
      show own_Go _ _ _ _ T20 (mkF m 98 #[.val (.int p1), .val (.int p2), .val (.ref b1), .val (.ref b14), .val (.int (5 : Int32)), .unset, .unset] [(.int (0 : Int32))])
      refine own_st (fun _ k => XS.istore X20.here hx rfl (hb hby at_98) rfl (l' := #[.val (.int p1), .val (.int p2), .val (.ref b1), .val (.ref b14), .val (.int (5 : Int32)), .val (.int (0 : Int32)), .unset]) rfl k) ?_
      show own_Go _ _ _ _ T20 (mkF m 100 #[.val (.int p1), .val (.int p2), .val (.ref b1), .val (.ref b14), .val (.int (5 : Int32)), .val (.int (0 : Int32)), .unset] [])
      refine own_st (fun _ k => XS.aloadN X20.here hx rfl (hb hby at_100) rfl rfl k) ?_
      show own_Go _ _ _ _ T20 (mkF m 101 #[.val (.int p1), .val (.int p2), .val (.ref b1), .val (.ref b14), .val (.int (5 : Int32)), .val (.int (0 : Int32)), .unset] [(.ref b14)])
      refine own_st (fun _ k => XS.iload X20.here hx rfl (hb hby at_101) rfl k) ?_
      show own_Go _ _ _ _ T20 (mkF m 103 #[.val (.int p1), .val (.int p2), .val (.ref b1), .val (.ref b14), .val (.int (5 : Int32)), .val (.int (0 : Int32)), .unset] [(.int (5 : Int32)), (.ref b14)])
      refine own_st (own_ldI X20 hx hZ e20 Va20 (j := (5 : Int32)) (by decide) (v := (.int (6 : Int32))) rfl (g := (mkF m 103 #[.val (.int p1), .val (.int p2), .val (.ref b1), .val (.ref b14), .val (.int (5 : Int32)), .val (.int (0 : Int32)), .unset] [(.int (5 : Int32)), (.ref b14)])) rfl rfl (hb hby at_103)) ?_
      show own_Go _ _ _ _ T20 (mkF m 104 #[.val (.int p1), .val (.int p2), .val (.ref b1), .val (.ref b14), .val (.int (5 : Int32)), .val (.int (0 : Int32)), .unset] [(.int (6 : Int32))])
      refine own_st (fun _ k => XS.iload X20.here hx rfl (hb hby at_104) rfl k) ?_
      show own_Go _ _ _ _ T20 (mkF m 106 #[.val (.int p1), .val (.int p2), .val (.ref b1), .val (.ref b14), .val (.int (5 : Int32)), .val (.int (0 : Int32)), .unset] [(.int (0 : Int32)), (.int (6 : Int32))])
      refine own_st (fun _ k => XS.ishr X20.here hx rfl (hb hby at_106) rfl k) ?_
      show own_Go _ _ _ _ T20 (mkF m 107 #[.val (.int p1), .val (.int p2), .val (.ref b1), .val (.ref b14), .val (.int (5 : Int32)), .val (.int (0 : Int32)), .unset] [(.int ((6 : Int32) >>> ((0 : Int32) &&& 31)))])
      rw [show ((6 : Int32) >>> ((0 : Int32) &&& 31)) = (6 : Int32) from by decide]
      show own_Go _ _ _ _ T20 (mkF m 107 #[.val (.int p1), .val (.int p2), .val (.ref b1), .val (.ref b14), .val (.int (5 : Int32)), .val (.int (0 : Int32)), .unset] [(.int (6 : Int32))])
      refine own_st (fun _ k => XS.iconst X20.here hx rfl (hb hby at_107) k) ?_
      show own_Go _ _ _ _ T20 (mkF m 108 #[.val (.int p1), .val (.int p2), .val (.ref b1), .val (.ref b14), .val (.int (5 : Int32)), .val (.int (0 : Int32)), .unset] [(.int (1 : Int32)), (.int (6 : Int32))])
      refine own_st (fun _ k => XS.iand X20.here hx rfl (hb hby at_108) rfl k) ?_
      show own_Go _ _ _ _ T20 (mkF m 109 #[.val (.int p1), .val (.int p2), .val (.ref b1), .val (.ref b14), .val (.int (5 : Int32)), .val (.int (0 : Int32)), .unset] [(.int ((6 : Int32) &&& (1 : Int32)))])
      rw [show ((6 : Int32) &&& (1 : Int32)) = (0 : Int32) from by decide]
      show own_Go _ _ _ _ T20 (mkF m 109 #[.val (.int p1), .val (.int p2), .val (.ref b1), .val (.ref b14), .val (.int (5 : Int32)), .val (.int (0 : Int32)), .unset] [(.int (0 : Int32))])
      refine own_st (fun _ k => XS.ifYes X20.here hx rfl (pc0 := 109) (pc' := 116) rfl (hb hby at_109) rfl ((if0 _ _).trans (teq (by decide : (0 : Int32) = (0 : Int32))).1) (by decide) (by decide) k) ?_
      show own_Go _ _ _ _ T20 (mkF m 116 #[.val (.int p1), .val (.int p2), .val (.ref b1), .val (.ref b14), .val (.int (5 : Int32)), .val (.int (0 : Int32)), .unset] [])
      refine own_st (fun _ k => XS.iconst X20.here hx rfl (hb hby at_116) k) ?_
      show own_Go _ _ _ _ T20 (mkF m 117 #[.val (.int p1), .val (.int p2), .val (.ref b1), .val (.ref b14), .val (.int (5 : Int32)), .val (.int (0 : Int32)), .unset] [(.int (0 : Int32))])
      refine own_st (fun _ k => XS.istore X20.here hx rfl (hb hby at_117) rfl (l' := #[.val (.int p1), .val (.int p2), .val (.ref b1), .val (.ref b14), .val (.int (5 : Int32)), .val (.int (0 : Int32)), .val (.int (0 : Int32))]) rfl k) ?_
      show own_Go _ _ _ _ T20 (mkF m 119 #[.val (.int p1), .val (.int p2), .val (.ref b1), .val (.ref b14), .val (.int (5 : Int32)), .val (.int (0 : Int32)), .val (.int (0 : Int32))] [])
      refine own_st (fun _ k => XS.aloadN X20.here hx rfl (hb hby at_119) rfl rfl k) ?_
      show own_Go _ _ _ _ T20 (mkF m 120 #[.val (.int p1), .val (.int p2), .val (.ref b1), .val (.ref b14), .val (.int (5 : Int32)), .val (.int (0 : Int32)), .val (.int (0 : Int32))] [(.ref b1)])
      refine own_st (fun _ k => XS.iload X20.here hx rfl (hb hby at_120) rfl k) ?_
      show own_Go _ _ _ _ T20 (mkF m 122 #[.val (.int p1), .val (.int p2), .val (.ref b1), .val (.ref b14), .val (.int (5 : Int32)), .val (.int (0 : Int32)), .val (.int (0 : Int32))] [(.int (5 : Int32)), (.ref b1)])
      refine own_st (own_ldR X20 hx hZ e20 V_b1_20 rfl (j := (5 : Int32)) (by decide) (v := (.ref w5)) rfl (g := (mkF m 122 #[.val (.int p1), .val (.int p2), .val (.ref b1), .val (.ref b14), .val (.int (5 : Int32)), .val (.int (0 : Int32)), .val (.int (0 : Int32))] [(.int (5 : Int32)), (.ref b1)])) rfl rfl (hb hby at_122)) ?_
      show own_Go _ _ _ _ T20 (mkF m 123 #[.val (.int p1), .val (.int p2), .val (.ref b1), .val (.ref b14), .val (.int (5 : Int32)), .val (.int (0 : Int32)), .val (.int (0 : Int32))] [(.ref w5)])
      refine own_st (fun _ k => XS.iloadN X20.here hx rfl (hb hby at_123) rfl k) ?_
      show own_Go _ _ _ _ T20 (mkF m 124 #[.val (.int p1), .val (.int p2), .val (.ref b1), .val (.ref b14), .val (.int (5 : Int32)), .val (.int (0 : Int32)), .val (.int (0 : Int32))] [(.int p2), (.ref w5)])
      obtain ⟨v36, T36, L36, hQ36, X36, st36⟩ := own_callV X20 hx hZ (y := (⟨"com/example/overflowstream/overflowstream/Query$Operator", "holds", "(I)Z"⟩ : MethodName)) hown (own_w18 hw) (own_w19 hw) (own_w21 hw) (own_w20 hw) (own_w3 hw) (own_w22 hw) (by decide) (own_hold5 l hw [] w5 p2 hp20 n0 (Nat.le_trans Z0 O20.1) (E5.ext O20) (Fo5.ext O20)) e20 (E5.ext O20) (g := (mkF m 124 #[.val (.int p1), .val (.int p2), .val (.ref b1), .val (.ref b14), .val (.int (5 : Int32)), .val (.int (0 : Int32)), .val (.int (0 : Int32))] [(.int p2), (.ref w5)])) rfl (by rw [hml]; rfl) (argsL := [(.int p2)]) (rest := []) (lenOf own_pd1 rfl) rfl rfl (W := 0) (Nat.le_of_eq rfl) (hb hby at_124) (by decide) (by decide) (by decide) (by decide)
      obtain ⟨rfl, N36, e36⟩ := hQ36
      have N36' := Fr.app N20 N36
      refine own_st st36 ?_
      show own_Go _ _ _ _ T36 (mkF m 127 #[.val (.int p1), .val (.int p2), .val (.ref b1), .val (.ref b14), .val (.int (5 : Int32)), .val (.int (0 : Int32)), .val (.int (0 : Int32))] [(.int (own_h5 p2))])
      refine own_st (fun _ k => XS.iload X36.here hx rfl (hb hby at_127) rfl k) ?_
      show own_Go _ _ _ _ T36 (mkF m 129 #[.val (.int p1), .val (.int p2), .val (.ref b1), .val (.ref b14), .val (.int (5 : Int32)), .val (.int (0 : Int32)), .val (.int (0 : Int32))] [(.int (0 : Int32)), (.int (own_h5 p2))])
      refine own_st (fun _ k => XS.icmpNo X36.here hx rfl (hb hby at_129) rfl (teq (by simp [own_h5, hs, q1, q2] : (own_h5 p2) = (0 : Int32))).2 k) ?_
      show own_Go _ _ _ _ T36 (mkF m 132 #[.val (.int p1), .val (.int p2), .val (.ref b1), .val (.ref b14), .val (.int (5 : Int32)), .val (.int (0 : Int32)), .val (.int (0 : Int32))] [])
      refine own_st (fun _ k => XS.iconst X36.here hx rfl (hb hby at_132) k) ?_
      show own_Go _ _ _ _ T36 (mkF m 133 #[.val (.int p1), .val (.int p2), .val (.ref b1), .val (.ref b14), .val (.int (5 : Int32)), .val (.int (0 : Int32)), .val (.int (0 : Int32))] [(.int (1 : Int32))])
      refine own_st (fun _ k => XS.goto X36.here hx rfl (pc0 := 133) (pc' := 137) rfl (hb hby at_133) (by decide) (by decide) k) ?_
      show own_Go _ _ _ _ T36 (mkF m 137 #[.val (.int p1), .val (.int p2), .val (.ref b1), .val (.ref b14), .val (.int (5 : Int32)), .val (.int (0 : Int32)), .val (.int (0 : Int32))] [(.int (1 : Int32))])
      exact own_retN X36 hx hret (by simp) hlk (hb hby at_137) ⟨rfl, N36'⟩ (by decide) (by decide)
    · refine own_st (fun _ k => XS.ifYes X20.here hx rfl (pc0 := 82) (pc' := 89) rfl (hb hby at_82) rfl ((if0 _ _).trans (flt (hs : ¬ (p2 < (0 : Int32)))).2.1) (by decide) (by decide) k) ?_
      show own_Go _ _ _ _ T20 (mkF m 89 #[.val (.int p1), .val (.int p2), .val (.ref b1), .val (.ref b14), .val (.int (5 : Int32)), .unset, .unset] [])
      refine own_st (fun _ k => XS.iloadN X20.here hx rfl (hb hby at_89) rfl k) ?_
      show own_Go _ _ _ _ T20 (mkF m 90 #[.val (.int p1), .val (.int p2), .val (.ref b1), .val (.ref b14), .val (.int (5 : Int32)), .unset, .unset] [(.int p2)])
      by_cases hz : p2 = (0 : Int32)
      · refine own_st (fun _ k => XS.ifNo X20.here hx rfl (hb hby at_90) rfl ((if0 _ _).trans (teq (hz : p2 = (0 : Int32))).2) k) ?_
        show own_Go _ _ _ _ T20 (mkF m 93 #[.val (.int p1), .val (.int p2), .val (.ref b1), .val (.ref b14), .val (.int (5 : Int32)), .unset, .unset] [])
        have q2 : ¬ (0 : Int32) < p2 := by rw [hz]; decide
        have q3 : ¬ p2 < (0 : Int32) := by rw [hz]; decide
        show own_Go _ _ _ _ T20 (mkF m 93 #[.val (.int p1), .val (.int p2), .val (.ref b1), .val (.ref b14), .val (.int (5 : Int32)), .unset, .unset] [])
        refine own_st (fun _ k => XS.iconst X20.here hx rfl (hb hby at_93) k) ?_
        show own_Go _ _ _ _ T20 (mkF m 94 #[.val (.int p1), .val (.int p2), .val (.ref b1), .val (.ref b14), .val (.int (5 : Int32)), .unset, .unset] [(.int (1 : Int32))])
        refine own_st (fun _ k => XS.goto X20.here hx rfl (pc0 := 94) (pc' := 98) rfl (hb hby at_94) (by decide) (by decide) k) ?_
        show own_Go _ _ _ _ T20 (mkF m 98 #[.val (.int p1), .val (.int p2), .val (.ref b1), .val (.ref b14), .val (.int (5 : Int32)), .unset, .unset] [(.int (1 : Int32))])
        refine own_st (fun _ k => XS.istore X20.here hx rfl (hb hby at_98) rfl (l' := #[.val (.int p1), .val (.int p2), .val (.ref b1), .val (.ref b14), .val (.int (5 : Int32)), .val (.int (1 : Int32)), .unset]) rfl k) ?_
        show own_Go _ _ _ _ T20 (mkF m 100 #[.val (.int p1), .val (.int p2), .val (.ref b1), .val (.ref b14), .val (.int (5 : Int32)), .val (.int (1 : Int32)), .unset] [])
        refine own_st (fun _ k => XS.aloadN X20.here hx rfl (hb hby at_100) rfl rfl k) ?_
        show own_Go _ _ _ _ T20 (mkF m 101 #[.val (.int p1), .val (.int p2), .val (.ref b1), .val (.ref b14), .val (.int (5 : Int32)), .val (.int (1 : Int32)), .unset] [(.ref b14)])
        refine own_st (fun _ k => XS.iload X20.here hx rfl (hb hby at_101) rfl k) ?_
        show own_Go _ _ _ _ T20 (mkF m 103 #[.val (.int p1), .val (.int p2), .val (.ref b1), .val (.ref b14), .val (.int (5 : Int32)), .val (.int (1 : Int32)), .unset] [(.int (5 : Int32)), (.ref b14)])
        refine own_st (own_ldI X20 hx hZ e20 Va20 (j := (5 : Int32)) (by decide) (v := (.int (6 : Int32))) rfl (g := (mkF m 103 #[.val (.int p1), .val (.int p2), .val (.ref b1), .val (.ref b14), .val (.int (5 : Int32)), .val (.int (1 : Int32)), .unset] [(.int (5 : Int32)), (.ref b14)])) rfl rfl (hb hby at_103)) ?_
        show own_Go _ _ _ _ T20 (mkF m 104 #[.val (.int p1), .val (.int p2), .val (.ref b1), .val (.ref b14), .val (.int (5 : Int32)), .val (.int (1 : Int32)), .unset] [(.int (6 : Int32))])
        refine own_st (fun _ k => XS.iload X20.here hx rfl (hb hby at_104) rfl k) ?_
        show own_Go _ _ _ _ T20 (mkF m 106 #[.val (.int p1), .val (.int p2), .val (.ref b1), .val (.ref b14), .val (.int (5 : Int32)), .val (.int (1 : Int32)), .unset] [(.int (1 : Int32)), (.int (6 : Int32))])
        refine own_st (fun _ k => XS.ishr X20.here hx rfl (hb hby at_106) rfl k) ?_
        show own_Go _ _ _ _ T20 (mkF m 107 #[.val (.int p1), .val (.int p2), .val (.ref b1), .val (.ref b14), .val (.int (5 : Int32)), .val (.int (1 : Int32)), .unset] [(.int ((6 : Int32) >>> ((1 : Int32) &&& 31)))])
        rw [show ((6 : Int32) >>> ((1 : Int32) &&& 31)) = (3 : Int32) from by decide]
        show own_Go _ _ _ _ T20 (mkF m 107 #[.val (.int p1), .val (.int p2), .val (.ref b1), .val (.ref b14), .val (.int (5 : Int32)), .val (.int (1 : Int32)), .unset] [(.int (3 : Int32))])
        refine own_st (fun _ k => XS.iconst X20.here hx rfl (hb hby at_107) k) ?_
        show own_Go _ _ _ _ T20 (mkF m 108 #[.val (.int p1), .val (.int p2), .val (.ref b1), .val (.ref b14), .val (.int (5 : Int32)), .val (.int (1 : Int32)), .unset] [(.int (1 : Int32)), (.int (3 : Int32))])
        refine own_st (fun _ k => XS.iand X20.here hx rfl (hb hby at_108) rfl k) ?_
        show own_Go _ _ _ _ T20 (mkF m 109 #[.val (.int p1), .val (.int p2), .val (.ref b1), .val (.ref b14), .val (.int (5 : Int32)), .val (.int (1 : Int32)), .unset] [(.int ((3 : Int32) &&& (1 : Int32)))])
        rw [show ((3 : Int32) &&& (1 : Int32)) = (1 : Int32) from by decide]
        show own_Go _ _ _ _ T20 (mkF m 109 #[.val (.int p1), .val (.int p2), .val (.ref b1), .val (.ref b14), .val (.int (5 : Int32)), .val (.int (1 : Int32)), .unset] [(.int (1 : Int32))])
        refine own_st (fun _ k => XS.ifNo X20.here hx rfl (hb hby at_109) rfl ((if0 _ _).trans (feq (by decide : ¬ ((1 : Int32) = (0 : Int32)))).1) k) ?_
        show own_Go _ _ _ _ T20 (mkF m 112 #[.val (.int p1), .val (.int p2), .val (.ref b1), .val (.ref b14), .val (.int (5 : Int32)), .val (.int (1 : Int32)), .unset] [])
        refine own_st (fun _ k => XS.iconst X20.here hx rfl (hb hby at_112) k) ?_
        show own_Go _ _ _ _ T20 (mkF m 113 #[.val (.int p1), .val (.int p2), .val (.ref b1), .val (.ref b14), .val (.int (5 : Int32)), .val (.int (1 : Int32)), .unset] [(.int (1 : Int32))])
        refine own_st (fun _ k => XS.goto X20.here hx rfl (pc0 := 113) (pc' := 117) rfl (hb hby at_113) (by decide) (by decide) k) ?_
        show own_Go _ _ _ _ T20 (mkF m 117 #[.val (.int p1), .val (.int p2), .val (.ref b1), .val (.ref b14), .val (.int (5 : Int32)), .val (.int (1 : Int32)), .unset] [(.int (1 : Int32))])
        refine own_st (fun _ k => XS.istore X20.here hx rfl (hb hby at_117) rfl (l' := #[.val (.int p1), .val (.int p2), .val (.ref b1), .val (.ref b14), .val (.int (5 : Int32)), .val (.int (1 : Int32)), .val (.int (1 : Int32))]) rfl k) ?_
        show own_Go _ _ _ _ T20 (mkF m 119 #[.val (.int p1), .val (.int p2), .val (.ref b1), .val (.ref b14), .val (.int (5 : Int32)), .val (.int (1 : Int32)), .val (.int (1 : Int32))] [])
        refine own_st (fun _ k => XS.aloadN X20.here hx rfl (hb hby at_119) rfl rfl k) ?_
        show own_Go _ _ _ _ T20 (mkF m 120 #[.val (.int p1), .val (.int p2), .val (.ref b1), .val (.ref b14), .val (.int (5 : Int32)), .val (.int (1 : Int32)), .val (.int (1 : Int32))] [(.ref b1)])
        refine own_st (fun _ k => XS.iload X20.here hx rfl (hb hby at_120) rfl k) ?_
        show own_Go _ _ _ _ T20 (mkF m 122 #[.val (.int p1), .val (.int p2), .val (.ref b1), .val (.ref b14), .val (.int (5 : Int32)), .val (.int (1 : Int32)), .val (.int (1 : Int32))] [(.int (5 : Int32)), (.ref b1)])
        refine own_st (own_ldR X20 hx hZ e20 V_b1_20 rfl (j := (5 : Int32)) (by decide) (v := (.ref w5)) rfl (g := (mkF m 122 #[.val (.int p1), .val (.int p2), .val (.ref b1), .val (.ref b14), .val (.int (5 : Int32)), .val (.int (1 : Int32)), .val (.int (1 : Int32))] [(.int (5 : Int32)), (.ref b1)])) rfl rfl (hb hby at_122)) ?_
        show own_Go _ _ _ _ T20 (mkF m 123 #[.val (.int p1), .val (.int p2), .val (.ref b1), .val (.ref b14), .val (.int (5 : Int32)), .val (.int (1 : Int32)), .val (.int (1 : Int32))] [(.ref w5)])
        refine own_st (fun _ k => XS.iloadN X20.here hx rfl (hb hby at_123) rfl k) ?_
        show own_Go _ _ _ _ T20 (mkF m 124 #[.val (.int p1), .val (.int p2), .val (.ref b1), .val (.ref b14), .val (.int (5 : Int32)), .val (.int (1 : Int32)), .val (.int (1 : Int32))] [(.int p2), (.ref w5)])
        obtain ⟨v37, T37, L37, hQ37, X37, st37⟩ := own_callV X20 hx hZ (y := (⟨"com/example/overflowstream/overflowstream/Query$Operator", "holds", "(I)Z"⟩ : MethodName)) hown (own_w18 hw) (own_w19 hw) (own_w21 hw) (own_w20 hw) (own_w3 hw) (own_w22 hw) (by decide) (own_hold5 l hw [] w5 p2 hp20 n0 (Nat.le_trans Z0 O20.1) (E5.ext O20) (Fo5.ext O20)) e20 (E5.ext O20) (g := (mkF m 124 #[.val (.int p1), .val (.int p2), .val (.ref b1), .val (.ref b14), .val (.int (5 : Int32)), .val (.int (1 : Int32)), .val (.int (1 : Int32))] [(.int p2), (.ref w5)])) rfl (by rw [hml]; rfl) (argsL := [(.int p2)]) (rest := []) (lenOf own_pd1 rfl) rfl rfl (W := 0) (Nat.le_of_eq rfl) (hb hby at_124) (by decide) (by decide) (by decide) (by decide)
        obtain ⟨rfl, N37, e37⟩ := hQ37
        have N37' := Fr.app N20 N37
        refine own_st st37 ?_
        show own_Go _ _ _ _ T37 (mkF m 127 #[.val (.int p1), .val (.int p2), .val (.ref b1), .val (.ref b14), .val (.int (5 : Int32)), .val (.int (1 : Int32)), .val (.int (1 : Int32))] [(.int (own_h5 p2))])
        refine own_st (fun _ k => XS.iload X37.here hx rfl (hb hby at_127) rfl k) ?_
        show own_Go _ _ _ _ T37 (mkF m 129 #[.val (.int p1), .val (.int p2), .val (.ref b1), .val (.ref b14), .val (.int (5 : Int32)), .val (.int (1 : Int32)), .val (.int (1 : Int32))] [(.int (1 : Int32)), (.int (own_h5 p2))])
        refine own_st (fun _ k => XS.icmpNo X37.here hx rfl (hb hby at_129) rfl (teq (by simp [own_h5, hz] : (own_h5 p2) = (1 : Int32))).2 k) ?_
        show own_Go _ _ _ _ T37 (mkF m 132 #[.val (.int p1), .val (.int p2), .val (.ref b1), .val (.ref b14), .val (.int (5 : Int32)), .val (.int (1 : Int32)), .val (.int (1 : Int32))] [])
        refine own_st (fun _ k => XS.iconst X37.here hx rfl (hb hby at_132) k) ?_
        show own_Go _ _ _ _ T37 (mkF m 133 #[.val (.int p1), .val (.int p2), .val (.ref b1), .val (.ref b14), .val (.int (5 : Int32)), .val (.int (1 : Int32)), .val (.int (1 : Int32))] [(.int (1 : Int32))])
        refine own_st (fun _ k => XS.goto X37.here hx rfl (pc0 := 133) (pc' := 137) rfl (hb hby at_133) (by decide) (by decide) k) ?_
        show own_Go _ _ _ _ T37 (mkF m 137 #[.val (.int p1), .val (.int p2), .val (.ref b1), .val (.ref b14), .val (.int (5 : Int32)), .val (.int (1 : Int32)), .val (.int (1 : Int32))] [(.int (1 : Int32))])
        exact own_retN X37 hx hret (by simp) hlk (hb hby at_137) ⟨rfl, N37'⟩ (by decide) (by decide)
      · refine own_st (fun _ k => XS.ifYes X20.here hx rfl (pc0 := 90) (pc' := 97) rfl (hb hby at_90) rfl ((if0 _ _).trans (feq (hz : ¬ (p2 = (0 : Int32)))).2) (by decide) (by decide) k) ?_
        show own_Go _ _ _ _ T20 (mkF m 97 #[.val (.int p1), .val (.int p2), .val (.ref b1), .val (.ref b14), .val (.int (5 : Int32)), .unset, .unset] [])
        have q2 := own_s2 hs hz
        show own_Go _ _ _ _ T20 (mkF m 97 #[.val (.int p1), .val (.int p2), .val (.ref b1), .val (.ref b14), .val (.int (5 : Int32)), .unset, .unset] [])
        refine own_st (fun _ k => XS.iconst X20.here hx rfl (hb hby at_97) k) ?_
        show own_Go _ _ _ _ T20 (mkF m 98 #[.val (.int p1), .val (.int p2), .val (.ref b1), .val (.ref b14), .val (.int (5 : Int32)), .unset, .unset] [(.int (2 : Int32))])
        refine own_st (fun _ k => XS.istore X20.here hx rfl (hb hby at_98) rfl (l' := #[.val (.int p1), .val (.int p2), .val (.ref b1), .val (.ref b14), .val (.int (5 : Int32)), .val (.int (2 : Int32)), .unset]) rfl k) ?_
        show own_Go _ _ _ _ T20 (mkF m 100 #[.val (.int p1), .val (.int p2), .val (.ref b1), .val (.ref b14), .val (.int (5 : Int32)), .val (.int (2 : Int32)), .unset] [])
        refine own_st (fun _ k => XS.aloadN X20.here hx rfl (hb hby at_100) rfl rfl k) ?_
        show own_Go _ _ _ _ T20 (mkF m 101 #[.val (.int p1), .val (.int p2), .val (.ref b1), .val (.ref b14), .val (.int (5 : Int32)), .val (.int (2 : Int32)), .unset] [(.ref b14)])
        refine own_st (fun _ k => XS.iload X20.here hx rfl (hb hby at_101) rfl k) ?_
        show own_Go _ _ _ _ T20 (mkF m 103 #[.val (.int p1), .val (.int p2), .val (.ref b1), .val (.ref b14), .val (.int (5 : Int32)), .val (.int (2 : Int32)), .unset] [(.int (5 : Int32)), (.ref b14)])
        refine own_st (own_ldI X20 hx hZ e20 Va20 (j := (5 : Int32)) (by decide) (v := (.int (6 : Int32))) rfl (g := (mkF m 103 #[.val (.int p1), .val (.int p2), .val (.ref b1), .val (.ref b14), .val (.int (5 : Int32)), .val (.int (2 : Int32)), .unset] [(.int (5 : Int32)), (.ref b14)])) rfl rfl (hb hby at_103)) ?_
        show own_Go _ _ _ _ T20 (mkF m 104 #[.val (.int p1), .val (.int p2), .val (.ref b1), .val (.ref b14), .val (.int (5 : Int32)), .val (.int (2 : Int32)), .unset] [(.int (6 : Int32))])
        refine own_st (fun _ k => XS.iload X20.here hx rfl (hb hby at_104) rfl k) ?_
        show own_Go _ _ _ _ T20 (mkF m 106 #[.val (.int p1), .val (.int p2), .val (.ref b1), .val (.ref b14), .val (.int (5 : Int32)), .val (.int (2 : Int32)), .unset] [(.int (2 : Int32)), (.int (6 : Int32))])
        refine own_st (fun _ k => XS.ishr X20.here hx rfl (hb hby at_106) rfl k) ?_
        show own_Go _ _ _ _ T20 (mkF m 107 #[.val (.int p1), .val (.int p2), .val (.ref b1), .val (.ref b14), .val (.int (5 : Int32)), .val (.int (2 : Int32)), .unset] [(.int ((6 : Int32) >>> ((2 : Int32) &&& 31)))])
        rw [show ((6 : Int32) >>> ((2 : Int32) &&& 31)) = (1 : Int32) from by decide]
        show own_Go _ _ _ _ T20 (mkF m 107 #[.val (.int p1), .val (.int p2), .val (.ref b1), .val (.ref b14), .val (.int (5 : Int32)), .val (.int (2 : Int32)), .unset] [(.int (1 : Int32))])
        refine own_st (fun _ k => XS.iconst X20.here hx rfl (hb hby at_107) k) ?_
        show own_Go _ _ _ _ T20 (mkF m 108 #[.val (.int p1), .val (.int p2), .val (.ref b1), .val (.ref b14), .val (.int (5 : Int32)), .val (.int (2 : Int32)), .unset] [(.int (1 : Int32)), (.int (1 : Int32))])
        refine own_st (fun _ k => XS.iand X20.here hx rfl (hb hby at_108) rfl k) ?_
        show own_Go _ _ _ _ T20 (mkF m 109 #[.val (.int p1), .val (.int p2), .val (.ref b1), .val (.ref b14), .val (.int (5 : Int32)), .val (.int (2 : Int32)), .unset] [(.int ((1 : Int32) &&& (1 : Int32)))])
        rw [show ((1 : Int32) &&& (1 : Int32)) = (1 : Int32) from by decide]
        show own_Go _ _ _ _ T20 (mkF m 109 #[.val (.int p1), .val (.int p2), .val (.ref b1), .val (.ref b14), .val (.int (5 : Int32)), .val (.int (2 : Int32)), .unset] [(.int (1 : Int32))])
        refine own_st (fun _ k => XS.ifNo X20.here hx rfl (hb hby at_109) rfl ((if0 _ _).trans (feq (by decide : ¬ ((1 : Int32) = (0 : Int32)))).1) k) ?_
        show own_Go _ _ _ _ T20 (mkF m 112 #[.val (.int p1), .val (.int p2), .val (.ref b1), .val (.ref b14), .val (.int (5 : Int32)), .val (.int (2 : Int32)), .unset] [])
        refine own_st (fun _ k => XS.iconst X20.here hx rfl (hb hby at_112) k) ?_
        show own_Go _ _ _ _ T20 (mkF m 113 #[.val (.int p1), .val (.int p2), .val (.ref b1), .val (.ref b14), .val (.int (5 : Int32)), .val (.int (2 : Int32)), .unset] [(.int (1 : Int32))])
        refine own_st (fun _ k => XS.goto X20.here hx rfl (pc0 := 113) (pc' := 117) rfl (hb hby at_113) (by decide) (by decide) k) ?_
        show own_Go _ _ _ _ T20 (mkF m 117 #[.val (.int p1), .val (.int p2), .val (.ref b1), .val (.ref b14), .val (.int (5 : Int32)), .val (.int (2 : Int32)), .unset] [(.int (1 : Int32))])
        refine own_st (fun _ k => XS.istore X20.here hx rfl (hb hby at_117) rfl (l' := #[.val (.int p1), .val (.int p2), .val (.ref b1), .val (.ref b14), .val (.int (5 : Int32)), .val (.int (2 : Int32)), .val (.int (1 : Int32))]) rfl k) ?_
        show own_Go _ _ _ _ T20 (mkF m 119 #[.val (.int p1), .val (.int p2), .val (.ref b1), .val (.ref b14), .val (.int (5 : Int32)), .val (.int (2 : Int32)), .val (.int (1 : Int32))] [])
        refine own_st (fun _ k => XS.aloadN X20.here hx rfl (hb hby at_119) rfl rfl k) ?_
        show own_Go _ _ _ _ T20 (mkF m 120 #[.val (.int p1), .val (.int p2), .val (.ref b1), .val (.ref b14), .val (.int (5 : Int32)), .val (.int (2 : Int32)), .val (.int (1 : Int32))] [(.ref b1)])
        refine own_st (fun _ k => XS.iload X20.here hx rfl (hb hby at_120) rfl k) ?_
        show own_Go _ _ _ _ T20 (mkF m 122 #[.val (.int p1), .val (.int p2), .val (.ref b1), .val (.ref b14), .val (.int (5 : Int32)), .val (.int (2 : Int32)), .val (.int (1 : Int32))] [(.int (5 : Int32)), (.ref b1)])
        refine own_st (own_ldR X20 hx hZ e20 V_b1_20 rfl (j := (5 : Int32)) (by decide) (v := (.ref w5)) rfl (g := (mkF m 122 #[.val (.int p1), .val (.int p2), .val (.ref b1), .val (.ref b14), .val (.int (5 : Int32)), .val (.int (2 : Int32)), .val (.int (1 : Int32))] [(.int (5 : Int32)), (.ref b1)])) rfl rfl (hb hby at_122)) ?_
        show own_Go _ _ _ _ T20 (mkF m 123 #[.val (.int p1), .val (.int p2), .val (.ref b1), .val (.ref b14), .val (.int (5 : Int32)), .val (.int (2 : Int32)), .val (.int (1 : Int32))] [(.ref w5)])
        refine own_st (fun _ k => XS.iloadN X20.here hx rfl (hb hby at_123) rfl k) ?_
        show own_Go _ _ _ _ T20 (mkF m 124 #[.val (.int p1), .val (.int p2), .val (.ref b1), .val (.ref b14), .val (.int (5 : Int32)), .val (.int (2 : Int32)), .val (.int (1 : Int32))] [(.int p2), (.ref w5)])
        obtain ⟨v38, T38, L38, hQ38, X38, st38⟩ := own_callV X20 hx hZ (y := (⟨"com/example/overflowstream/overflowstream/Query$Operator", "holds", "(I)Z"⟩ : MethodName)) hown (own_w18 hw) (own_w19 hw) (own_w21 hw) (own_w20 hw) (own_w3 hw) (own_w22 hw) (by decide) (own_hold5 l hw [] w5 p2 hp20 n0 (Nat.le_trans Z0 O20.1) (E5.ext O20) (Fo5.ext O20)) e20 (E5.ext O20) (g := (mkF m 124 #[.val (.int p1), .val (.int p2), .val (.ref b1), .val (.ref b14), .val (.int (5 : Int32)), .val (.int (2 : Int32)), .val (.int (1 : Int32))] [(.int p2), (.ref w5)])) rfl (by rw [hml]; rfl) (argsL := [(.int p2)]) (rest := []) (lenOf own_pd1 rfl) rfl rfl (W := 0) (Nat.le_of_eq rfl) (hb hby at_124) (by decide) (by decide) (by decide) (by decide)
        obtain ⟨rfl, N38, e38⟩ := hQ38
        have N38' := Fr.app N20 N38
        refine own_st st38 ?_
        show own_Go _ _ _ _ T38 (mkF m 127 #[.val (.int p1), .val (.int p2), .val (.ref b1), .val (.ref b14), .val (.int (5 : Int32)), .val (.int (2 : Int32)), .val (.int (1 : Int32))] [(.int (own_h5 p2))])
        refine own_st (fun _ k => XS.iload X38.here hx rfl (hb hby at_127) rfl k) ?_
        show own_Go _ _ _ _ T38 (mkF m 129 #[.val (.int p1), .val (.int p2), .val (.ref b1), .val (.ref b14), .val (.int (5 : Int32)), .val (.int (2 : Int32)), .val (.int (1 : Int32))] [(.int (1 : Int32)), (.int (own_h5 p2))])
        refine own_st (fun _ k => XS.icmpNo X38.here hx rfl (hb hby at_129) rfl (teq (by simp [own_h5, hs, hz, q2] : (own_h5 p2) = (1 : Int32))).2 k) ?_
        show own_Go _ _ _ _ T38 (mkF m 132 #[.val (.int p1), .val (.int p2), .val (.ref b1), .val (.ref b14), .val (.int (5 : Int32)), .val (.int (2 : Int32)), .val (.int (1 : Int32))] [])
        refine own_st (fun _ k => XS.iconst X38.here hx rfl (hb hby at_132) k) ?_
        show own_Go _ _ _ _ T38 (mkF m 133 #[.val (.int p1), .val (.int p2), .val (.ref b1), .val (.ref b14), .val (.int (5 : Int32)), .val (.int (2 : Int32)), .val (.int (1 : Int32))] [(.int (1 : Int32))])
        refine own_st (fun _ k => XS.goto X38.here hx rfl (pc0 := 133) (pc' := 137) rfl (hb hby at_133) (by decide) (by decide) k) ?_
        show own_Go _ _ _ _ T38 (mkF m 137 #[.val (.int p1), .val (.int p2), .val (.ref b1), .val (.ref b14), .val (.int (5 : Int32)), .val (.int (2 : Int32)), .val (.int (1 : Int32))] [(.int (1 : Int32))])
        exact own_retN X38 hx hret (by simp) hlk (hb hby at_137) ⟨rfl, N38'⟩ (by decide) (by decide)
set_option maxRecDepth 65536 in
set_option maxHeartbeats 40000000 in
theorem comes_1 {Post : Tables → Env → Array Value → State → Outcome → State → Prop} (hpost : ∀ tb e args s v u, (limb_1_1.after args s (.returned v) u = true ∧ limb_1_2.after args s (.returned v) u = true ∧ True) → FrameEnd s (.returned v) u (Jvm.fieldLocs frame_1_writes args s ++ Jvm.arrayLocs frame_1_arrays args s ++ Jvm.staticLocs frame_1_statics s) 16 128 → Post tb e args s (.returned v) u) :
    ArmFor flags0 classFile x code maxLocals ret World_1 tables_1 room_1 Calls_1 rest_1 Pre_1 Post := by
  intro l hfl _ _ p e ha hc hk s m args below hf hA hF happ hP
  obtain ⟨hcalls, hrest, hpre⟩ := hP
  obtain ⟨-, -, -, hnamed, -, -, -, hat⟩ := (Spec.applies_iff hf).mp happ
  obtain ⟨hg, hn⟩ := and_e (Cond.before_iff.mp (show (Jvm.Cond.and given_1 narrow_1).before args s = true from hpre))
  obtain ⟨q1, q2⟩ := and_e hg
  obtain ⟨q3, q4⟩ := and_e q2
  obtain ⟨w0_, w1_, rfl⟩ : ∃ w0_ w1_ : Value, args = #[w0_, w1_] := by
    have hs : args.size = 2 := by simpa [Cond.value, given_1] using q1
    obtain ⟨L⟩ := args
    match L, hs with
    | [w0_, w1_], _ => exact ⟨w0_, w1_, rfl⟩
  have hw : own_W s _ := fun d (hd : d ∈ tables_1) => atoms_spec (ws := Jvm.Cond.code x code maxLocals ret :: tables_1) hat d (List.mem_cons_of_mem _ hd)
  have hfit : Fit s := fun {y c} hc i hi => by
    obtain ⟨ha, rfl⟩ := Array.getElem?_eq_some_iff.mp hc
    have q := List.all_eq_true.mp ((Array.all_eq_true_iff_forall_mem.mp hF) _ (Array.getElem_mem ha)) i (List.mem_range.mpr hi)
    simpa [Array.getElem?_eq_getElem hi] using q
  obtain ⟨i0, ei0⟩ := is_v q3
  obtain rfl : w0_ = (.int i0) := Option.some.inj ei0
  obtain ⟨i1, ei1⟩ := is_v q4
  obtain rfl : w1_ = (.int i1) := Option.some.inj ei1
  have hn : narrow_1.value _ s none s [] = some true := hn
  obtain ⟨q5, q6⟩ := and_e hn
  obtain ⟨q7, q8⟩ := and_e q6
  obtain ⟨q9, q10⟩ := and_e q8
  obtain ⟨q11, q12⟩ := and_e q10
  obtain ⟨q13, q14⟩ := and_e q12
  obtain ⟨q15, q16⟩ := and_e q14
  obtain ⟨q17, q18⟩ := and_e q16
  obtain ⟨q19, q20⟩ := and_e q18
  obtain ⟨q21, q22⟩ := and_e q20
  obtain ⟨q23, q24⟩ := and_e q22
  obtain ⟨q25, q26⟩ := and_e q24
  obtain ⟨w27, vw27⟩ := exa_v q5
  have E28 := Exa.start vw27 q5
  have S29 := Sta.start vw27 (Or.inr ⟨(own_w3 hw), (own_w4 hw)⟩)
  obtain ⟨w30, vw30⟩ := exa_v q7
  have E31 := Exa.start vw30 q7
  have S32 := Sta.start vw30 (Or.inr ⟨(own_w3 hw), (own_w7 hw)⟩)
  obtain ⟨w33, vw33⟩ := exa_v q9
  have E34 := Exa.start vw33 q9
  have S35 := Sta.start vw33 (Or.inr ⟨(own_w3 hw), (own_w9 hw)⟩)
  obtain ⟨w36, vw36⟩ := exa_v q11
  have E37 := Exa.start vw36 q11
  have S38 := Sta.start vw36 (Or.inr ⟨(own_w3 hw), (own_w11 hw)⟩)
  obtain ⟨w39, vw39⟩ := exa_v q13
  have E40 := Exa.start vw39 q13
  have S41 := Sta.start vw39 (Or.inr ⟨(own_w3 hw), (own_w13 hw)⟩)
  obtain ⟨w42, vw42⟩ := exa_v q15
  have E43 := Exa.start vw42 q15
  have S44 := Sta.start vw42 (Or.inr ⟨(own_w3 hw), (own_w15 hw)⟩)
  have F45 := Fld.start ((fld_at vw27).symm.trans (own_eqi q17))
  have F46 := Fld.start ((fld_at vw33).symm.trans (own_eqi q19))
  have F47 := Fld.start ((fld_at vw39).symm.trans (own_eqi q21))
  have F48 := Fld.start ((fld_at vw30).symm.trans (own_eqi q23))
  have F49 := Fld.start ((fld_at vw42).symm.trans (own_eqi q25))
  have F50 := Fld.start ((fld_at vw36).symm.trans (own_eqi q26))
  obtain ⟨n, o, r1, r2, r3, _, L, rfl, ⟨rfl, N⟩, hq⟩ := own_law l hw tables_1 i0 i1 w27 w30 w33 w36 w39 w42 s.heap s.heap.size (Nat.le_refl _) S29 E28 F45 S32 E31 F48 S35 E34 F46 S38 E37 F50 S41 E40 F47 S44 E43 F49 p e ha hc hk s m _ below hf ((Spec.applies_iff_loose hf).mp happ).1 ⟨rfl, State.Warmed39.refl s, rfl⟩ trivial
  refine ⟨n, _, r1, r2, r3, hpost _ _ _ _ _ _ ⟨Cond.after_iff.mpr rfl, Cond.after_iff.mpr (eq_i res_at (Term.int_eval (1)) rfl), trivial⟩ ⟨hq.1, hq.2.1, (hq.2.2.sift fun y hy => Or.inr (N y hy)).mono (by decide) (by decide)⟩⟩
theorem main_1_1 : Claimed_1_1 := comes_1 fun _ _ _ _ _ _ h hF => ⟨h.1, hF⟩
theorem main_1_2 : Claimed_1_2 := comes_1 fun _ _ _ _ _ _ h hF => ⟨h.2.1, hF⟩
end Jvm.Pilot.@@N@@
namespace Jvm.Pilot.@@N@@
open Jvm Jvm.ClassFile Sem Op Lib Jvm.Free Jvm.Stand Jvm.Pilot.@@N@@.Jvm.D
/-! MADE BY PROGRAM (witnessworld.py) out of the Statement's table words and the real class files: 13 classes; the members and pool entries that the words name. The judged class is class 1, her method 1. -/
namespace start1
open Jvm.ClassFile
def u (s : String) : CpInfo := .utf8 (stringToUtf16 s)
/-- a pool by its gaps: so many unusable entries, then the entry; so many at the end -/
def gap : Nat → List CpInfo → List CpInfo
  | 0, r => r
  | n + 1, r => .unusable :: gap n r
def poolList (es : List (Nat × CpInfo)) (last : Nat) : List CpInfo := es.foldr (fun e r => gap e.1 (e.2 :: r)) (gap last [])
def pool (es : List (Nat × CpInfo)) (last : Nat) : Array CpInfo := ⟨poolList es last⟩
def fileOf (pool : Array CpInfo) (this : Nat) (attrs : Array Attribute := #[]) (ms : Array MethodInfo := #[]) (fl : Nat := 33) (sup : Nat := 0) (ifs : Array Nat := #[]) (fds : Array FieldInfo := #[]) : ClassFile where
  minorVersion := 0
  majorVersion := 65
  constantPool := pool
  accessFlags := fl
  thisClass := this
  superClass := sup
  interfaces := ifs
  fields := fds
  methods := ms
  attributes := attrs
def plain (name : String) (sup : Option ClassId) : Class where
  name := name
  kind := .ordinary
  loader := none
  accessFlags := 33
  super := sup
  interfaces := #[]
  cf := none
  fields := #[]
  methods := #[]
  instanceTypes := #[]
  staticTypes := #[]
  resolved := #[]
  callSites := []
  init := .initialized
  statics := none
  mirror := none

def pool0 : Array CpInfo := pool [(5, u "<init>"), (0, u "()V"), (1, .class_ 10), (1, u "java/lang/Object")] 113

def k0m0 : Method := { name := "<init>", desc := "()V", sig := { parameters := [], returnType := none }, accessFlags := 1, code := none }
/-- java/lang/Object -/
def k0 : Class := { plain "java/lang/Object" none with
  accessFlags := 33
  interfaces := #[]
  cf := some (fileOf pool0 8 #[] #[{ accessFlags := 1, nameIndex := 5, descriptorIndex := 6, attributes := #[] }] 33 0 #[] #[])
  fields := #[]
  methods := #[k0m0]
  instanceTypes := #[]
  staticTypes := #[]
  resolved := Array.replicate 124 none
  statics := none }

def pool1 : Array CpInfo := pool [(2, .class_ 4), (1, u "java/lang/Object"), (0, u "<init>"), (0, u "()V"), (0, .class_ 8), (0, u "com/example/overflowstream/overflowstream/Query$Operator"), (0, .fieldref 7 10), (0, .nameAndType 11 12), (0, u "EQUAL"), (0, u "Lcom/example/overflowstream/overflowstream/Query$Operator;"), (0, .fieldref 7 14), (0, .nameAndType 15 12), (0, u "NOT_EQUAL"), (0, .fieldref 7 17), (0, .nameAndType 18 12), (0, u "LESS"), (0, .fieldref 7 20), (0, .nameAndType 21 12), (0, u "LESS_OR_EQUAL"), (0, .fieldref 7 23), (0, .nameAndType 24 12), (0, u "GREATER"), (0, .fieldref 7 26), (0, .nameAndType 27 12), (0, u "GREATER_OR_EQUAL"), (0, .integer 2147483647), (0, .methodref 7 30), (0, .nameAndType 31 32), (0, u "holds"), (0, u "(I)Z"), (0, .class_ 34), (0, u "com/example/overflowstream/overflowstream/OperatorHoldsPinLaw"), (2, u "law"), (0, u "(II)Z")] 11

def k1m0 : Method := { name := "<init>", desc := "()V", sig := { parameters := [], returnType := none }, accessFlags := 1, code := none }
def k1c1 : Code := { maxStack := 4, maxLocals := 7, code := code, exceptionTable := #[], attributes := #[] }
def k1m1 : Method := { name := "law", desc := "(II)Z", sig := { parameters := [.int, .int], returnType := some .boolean }, accessFlags := 9, code := some k1c1 }
/-- com/example/overflowstream/overflowstream/OperatorHoldsPinLaw -/
def k1 : Class := { plain "com/example/overflowstream/overflowstream/OperatorHoldsPinLaw" (some 0) with
  accessFlags := 49
  interfaces := #[]
  cf := some (fileOf pool1 33 #[] #[{ accessFlags := 1, nameIndex := 5, descriptorIndex := 6, attributes := #[] }, { accessFlags := 9, nameIndex := 37, descriptorIndex := 38, attributes := #[] }] 49 2 #[] #[])
  fields := #[]
  methods := #[k1m0, k1m1]
  instanceTypes := #[]
  staticTypes := #[]
  resolved := Array.replicate 50 none
  statics := none }

def pool2 : Array CpInfo := pool [(1, .class_ 2), (0, u "java/lang/constant/Constable"), (0, .class_ 4), (0, u "java/lang/Object")] 6

/-- java/lang/constant/Constable -/
def k2 : Class := { plain "java/lang/constant/Constable" (some 0) with
  accessFlags := 1537
  interfaces := #[]
  cf := some (fileOf pool2 1 #[] #[] 1537 3 #[] #[])
  fields := #[]
  methods := #[]
  instanceTypes := #[]
  staticTypes := #[]
  resolved := Array.replicate 11 none
  statics := none }

def pool3 : Array CpInfo := pool [(1, .class_ 2), (0, u "java/lang/Comparable"), (0, .class_ 4), (0, u "java/lang/Object")] 7

/-- java/lang/Comparable -/
def k3 : Class := { plain "java/lang/Comparable" (some 0) with
  accessFlags := 1537
  interfaces := #[]
  cf := some (fileOf pool3 1 #[] #[] 1537 3 #[] #[])
  fields := #[]
  methods := #[]
  instanceTypes := #[]
  staticTypes := #[]
  resolved := Array.replicate 12 none
  statics := none }

def pool4 : Array CpInfo := pool [(1, .class_ 2), (0, u "java/io/Serializable"), (0, .class_ 4), (0, u "java/lang/Object")] 2

/-- java/io/Serializable -/
def k4 : Class := { plain "java/io/Serializable" (some 0) with
  accessFlags := 1537
  interfaces := #[]
  cf := some (fileOf pool4 1 #[] #[] 1537 3 #[] #[])
  fields := #[]
  methods := #[]
  instanceTypes := #[]
  staticTypes := #[]
  resolved := Array.replicate 7 none
  statics := none }

def pool5 : Array CpInfo := pool [(2, .class_ 4), (1, u "java/lang/Enum"), (0, u "name"), (0, u "Ljava/lang/String;"), (0, .fieldref 2 8), (0, .nameAndType 9 10), (0, u "ordinal"), (0, u "I"), (1, .class_ 14), (1, u "java/lang/Object"), (4, u "hash"), (86, .class_ 108), (1, u "java/lang/Enum$EnumDesc"), (2, .class_ 112), (0, u "java/lang/constant/Constable"), (0, .class_ 114), (0, u "java/lang/Comparable"), (0, .class_ 116), (0, u "java/io/Serializable"), (9, u "()I")] 77

def k5c0 : Code := { maxStack := 1, maxLocals := 1, code := jdk_37_method_2_code, exceptionTable := #[], attributes := #[] }
def k5m0 : Method := { name := "ordinal", desc := "()I", sig := { parameters := [], returnType := some .int }, accessFlags := 17, code := some k5c0 }
/-- java/lang/Enum -/
def k5 : Class := { plain "java/lang/Enum" (some 0) with
  accessFlags := 1057
  interfaces := #[2, 3, 4]
  cf := some (fileOf pool5 2 #[.nestMembers #[106]] #[{ accessFlags := 17, nameIndex := 9, descriptorIndex := 126, attributes := #[] }] 1057 12 #[111, 113, 115] #[{ accessFlags := 18, nameIndex := 5, descriptorIndex := 6, attributes := #[] }, { accessFlags := 18, nameIndex := 9, descriptorIndex := 10, attributes := #[] }, { accessFlags := 2, nameIndex := 19, descriptorIndex := 10, attributes := #[] }])
  fields := #[{ name := "name", type := (.object "java/lang/String"), accessFlags := 18, slot := 0, constantValue := 0 }, { name := "ordinal", type := .int, accessFlags := 18, slot := 1, constantValue := 0 }, { name := "hash", type := .int, accessFlags := 2, slot := 2, constantValue := 0 }]
  methods := #[k5m0]
  instanceTypes := #[(.object "java/lang/String"), .int, .int]
  staticTypes := #[]
  resolved := Array.replicate 204 none
  statics := none }

def pool6 : Array CpInfo := pool [(1, .class_ 2), (0, u "com/example/overflowstream/overflowstream/Query$Operator"), (2, u "EQUAL"), (0, u "Lcom/example/overflowstream/overflowstream/Query$Operator;"), (2, u "NOT_EQUAL"), (2, u "LESS"), (2, u "LESS_OR_EQUAL"), (2, u "GREATER"), (2, u "GREATER_OR_EQUAL"), (2, u "$VALUES"), (0, u "[Lcom/example/overflowstream/overflowstream/Query$Operator;"), (6, .class_ 34), (1, u "java/lang/Enum"), (8, u "symbol"), (0, u "Ljava/lang/String;"), (10, .methodref 1 56), (0, .nameAndType 57 58), (0, u "ordinal"), (0, u "()I"), (37, u "holds"), (0, u "(I)Z"), (8, .class_ 107), (0, u "com/example/overflowstream/overflowstream/Query")] 2

def k6c0 : Code := { maxStack := 3, maxLocals := 2, code := prog_36_method_5_code, exceptionTable := #[], attributes := #[] }
def k6m0 : Method := { name := "holds", desc := "(I)Z", sig := { parameters := [.int], returnType := some .boolean }, accessFlags := 0, code := some k6c0 }
/-- com/example/overflowstream/overflowstream/Query$Operator -/
def k6 : Class := { plain "com/example/overflowstream/overflowstream/Query$Operator" (some 5) with
  accessFlags := 16432
  interfaces := #[]
  cf := some (fileOf pool6 1 #[.nestHost 106] #[{ accessFlags := 0, nameIndex := 96, descriptorIndex := 97, attributes := #[] }] 16432 32 #[] #[{ accessFlags := 16409, nameIndex := 5, descriptorIndex := 6, attributes := #[] }, { accessFlags := 16409, nameIndex := 9, descriptorIndex := 6, attributes := #[] }, { accessFlags := 16409, nameIndex := 12, descriptorIndex := 6, attributes := #[] }, { accessFlags := 16409, nameIndex := 15, descriptorIndex := 6, attributes := #[] }, { accessFlags := 16409, nameIndex := 18, descriptorIndex := 6, attributes := #[] }, { accessFlags := 16409, nameIndex := 21, descriptorIndex := 6, attributes := #[] }, { accessFlags := 18, nameIndex := 43, descriptorIndex := 44, attributes := #[] }, { accessFlags := 4122, nameIndex := 24, descriptorIndex := 25, attributes := #[] }])
  fields := #[{ name := "EQUAL", type := (.object "com/example/overflowstream/overflowstream/Query$Operator"), accessFlags := 16409, slot := 0, constantValue := 0 }, { name := "NOT_EQUAL", type := (.object "com/example/overflowstream/overflowstream/Query$Operator"), accessFlags := 16409, slot := 1, constantValue := 0 }, { name := "LESS", type := (.object "com/example/overflowstream/overflowstream/Query$Operator"), accessFlags := 16409, slot := 2, constantValue := 0 }, { name := "LESS_OR_EQUAL", type := (.object "com/example/overflowstream/overflowstream/Query$Operator"), accessFlags := 16409, slot := 3, constantValue := 0 }, { name := "GREATER", type := (.object "com/example/overflowstream/overflowstream/Query$Operator"), accessFlags := 16409, slot := 4, constantValue := 0 }, { name := "GREATER_OR_EQUAL", type := (.object "com/example/overflowstream/overflowstream/Query$Operator"), accessFlags := 16409, slot := 5, constantValue := 0 }, { name := "symbol", type := (.object "java/lang/String"), accessFlags := 18, slot := 3, constantValue := 0 }, { name := "$VALUES", type := (.array (.object "com/example/overflowstream/overflowstream/Query$Operator")), accessFlags := 4122, slot := 6, constantValue := 0 }]
  methods := #[k6m0]
  instanceTypes := #[(.object "java/lang/String"), .int, .int, (.object "java/lang/String")]
  staticTypes := #[(.object "com/example/overflowstream/overflowstream/Query$Operator"), (.object "com/example/overflowstream/overflowstream/Query$Operator"), (.object "com/example/overflowstream/overflowstream/Query$Operator"), (.object "com/example/overflowstream/overflowstream/Query$Operator"), (.object "com/example/overflowstream/overflowstream/Query$Operator"), (.object "com/example/overflowstream/overflowstream/Query$Operator"), (.array (.object "com/example/overflowstream/overflowstream/Query$Operator"))]
  resolved := Array.replicate 110 none
  statics := some 0 }

def pool7 : Array CpInfo := pool [(1, u "java/lang/Cloneable"), (0, .class_ 1), (0, u "java/lang/Object"), (0, .class_ 3)] 3

/-- java/lang/Cloneable -/
def k7 : Class := { plain "java/lang/Cloneable" (some 0) with
  accessFlags := 1537
  interfaces := #[]
  cf := some (fileOf pool7 2 #[] #[] 1537 4 #[] #[])
  fields := #[]
  methods := #[]
  instanceTypes := #[]
  staticTypes := #[]
  resolved := Array.replicate 8 none
  statics := none }

/-- the primitive byte -/
def k8 : Class := { plain "byte" none with kind := .primitive 'B', accessFlags := 0x411 }
/-- [B -/
def k9 : Class := { plain "[B" (some 0) with kind := .array 8 .byte, interfaces := #[7, 4], accessFlags := 1041 }

/-- the primitive int -/
def k10 : Class := { plain "int" none with kind := .primitive 'I', accessFlags := 0x411 }
/-- [I -/
def k11 : Class := { plain "[I" (some 0) with kind := .array 10 .int, interfaces := #[7, 4], accessFlags := 1041 }

/-- [Lcom/example/overflowstream/overflowstream/Query$Operator; -/
def k12 : Class := { plain "[Lcom/example/overflowstream/overflowstream/Query$Operator;" (some 0) with kind := .array 6 (.object "com/example/overflowstream/overflowstream/Query$Operator"), interfaces := #[7, 4], accessFlags := 1041 }

def heap : Heap := #[{ cls := 6, slots := #[.ref 1, .ref 2, .ref 3, .ref 4, .ref 5, .ref 6, .null], vm := .statics 6 },
  { cls := 6, slots := #[.null, .int 0, .int 0, .null], vm := .none },
  { cls := 6, slots := #[.null, .int 1, .int 0, .null], vm := .none },
  { cls := 6, slots := #[.null, .int 2, .int 0, .null], vm := .none },
  { cls := 6, slots := #[.null, .int 3, .int 0, .null], vm := .none },
  { cls := 6, slots := #[.null, .int 4, .int 0, .null], vm := .none },
  { cls := 6, slots := #[.null, .int 5, .int 0, .null], vm := .none }]
def classes : Array Class := #[k0, k1, k2, k3, k4, k5, k6, k7, k8, k9, k10, k11, k12]
def interned : List (Array UInt16 × Addr) := []
def slotsUsed : Nat := 31
def theMethod : MethodId := ⟨1, 1⟩
def args0 : Array Value := #[.int 5, .int 1]
def aboutOver (below : List Frame) : State where
  vm := { classes := classes, interned := interned.toArray }
  heap := heap
  slotsUsed := slotsUsed
  threads := #[{ frames := .invoking theMethod args0 :: below }]
def below0 : List Frame := [.native { method := ⟨0, 0⟩, args := #[] }]
def about1 : State := aboutOver below0
def p0 : Program := .bare "" "" ""
def e0 : Env := launch0.env 0 0 0
theorem w_frames : about1.frames = Frame.invoking theMethod args0 :: below0 := rfl
set_option maxRecDepth 65536 in
theorem w_args : argsFit about1.vm theMethod args0 = true := by decide +kernel
set_option maxRecDepth 65536 in
theorem w_heap : heapFits about1 = true := by decide +kernel
set_option maxRecDepth 65536 in
theorem w_runnable : about1.curStatus? = some .runnable := by decide +kernel
set_option maxRecDepth 65536 in
theorem w_alone : about1.alone = true := by decide +kernel
set_option maxRecDepth 65536 in
theorem w_named : about1.methodNamed? x = some theMethod := by decide +kernel
set_option maxRecDepth 65536 in
theorem w_hears : about1.hears theMethod below0 = true := by decide +kernel
set_option maxRecDepth 65536 in
theorem w_ripe : about1.ripe theMethod args0 below0 = true := by decide +kernel
theorem w_running : about1.status = .running := rfl
set_option maxRecDepth 65536 in
theorem w_room : about1.hasRoom e0.platform room_1 = true :=
  launch0.hasRoom_least _ room_1 (by decide +kernel) (by decide +kernel) (by decide +kernel) (by decide +kernel) (by decide +kernel) (by decide +kernel)
theorem allAtoms_all (ts : List Jvm.Cond) (a : Array Jvm.Value) (st : Jvm.State) : (allAtoms ts).before a st = ts.all (fun c => c.before a st) := by
  induction ts with
  | nil => rfl
  | cons c t ih =>
    show (Jvm.Cond.and c (allAtoms t)).before a st = _
    rw [Jvm.Cond.before_and, ih, List.all_cons]
def words1 : List Jvm.Cond := Jvm.Cond.code x code maxLocals ret :: tables_1
/-- a 'code' word, met by the world's own term for the bytes: nothing is compared byte by byte -/
theorem code_word {y : MethodName} {bytes : ByteArray} {mx : Nat} {rt : Option FieldType} {a : Array Value} {s : State} {m : MethodId} {meth : Method} {c : Code} (h1 : s.methodNamed? y = some m) (h2 : s.vm.method? m = some meth) (h3 : meth.code = some c) (h4 : c.code = bytes)
    (h5 : (c.maxLocals == mx && c.exceptionTable.isEmpty && decide (c.maxStack ≤ mostOperands) && decide (meth.sig.returnType = rt) && !meth.locks && decide (parseMethodDescriptor y.desc = some meth.sig)) = true) : (Jvm.Cond.code y bytes mx rt).before a s = true := by
  simp only [Bool.and_eq_true, beq_iff_eq, Bool.not_eq_true', decide_eq_true_eq] at h5
  obtain ⟨⟨⟨⟨⟨g1, g2⟩, g3⟩, g4⟩, g5⟩, g6⟩ := h5
  simp [Cond.before, Cond.holds, Cond.value, h1, h2, h3, h4, g1, g2, g3, g4, g5, g6]
def isCode : Jvm.Cond → Bool
  | .code _ _ _ _ => true
  | _ => false
theorem all_split {L : List Jvm.Cond} {P : Jvm.Cond → Bool} (h1 : L.all (fun c => isCode c || P c) = true) (h2 : ∀ c ∈ L.filter isCode, P c = true) : L.all P = true := by
  refine List.all_eq_true.mpr fun c hc => ?_
  have h := List.all_eq_true.mp h1 c hc
  rcases Bool.eq_false_or_eq_true (isCode c) with hi | hi
  · exact h2 c (List.mem_filter.mpr ⟨hc, hi⟩)
  · simpa [hi] using h
set_option maxRecDepth 65536 in
theorem w_c0 : (Jvm.Cond.code x code maxLocals ret).before args0 about1 = true := code_word (m := ⟨1, 1⟩) (meth := k1m1) (c := k1c1) (by decide +kernel) rfl rfl rfl (by decide +kernel)
set_option maxRecDepth 65536 in
theorem w_c1 : (Jvm.Cond.code ({ cls := "com/example/overflowstream/overflowstream/Query$Operator", name := "holds", desc := "(I)Z" } : Jvm.MethodName) prog_36_method_5_code (2 : Nat) (Option.some Jvm.ClassFile.FieldType.boolean)).before args0 about1 = true := code_word (m := ⟨6, 0⟩) (meth := k6m0) (c := k6c0) (by decide +kernel) rfl rfl rfl (by decide +kernel)
set_option maxRecDepth 65536 in
theorem w_c2 : (Jvm.Cond.code ({ cls := "java/lang/Enum", name := "ordinal", desc := "()I" } : Jvm.MethodName) jdk_37_method_2_code (1 : Nat) (Option.some Jvm.ClassFile.FieldType.int)).before args0 about1 = true := code_word (m := ⟨5, 0⟩) (meth := k5m0) (c := k5c0) (by decide +kernel) rfl rfl rfl (by decide +kernel)
def codes1 : List Jvm.Cond := [Jvm.Cond.code x code maxLocals ret, Jvm.Cond.code ({ cls := "com/example/overflowstream/overflowstream/Query$Operator", name := "holds", desc := "(I)Z" } : Jvm.MethodName) prog_36_method_5_code (2 : Nat) (Option.some Jvm.ClassFile.FieldType.boolean), Jvm.Cond.code ({ cls := "java/lang/Enum", name := "ordinal", desc := "()I" } : Jvm.MethodName) jdk_37_method_2_code (1 : Nat) (Option.some Jvm.ClassFile.FieldType.int)]
set_option maxRecDepth 65536 in
theorem codes_eq : words1.filter isCode = codes1 := rfl
theorem w_codes : ∀ c ∈ words1.filter isCode, c.before args0 about1 = true := by
  rw [codes_eq]
  intro c hc
  simp only [codes1, List.mem_cons, List.not_mem_nil, or_false] at hc
  rcases hc with rfl | rfl | rfl
  · exact w_c0
  · exact w_c1
  · exact w_c2
set_option maxRecDepth 65536 in
theorem w_t1 : (words1.take 24).all (fun c => isCode c || c.before args0 about1) = true := by decide +kernel
set_option maxRecDepth 65536 in
theorem w_t2 : (words1.drop 24).all (fun c => isCode c || c.before args0 about1) = true := by decide +kernel
theorem w_tables : (allAtoms (Jvm.Cond.code x code maxLocals ret :: tables_1)).before args0 about1 = true := by
  rw [allAtoms_all]
  show words1.all (fun c => c.before args0 about1) = true
  refine all_split ?_ w_codes
  rw [← List.take_append_drop 24 words1, List.all_append, w_t1, w_t2]
  rfl
set_option maxRecDepth 65536 in
theorem w_case : (Jvm.Cond.and given_1 narrow_1).before args0 about1 = true := by decide +kernel
theorem w_applies : (headSpec (Jvm.Cond.code x code maxLocals ret :: tables_1) room_1).applies x e0.platform about1 = true :=
  (Spec.applies_iff w_frames).mpr ⟨w_running, w_runnable, w_alone, w_named, w_hears, w_ripe, w_room, w_tables⟩
theorem atStart : AtStart classFile x code maxLocals ret World_1 tables_1 room_1 Calls_1 rest_1 Pre_1 launch0 p0 e0 about1 theMethod args0 below0 :=
  ⟨lists_1, trivial, launch0.admits_env _ _ _, launch0.least_env, fairChoices_fair.cas, fairChoices_fair.clock, w_frames, w_args, w_heap, w_applies, trivial, trivial, w_case⟩
end start1
theorem witness_1 : WitnessClaimed_1 := ⟨start1.p0, start1.e0, start1.about1, start1.theMethod, start1.args0, start1.below0, start1.atStart⟩
end Jvm.Pilot.@@N@@
