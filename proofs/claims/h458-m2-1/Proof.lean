import JvmDerived
import JvmDerived.Pilot.@@N@@Statement
import JvmDerived.Pilot.@@N@@Code
set_option linter.unusedVariables false
set_option linter.unusedSimpArgs false
namespace Jvm.Pilot.@@N@@
open Jvm Jvm.ClassFile Sem Op Lib Jvm.Free Jvm.Stand Jvm.LawKit Jvm.RoadKit Bundle Jvm.Pilot.@@N@@.Jvm.D
section OwnKit
variable {p : Program} {l : Launch} {e : Env} {R : Room} {s : State} {m : MethodId} {args : Array Value} {below : List Frame} {meth : Method} {c : Code} {T : State} {locs : List Loc} {cells slots : Nat} {Z : State} {a0 : Array Value} {h h' h0 : Heap}
/-- the run comes, from the frame g over T, to an end of which F holds -/
def own_Go (tb : Tables) (e : Env) (below : List Frame) (F : State → Outcome → Prop) (T : State) (g : JFrame) : Prop := ∃ s₂ o, Steps tb e below (T.setTop g) s₂ ∧ F s₂ o
theorem own_st {tb : Tables} {F : State → Outcome → Prop} {T' : State} {g g' : JFrame} (st : ∀ t, Steps tb e below (T'.setTop g') t → Steps tb e below (T.setTop g) t) (k : own_Go tb e below F T' g') : own_Go tb e below F T g := by
  obtain ⟨a, o, h1, h2⟩ := k
  exact ⟨a, o, st a h1, h2⟩
/-- the end that a contract asks -/
def own_F (below : List Frame) (s : State) (Q : Option Value → Heap → List Loc → Prop) (C S : Nat) : State → Outcome → Prop := fun s₂ o => s₂.status = .running ∧ Ended s₂ below o ∧ ∃ v L, o = .returned v ∧ Q v s₂.heap L ∧ FrameEnd s o s₂ L C S
/-- what a body's walk knows of the body -/
def own_In (p : Program) (s : State) (m : MethodId) (meth : Method) (c : Code) (Z : State) (bytes : ByteArray) (maxL : Nat) (own nm : String) (ret : Option FieldType) : Prop := p.tables.exec = Jvm.exec ∧ c.code = bytes ∧ c.maxLocals = maxL ∧ s.vm.findClass own = some m.cls ∧ meth.name = nm ∧ meth.sig.returnType = ret ∧ meth.locks = false ∧ Z.Warmed39 s.vm
theorem own_enter {y : MethodName} {bytes : ByteArray} {maxL : Nat} {ret : Option FieldType} {ws : List Jvm.Cond} {rm : Room} {as' : Array Value} {Q : Option Value → Heap → List Loc → Prop} {C S : Nat} (hp : plainFor y = true)
    (body : ∀ (p : Program) (e : Env) (s : State) (m : MethodId) (below : List Frame) (meth : Method) (c : Code) (T : State), Stand p l e rm s m as' below meth c T [] 0 0 → own_In p s m meth c Z bytes maxL y.cls y.name ret → T.heap = h0 → own_Go p.tables e below (own_F below s Q C S) T (entryFrame m as' maxL)) :
    MetFree l y (head1 (Jvm.Cond.code y bytes maxL ret :: ws) rm) (fun a U => a = as' ∧ Z.Warmed39 U.vm ∧ U.heap = h0) (fun _ _ _ _ _ => True) (fun _ U o U' => ∃ v L, o = .returned v ∧ Q v U'.heap L ∧ FrameEnd U o U' L C S) := by
  refine MetFree.of_bodySF hp hisR ?_
  intro p e s m args below meth c s₁ Bd hml0 hP hK
  obtain ⟨rfl, hZ, hh⟩ := hP
  exact body p e s m below meth c s₁ (Stand.of_body Bd) ⟨Bd.exec, Bd.bytes, hml0, findClass_of_methodNamed Bd.named, (name_of_methodNamed Bd.named Bd.method).1, Bd.returns, Bd.notSynchronized, hZ⟩ (by rw [← hh, Bd.state]; rfl)
theorem own_cast {tb : Tables} {F : State → Outcome → Prop} {g g' : JFrame} (q : g = g') (k : own_Go tb e below F T g') : own_Go tb e below F T g := q ▸ k
/-- the end of a walk: a boolean, byte, char or short -/
theorem own_retN (X : Stand p l e R s m args below meth c T locs cells slots) (hx : p.tables.exec = Jvm.exec) {t : FieldType} (hret : meth.sig.returnType = some t) (ht : t = .boolean ∨ t = .byte ∨ t = .char ∨ t = .short) (hlk : meth.locks = false) {pc : Nat} {Ls : Array Slot} {z : Int32} {rest : List Value}
    (hd : decode c.code pc = .ok (.ireturn, 1)) {Q : Option Value → Heap → List Loc → Prop} {C S : Nat} (hQ : Q (some (.int (nar t z))) T.heap locs) (hC : cells ≤ C) (hS : slots ≤ S) : own_Go p.tables e below (own_F below s Q C S) T (mkF m pc Ls (.int z :: rest)) := by
  obtain ⟨fs, hr, hrun, hended, hW, hsame⟩ := X.leave (v := some (.int (nar t z))) (fun q => by rw [hret] at q; cases q)
  exact ⟨_, _, retN X hx hret ht hd hr, hrun, hended, _, _, rfl, hQ, ⟨_, rfl⟩, hW, hsame.mono hC hS⟩
theorem own_retO (X : Stand p l e R s m args below meth c T locs cells slots) (hx : p.tables.exec = Jvm.exec) {t : FieldType} (hret : meth.sig.returnType = some t) (hlk : meth.locks = false) {pc : Nat} {Ls : Array Slot} {w : Value} {i : Instr} {rest : List Value} (hn : narrow t w = w)
    (hi : (i = .ireturn ∧ (t = .int ∨ t = .boolean ∨ t = .byte ∨ t = .char ∨ t = .short) ∧ ∃ z, w = .int z) ∨ (i = .lreturn ∧ t = .long ∧ ∃ z, w = .long z) ∨ (i = .dreturn ∧ t = .double ∧ ∃ z, w = .double z) ∨ (i = .freturn ∧ t = .float ∧ ∃ z, w = .float z) ∨ (i = .areturn ∧ t.isReference = true ∧ w.isRef = true))
    (hd : decode c.code pc = .ok (i, 1)) {Q : Option Value → Heap → List Loc → Prop} {C S : Nat} (hQ : Q (some w) T.heap locs) (hC : cells ≤ C) (hS : slots ≤ S) : own_Go p.tables e below (own_F below s Q C S) T (mkF m pc Ls (w :: rest)) := by
  obtain ⟨fs, hr, hrun, hended, hW, hsame⟩ := X.leave (v := some w) (fun q => by rw [hret] at q; cases q)
  exact ⟨_, _, retOut X hx hret hn hi hd hr, hrun, hended, _, _, rfl, hQ, ⟨_, rfl⟩, hW, hsame.mono hC hS⟩
/-- a reference -/
theorem own_retA (X : Stand p l e R s m args below meth c T locs cells slots) (hx : p.tables.exec = Jvm.exec) {t : FieldType} (hret : meth.sig.returnType = some t) (ht : t.isReference = true) (hlk : meth.locks = false) {pc : Nat} {Ls : Array Slot} {w : Value} {rest : List Value} (hw : w.isRef = true)
    (hd : decode c.code pc = .ok (.areturn, 1)) {Q : Option Value → Heap → List Loc → Prop} {C S : Nat} (hQ : Q (some w) T.heap locs) (hC : cells ≤ C) (hS : slots ≤ S) : own_Go p.tables e below (own_F below s Q C S) T (mkF m pc Ls (w :: rest)) := by
  refine own_retO X hx hret hlk ?_ (Or.inr (Or.inr (Or.inr (Or.inr ⟨rfl, ht, hw⟩)))) hd hQ hC hS
  rcases ref_cases hw with rfl | ⟨a, rfl⟩ <;> cases t <;> first | rfl | (simp [FieldType.isReference] at ht)
/-- an int -/
theorem own_retI (X : Stand p l e R s m args below meth c T locs cells slots) (hx : p.tables.exec = Jvm.exec) (hret : meth.sig.returnType = some .int) (hlk : meth.locks = false) {pc : Nat} {Ls : Array Slot} {z : Int32} {rest : List Value}
    (hd : decode c.code pc = .ok (.ireturn, 1)) {Q : Option Value → Heap → List Loc → Prop} {C S : Nat} (hQ : Q (some (.int z)) T.heap locs) (hC : cells ≤ C) (hS : slots ≤ S) : own_Go p.tables e below (own_F below s Q C S) T (mkF m pc Ls (.int z :: rest)) :=
  own_retO X hx hret hlk rfl (Or.inl ⟨rfl, Or.inl rfl, z, rfl⟩) hd hQ hC hS
/-- nothing -/
theorem own_retV (X : Stand p l e R s m args below meth c T locs cells slots) (hx : p.tables.exec = Jvm.exec) (hret : meth.sig.returnType = none) (hlk : meth.locks = false) {pc : Nat} {Ls : Array Slot}
    (hd : decode c.code pc = .ok (.return_, 1)) {Q : Option Value → Heap → List Loc → Prop} {C S : Nat} (hQ : Q none T.heap locs) (hC : cells ≤ C) (hS : slots ≤ S) : own_Go p.tables e below (own_F below s Q C S) T (mkF m pc Ls []) := by
  obtain ⟨fs, hr, hrun, hended, hW, hsame⟩ := X.leave (v := none) (fun _ => rfl)
  exact ⟨_, _, X.returnOut hx hret hd hr, hrun, hended, _, _, rfl, hQ, ⟨_, rfl⟩, hW, hsame.mono hC hS⟩
/-- calls, each by its callee's contract -/
theorem own_callS (X : Stand p l e R s m args below meth c T locs cells slots) (hx : p.tables.exec = Jvm.exec) (hZ : Z.Warmed39 s.vm) {own : String} {index : Nat} {y : MethodName} {bytes : ByteArray} {maxL : Nat} {ret : Option FieldType} (hown : s.vm.findClass own = some m.cls)
    (w1 : (Jvm.Cond.methodLink own index y).before a0 Z = true) (w2 : (Jvm.Cond.static y).before a0 Z = true) (w3 : (Jvm.Cond.initialized y.cls).before a0 Z = true) (w4 : (Jvm.Cond.code y bytes maxL ret).before a0 Z = true) (hy : y.cls ≠ "java/lang/invoke/MethodHandle" ∧ y.cls ≠ "java/lang/invoke/VarHandle")
    {rm : Room} {as' : Array Value} {Q : Option Value → Heap → List Loc → Prop} (hM : MetFree l y (head1 [Jvm.Cond.code y bytes maxL ret] rm) (fun a U => a = as' ∧ Z.Warmed39 U.vm ∧ U.heap = h) (fun _ _ _ _ _ => True) (fun _ U o U' => ∃ v L, o = .returned v ∧ Q v U'.heap L ∧ FrameEnd U o U' L rm.cells rm.slots))
    (eT : T.heap = h) {g : JFrame} (hg : g.method = m) (hsize : g.locals.size = c.maxLocals) {argsL rest : List Value} (hlen : ∀ sig, parseMethodDescriptor y.desc = some sig → argsL.length = sig.parameters.length) (hstack : g.stack = argsL.reverse ++ rest) (has : argsL.toArray = as') {W : Nat} (hW : 2 * g.monitorRoom + (rest.map fun v => v.category).sum ≤ W)
    (hd : decode c.code g.pc = .ok (.invokestatic index, 3)) (hf : rm.frames + 1 ≤ R.frames) (hl : W + (maxL + 11) + rm.locals ≤ R.locals) (hc : cells + rm.cells ≤ R.cells) (hs : slots + rm.slots ≤ R.slots) :
    ∃ v T' L, Q v T'.heap L ∧ Stand p l e R s m args below meth c T' (locs ++ L) (cells + rm.cells) (slots + rm.slots) ∧ ∀ t, Steps p.tables e below (T'.setTop { g with pc := g.pc + 3, stack := v.toList ++ rest }) t → Steps p.tables e below (T.setTop g) t := by
  obtain ⟨v, vm₁, ⟨T', L', k', n'⟩, -, X', ⟨L, hQ, l1, y1, z1⟩, st⟩ := Jvm.LawKit.callS X hx (y := y) hown (mvT hZ w1) (mvT hZ w2) (mvT hZ w3) (mvT hZ w4) hy (backOf (W := W) hM hZ w4 w3 hf hl) hg hsize (argsL := argsL) (rest := rest) hlen hstack hW hd (fun _ _ => ⟨has, eT, hc, hs⟩)
  dsimp only [Pt.U, Pt.locs, Pt.cells, Pt.slots] at X' l1 y1 z1 st hQ
  subst l1 y1 z1
  exact ⟨v, T', L, hQ, X', st⟩
theorem own_callI (X : Stand p l e R s m args below meth c T locs cells slots) (hx : p.tables.exec = Jvm.exec) (hZ : Z.Warmed39 s.vm) {own : String} {index : Nat} {y : MethodName} {bytes : ByteArray} {maxL : Nat} (hn : y.name = "<init>") (hown : s.vm.findClass own = some m.cls)
    (w1 : (Jvm.Cond.methodLink own index y).before a0 Z = true) (w2 : (Jvm.Cond.instanceMethod y).before a0 Z = true) (w3 : (Jvm.Cond.initialized y.cls).before a0 Z = true) (w4 : (Jvm.Cond.code y bytes maxL none).before a0 Z = true) (hy : y.cls ≠ "java/lang/invoke/MethodHandle" ∧ y.cls ≠ "java/lang/invoke/VarHandle")
    {rm : Room} {as' : Array Value} {Q : Option Value → Heap → List Loc → Prop} (hM : MetFree l y (head1 [Jvm.Cond.code y bytes maxL none] rm) (fun a U => a = as' ∧ Z.Warmed39 U.vm ∧ U.heap = h) (fun _ _ _ _ _ => True) (fun _ U o U' => ∃ v L, o = .returned v ∧ Q v U'.heap L ∧ FrameEnd U o U' L rm.cells rm.slots))
    (eT : T.heap = h) {g : JFrame} (hg : g.method = m) (hsize : g.locals.size = c.maxLocals) {a : Addr} {argsL rest : List Value} (hlen : ∀ sig, parseMethodDescriptor y.desc = some sig → argsL.length = sig.parameters.length) (hstack : g.stack = argsL.reverse ++ .ref a :: rest) (has : (.ref a :: argsL).toArray = as') {W : Nat} (hW : 2 * g.monitorRoom + (rest.map fun v => v.category).sum ≤ W)
    (hd : decode c.code g.pc = .ok (.invokespecial index, 3)) (hf : rm.frames + 1 ≤ R.frames) (hl : W + (maxL + 11) + rm.locals ≤ R.locals) (hc : cells + rm.cells ≤ R.cells) (hs : slots + rm.slots ≤ R.slots) :
    ∃ v T' L, Q v T'.heap L ∧ Stand p l e R s m args below meth c T' (locs ++ L) (cells + rm.cells) (slots + rm.slots) ∧ ∀ t, Steps p.tables e below (T'.setTop { g with pc := g.pc + 3, stack := v.toList ++ rest }) t → Steps p.tables e below (T.setTop g) t := by
  obtain ⟨v, vm₁, ⟨T', L', k', n'⟩, -, X', ⟨L, hQ, l1, y1, z1⟩, st⟩ := X.specialBack hx (y := y) hn hown (mvT hZ w1) (mvT hZ w2) (mvT hZ w4) hy (backOf (W := W) hM hZ w4 w3 hf hl) hg hsize (Steps.refl _) (a := a) (argsL := argsL) (rest := rest) hlen hstack hW hd (fun _ _ => ⟨has, eT, hc, hs⟩)
  dsimp only [Pt.U, Pt.locs, Pt.cells, Pt.slots] at X' l1 y1 z1 st hQ
  subst l1 y1 z1
  exact ⟨v, T', L, hQ, X', fun t k => st.trans k⟩
theorem own_callV (X : Stand p l e R s m args below meth c T locs cells slots) (hx : p.tables.exec = Jvm.exec) (hZ : Z.Warmed39 s.vm) {own C : String} {index : Nat} {y : MethodName} {bytes : ByteArray} {maxL : Nat} {ret : Option FieldType} (hown : s.vm.findClass own = some m.cls)
    (w1 : (Jvm.Cond.methodLink own index y).before a0 Z = true) (w2 : (Jvm.Cond.declares y).before a0 Z = true) (w3 : (Jvm.Cond.selects C y y).before a0 Z = true) (w5 : (Jvm.Cond.instanceMethod y).before a0 Z = true) (w6 : (Jvm.Cond.initialized y.cls).before a0 Z = true) (w4 : (Jvm.Cond.code y bytes maxL ret).before a0 Z = true) (hy : y.cls ≠ "java/lang/invoke/MethodHandle" ∧ y.cls ≠ "java/lang/invoke/VarHandle")
    {rm : Room} {as' : Array Value} {Q : Option Value → Heap → List Loc → Prop} (hM : MetFree l y (head1 [Jvm.Cond.code y bytes maxL ret] rm) (fun a U => a = as' ∧ Z.Warmed39 U.vm ∧ U.heap = h) (fun _ _ _ _ _ => True) (fun _ U o U' => ∃ v L, o = .returned v ∧ Q v U'.heap L ∧ FrameEnd U o U' L rm.cells rm.slots))
    (eT : T.heap = h) {a : Addr} (E : Exa Z h a C) {g : JFrame} (hg : g.method = m) (hsize : g.locals.size = c.maxLocals) {argsL rest : List Value} (hlen : ∀ sig, parseMethodDescriptor y.desc = some sig → argsL.length = sig.parameters.length) (hstack : g.stack = argsL.reverse ++ .ref a :: rest) (has : (.ref a :: argsL).toArray = as') {W : Nat} (hW : 2 * g.monitorRoom + (rest.map fun v => v.category).sum ≤ W)
    (hd : decode c.code g.pc = .ok (.invokevirtual index, 3)) (hf : rm.frames + 1 ≤ R.frames) (hl : W + (maxL + 11) + rm.locals ≤ R.locals) (hc : cells + rm.cells ≤ R.cells) (hs : slots + rm.slots ≤ R.slots) :
    ∃ v T' L, Q v T'.heap L ∧ Stand p l e R s m args below meth c T' (locs ++ L) (cells + rm.cells) (slots + rm.slots) ∧ ∀ t, Steps p.tables e below (T'.setTop { g with pc := g.pc + 3, stack := v.toList ++ rest }) t → Steps p.tables e below (T.setTop g) t := by
  obtain ⟨cq, kq, qa, qb, qc⟩ := isOf hZ eT E
  obtain ⟨v, vm₁, ⟨T', L', k', n'⟩, -, X', ⟨L, hQ, l1, y1, z1⟩, st⟩ := X.virtualBack hx (y := y) (z := y) hown (mvT hZ w1) (mvT hZ w2) (notFace_of_selects (args := #[]) (mvT hZ w3)) (mvT hZ w3) (mvT hZ w5) hy (backOf (W := W) hM hZ w4 w6 hf hl) qa qc hg hsize (Steps.refl _) (argsL := argsL) (rest := rest) hlen hstack hW hd (fun _ _ => ⟨has, eT, hc, hs⟩)
  dsimp only [Pt.U, Pt.locs, Pt.cells, Pt.slots] at X' l1 y1 z1 st hQ
  subst l1 y1 z1
  exact ⟨v, T', L, hQ, X', fun t k => st.trans k⟩
/-- a method that a class above declares -/
theorem own_callU (X : Stand p l e R s m args below meth c T locs cells slots) (hx : p.tables.exec = Jvm.exec) (hZ : Z.Warmed39 s.vm) {own C owner : String} {index : Nat} {x y : MethodName} {bytes : ByteArray} {maxL : Nat} {ret : Option FieldType} (hown : s.vm.findClass own = some m.cls)
    (w1 : (Jvm.Cond.methodLink own index x).before a0 Z = true) (w0 : (Jvm.Cond.sameMethod x.cls owner x.name x.desc).before a0 Z = true) (w2 : (Jvm.Cond.declares ⟨owner, x.name, x.desc⟩).before a0 Z = true) (hy : owner ≠ "java/lang/invoke/MethodHandle" ∧ owner ≠ "java/lang/invoke/VarHandle") (w3 : (Jvm.Cond.selects C x y).before a0 Z = true) (w5 : (Jvm.Cond.instanceMethod y).before a0 Z = true) (w6 : (Jvm.Cond.initialized y.cls).before a0 Z = true) (w4 : (Jvm.Cond.code y bytes maxL ret).before a0 Z = true)
    {rm : Room} {as' : Array Value} {Q : Option Value → Heap → List Loc → Prop} (hM : MetFree l y (head1 [Jvm.Cond.code y bytes maxL ret] rm) (fun a U => a = as' ∧ Z.Warmed39 U.vm ∧ U.heap = h) (fun _ _ _ _ _ => True) (fun _ U o U' => ∃ v L, o = .returned v ∧ Q v U'.heap L ∧ FrameEnd U o U' L rm.cells rm.slots))
    (eT : T.heap = h) {a : Addr} (E : Exa Z h a C) {g : JFrame} (hg : g.method = m) (hsize : g.locals.size = c.maxLocals) {argsL rest : List Value} (hlen : ∀ sig, parseMethodDescriptor x.desc = some sig → argsL.length = sig.parameters.length) (hstack : g.stack = argsL.reverse ++ .ref a :: rest) (has : (.ref a :: argsL).toArray = as') {W : Nat} (hW : 2 * g.monitorRoom + (rest.map fun v => v.category).sum ≤ W)
    (hd : decode c.code g.pc = .ok (.invokevirtual index, 3)) (hf : rm.frames + 1 ≤ R.frames) (hl : W + (maxL + 11) + rm.locals ≤ R.locals) (hc : cells + rm.cells ≤ R.cells) (hs : slots + rm.slots ≤ R.slots) :
    ∃ v T' L, Q v T'.heap L ∧ Stand p l e R s m args below meth c T' (locs ++ L) (cells + rm.cells) (slots + rm.slots) ∧ ∀ t, Steps p.tables e below (T'.setTop { g with pc := g.pc + 3, stack := v.toList ++ rest }) t → Steps p.tables e below (T.setTop g) t := by
  obtain ⟨cq, kq, qa, qb, qc⟩ := isOf hZ eT E
  obtain ⟨v, vm₁, ⟨T', L', k', n'⟩, -, X', ⟨L, hQ, l1, y1, z1⟩, st⟩ := X.virtualBackUp hx (x := x) (y := y) hown (mvT hZ w1) (mvT hZ w0) (mvT hZ w2) hy (mvT hZ w3) (mvT hZ w5) (backOf (W := W) hM hZ w4 w6 hf hl) qa qc hg hsize (Steps.refl _) (argsL := argsL) (rest := rest) hlen hstack hW hd (fun _ _ => ⟨has, eT, hc, hs⟩)
  dsimp only [Pt.U, Pt.locs, Pt.cells, Pt.slots] at X' l1 y1 z1 st hQ
  subst l1 y1 z1
  exact ⟨v, T', L, hQ, X', fun t k => st.trans k⟩
/-- heaps -/
theorem own_extr (h : Heap) : Ext h h := ⟨Nat.le_refl _, fun _ _ q => q⟩
theorem own_extt (O : Ext h0 h) (E : Ext h h') : Ext h0 h' := ⟨Nat.le_trans O.1 E.1, fun a c q => E.2 a c (O.2 a c q)⟩
theorem own_extw (O : Ext h0 h) {a : Addr} {sl : Nat} {v : Value} (W : Wr h h' a sl v) (q : h0.size ≤ a) : Ext h0 h' :=
  ⟨Nat.le_trans O.1 (Keep.of_wr W).1, fun x c r => (Keep.of_wr W).2.1 x c (O.2 x c r) (fun z => by cases List.mem_singleton.mp z; exact absurd (Array.getElem?_eq_some_iff.mp r).1 (Nat.not_lt.mpr q))⟩
theorem own_extk (O : Ext h0 h) {a : Addr} (K : Keep h h' [a]) (q : h0.size ≤ a) : Ext h0 h' :=
  ⟨Nat.le_trans O.1 K.1, fun x c r => K.2.1 x c (O.2 x c r) (fun z => by cases List.mem_singleton.mp z; exact absurd (Array.getElem?_eq_some_iff.mp r).1 (Nat.not_lt.mpr q))⟩
/-- arrays: a store and a load by the array's fact -/
theorem own_stZ (X : Stand p l e R s m args below meth c T locs cells slots) (hx : p.tables.exec = Jvm.exec) (hZ : Z.Warmed39 s.vm) (eT : T.heap = h) {a : Addr} {k : ClassId} {n : Int32} {vs : List Value} {dv : Value} (V : Arv Z h a k .boolean n vs dv) {j x : Int32} (hj : ¬ j < 0 ∧ j < n) (i : Nat) (hi : j.toNatClampNeg = i) (hil : i < vs.length) {g : JFrame} (hg : g.method = m) {rest : List Value} (hs : g.stack = .int x :: .int j :: .ref a :: rest) (hd : decode c.code g.pc = .ok (.bastore, 1)) :
    ∃ T' h', Stand p l e R s m args below meth c T' (locs ++ [⟨a, j.toNatClampNeg⟩]) cells slots ∧ T'.heap = h' ∧ Wr h h' a j.toNatClampNeg (.int (nar .boolean x)) ∧ Arv Z h' a k .boolean n (vs.set i (.int (nar .boolean x))) dv ∧ ∀ t, Steps p.tables e below (T'.setTop { g with pc := g.pc + 1, stack := rest }) t → Steps p.tables e below (T.setTop g) t := by
  obtain ⟨cl, A, q1, S1, N1, H1, G1⟩ := V
  obtain ⟨T', h', X', e', W', st⟩ := stZ X hx hZ eT A (j := j) (inb_of S1 hj) hg hs hd
  exact ⟨T', h', X', e', W', Arv.set A q1 S1 N1 H1 G1 (fits_nar_bool x) W' i hi hil, st⟩
theorem own_stB (X : Stand p l e R s m args below meth c T locs cells slots) (hx : p.tables.exec = Jvm.exec) (hZ : Z.Warmed39 s.vm) (eT : T.heap = h) {a : Addr} {k : ClassId} {n : Int32} {vs : List Value} {dv : Value} (V : Arv Z h a k .byte n vs dv) {j x : Int32} (hj : ¬ j < 0 ∧ j < n) (i : Nat) (hi : j.toNatClampNeg = i) (hil : i < vs.length) {g : JFrame} (hg : g.method = m) {rest : List Value} (hs : g.stack = .int x :: .int j :: .ref a :: rest) (hd : decode c.code g.pc = .ok (.bastore, 1)) :
    ∃ T' h', Stand p l e R s m args below meth c T' (locs ++ [⟨a, j.toNatClampNeg⟩]) cells slots ∧ T'.heap = h' ∧ Wr h h' a j.toNatClampNeg (.int (nar .byte x)) ∧ Arv Z h' a k .byte n (vs.set i (.int (nar .byte x))) dv ∧ ∀ t, Steps p.tables e below (T'.setTop { g with pc := g.pc + 1, stack := rest }) t → Steps p.tables e below (T.setTop g) t := by
  obtain ⟨cl, A, q1, S1, N1, H1, G1⟩ := V
  obtain ⟨T', h', X', e', W', st⟩ := stB X hx hZ eT A (j := j) (inb_of S1 hj) hg hs hd
  exact ⟨T', h', X', e', W', Arv.set A q1 S1 N1 H1 G1 (fits_nar_byte x) W' i hi hil, st⟩
theorem own_stI (X : Stand p l e R s m args below meth c T locs cells slots) (hx : p.tables.exec = Jvm.exec) (hZ : Z.Warmed39 s.vm) (eT : T.heap = h) {a : Addr} {k : ClassId} {n : Int32} {vs : List Value} {dv : Value} (V : Arv Z h a k .int n vs dv) {j x : Int32} (hj : ¬ j < 0 ∧ j < n) (i : Nat) (hi : j.toNatClampNeg = i) (hil : i < vs.length) {g : JFrame} (hg : g.method = m) {rest : List Value} (hs : g.stack = .int x :: .int j :: .ref a :: rest) (hd : decode c.code g.pc = .ok (.iastore, 1)) :
    ∃ T' h', Stand p l e R s m args below meth c T' (locs ++ [⟨a, j.toNatClampNeg⟩]) cells slots ∧ T'.heap = h' ∧ Wr h h' a j.toNatClampNeg (.int x) ∧ Arv Z h' a k .int n (vs.set i (.int x)) dv ∧ ∀ t, Steps p.tables e below (T'.setTop { g with pc := g.pc + 1, stack := rest }) t → Steps p.tables e below (T.setTop g) t := by
  obtain ⟨cl, A, q1, S1, N1, H1, G1⟩ := V
  obtain ⟨T', h', X', e', W', st⟩ := stI X hx hZ eT A (j := j) (inb_of S1 hj) hg hs hd
  exact ⟨T', h', X', e', W', Arv.set A q1 S1 N1 H1 G1 rfl W' i hi hil, st⟩
theorem own_stC (X : Stand p l e R s m args below meth c T locs cells slots) (hx : p.tables.exec = Jvm.exec) (hZ : Z.Warmed39 s.vm) (eT : T.heap = h) {a : Addr} {k : ClassId} {n : Int32} {vs : List Value} {dv : Value} (V : Arv Z h a k .char n vs dv) {j x : Int32} (hj : ¬ j < 0 ∧ j < n) (i : Nat) (hi : j.toNatClampNeg = i) (hil : i < vs.length) {g : JFrame} (hg : g.method = m) {rest : List Value} (hs : g.stack = .int x :: .int j :: .ref a :: rest) (hd : decode c.code g.pc = .ok (.castore, 1)) :
    ∃ T' h', Stand p l e R s m args below meth c T' (locs ++ [⟨a, j.toNatClampNeg⟩]) cells slots ∧ T'.heap = h' ∧ Wr h h' a j.toNatClampNeg (.int (nar .char x)) ∧ Arv Z h' a k .char n (vs.set i (.int (nar .char x))) dv ∧ ∀ t, Steps p.tables e below (T'.setTop { g with pc := g.pc + 1, stack := rest }) t → Steps p.tables e below (T.setTop g) t := by
  obtain ⟨cl, A, q1, S1, N1, H1, G1⟩ := V
  obtain ⟨T', h', X', e', W', st⟩ := stC X hx hZ eT A (j := j) (inb_of S1 hj) hg hs hd
  exact ⟨T', h', X', e', W', Arv.set A q1 S1 N1 H1 G1 (fits_nar_char x) W' i hi hil, st⟩
theorem own_stR (X : Stand p l e R s m args below meth c T locs cells slots) (hx : p.tables.exec = Jvm.exec) (hZ : Z.Warmed39 s.vm) (eT : T.heap = h) {a : Addr} {k : ClassId} {ty : FieldType} {n : Int32} {vs : List Value} {dv : Value} (V : Arv Z h a k ty n vs dv) (hty : ty.isReference = true) {j : Int32} {v : Value} (hv : fits ty v = true) (hj : ¬ j < 0 ∧ j < n) (i : Nat) (hi : j.toNatClampNeg = i) (hil : i < vs.length) (F : ∀ cl : Cell, Arr Z h a cl ty → cl.cls = k → Sto Z h a v) {g : JFrame} (hg : g.method = m) {rest : List Value} (hs : g.stack = v :: .int j :: .ref a :: rest) (hd : decode c.code g.pc = .ok (.aastore, 1)) :
    ∃ T' h', Stand p l e R s m args below meth c T' (locs ++ [⟨a, j.toNatClampNeg⟩]) cells slots ∧ T'.heap = h' ∧ Wr h h' a j.toNatClampNeg v ∧ Arv Z h' a k ty n (vs.set i v) dv ∧ ∀ t, Steps p.tables e below (T'.setTop { g with pc := g.pc + 1, stack := rest }) t → Steps p.tables e below (T.setTop g) t := by
  obtain ⟨cl, A, q1, S1, N1, H1, G1⟩ := V
  obtain ⟨T', h', X', e', W', st⟩ := stR X hx hZ eT A (j := j) (inb_of S1 hj) hty (F cl A q1) hg hs hd
  exact ⟨T', h', X', e', W', Arv.set A q1 S1 N1 H1 G1 hv W' i hi hil, st⟩
theorem own_ldZ (X : Stand p l e R s m args below meth c T locs cells slots) (hx : p.tables.exec = Jvm.exec) (hZ : Z.Warmed39 s.vm) (eT : T.heap = h) {a : Addr} {k : ClassId} {n : Int32} {vs : List Value} {dv v : Value} (V : Arv Z h a k .boolean n vs dv) {j : Int32} (hj : ¬ j < 0 ∧ j < n) (hv : vs.getD j.toNatClampNeg dv = v) {g : JFrame} (hg : g.method = m) {rest : List Value} (hs : g.stack = .int j :: .ref a :: rest) (hd : decode c.code g.pc = .ok (.baload, 1)) :
    ∀ t, Steps p.tables e below (T.setTop { g with pc := g.pc + 1, stack := v :: rest }) t → Steps p.tables e below (T.setTop g) t := by
  obtain ⟨cl, A, q1, S1, N1, H1, G1⟩ := V
  exact X.baloadBooleans hx (by rw [eT]; exact A.1) (State.isArrayOf_alike hZ.alike A.2.1) A.2.2 (inb_of S1 hj) (H1.at (inb_of S1 hj) hv) hg hs hd
theorem own_ldB (X : Stand p l e R s m args below meth c T locs cells slots) (hx : p.tables.exec = Jvm.exec) (hZ : Z.Warmed39 s.vm) (eT : T.heap = h) {a : Addr} {k : ClassId} {n : Int32} {vs : List Value} {dv v : Value} (V : Arv Z h a k .byte n vs dv) {j : Int32} (hj : ¬ j < 0 ∧ j < n) (hv : vs.getD j.toNatClampNeg dv = v) {g : JFrame} (hg : g.method = m) {rest : List Value} (hs : g.stack = .int j :: .ref a :: rest) (hd : decode c.code g.pc = .ok (.baload, 1)) :
    ∀ t, Steps p.tables e below (T.setTop { g with pc := g.pc + 1, stack := v :: rest }) t → Steps p.tables e below (T.setTop g) t := by
  obtain ⟨cl, A, q1, S1, N1, H1, G1⟩ := V
  exact X.baloadBytes hx (by rw [eT]; exact A.1) (State.isArrayOf_alike hZ.alike A.2.1) A.2.2 (inb_of S1 hj) (H1.at (inb_of S1 hj) hv) hg hs hd
theorem own_ldI (X : Stand p l e R s m args below meth c T locs cells slots) (hx : p.tables.exec = Jvm.exec) (hZ : Z.Warmed39 s.vm) (eT : T.heap = h) {a : Addr} {k : ClassId} {n : Int32} {vs : List Value} {dv v : Value} (V : Arv Z h a k .int n vs dv) {j : Int32} (hj : ¬ j < 0 ∧ j < n) (hv : vs.getD j.toNatClampNeg dv = v) {g : JFrame} (hg : g.method = m) {rest : List Value} (hs : g.stack = .int j :: .ref a :: rest) (hd : decode c.code g.pc = .ok (.iaload, 1)) :
    ∀ t, Steps p.tables e below (T.setTop { g with pc := g.pc + 1, stack := v :: rest }) t → Steps p.tables e below (T.setTop g) t := by
  obtain ⟨cl, A, q1, S1, N1, H1, G1⟩ := V
  exact X.iaload hx (by rw [eT]; exact A.1) (State.isArrayOf_alike hZ.alike A.2.1) A.2.2 (inb_of S1 hj) (H1.at (inb_of S1 hj) hv) hg hs hd
theorem own_ldC (X : Stand p l e R s m args below meth c T locs cells slots) (hx : p.tables.exec = Jvm.exec) (hZ : Z.Warmed39 s.vm) (eT : T.heap = h) {a : Addr} {k : ClassId} {n : Int32} {vs : List Value} {dv v : Value} (V : Arv Z h a k .char n vs dv) {j : Int32} (hj : ¬ j < 0 ∧ j < n) (hv : vs.getD j.toNatClampNeg dv = v) {g : JFrame} (hg : g.method = m) {rest : List Value} (hs : g.stack = .int j :: .ref a :: rest) (hd : decode c.code g.pc = .ok (.caload, 1)) :
    ∀ t, Steps p.tables e below (T.setTop { g with pc := g.pc + 1, stack := v :: rest }) t → Steps p.tables e below (T.setTop g) t := by
  obtain ⟨cl, A, q1, S1, N1, H1, G1⟩ := V
  exact X.caload hx (by rw [eT]; exact A.1) (State.isArrayOf_alike hZ.alike A.2.1) A.2.2 (inb_of S1 hj) (H1.at (inb_of S1 hj) hv) hg hs hd
theorem own_ldR (X : Stand p l e R s m args below meth c T locs cells slots) (hx : p.tables.exec = Jvm.exec) (hZ : Z.Warmed39 s.vm) (eT : T.heap = h) {a : Addr} {k : ClassId} {ty : FieldType} {n : Int32} {vs : List Value} {dv v : Value} (V : Arv Z h a k ty n vs dv) (hty : ty.isReference = true) {j : Int32} (hj : ¬ j < 0 ∧ j < n) (hv : vs.getD j.toNatClampNeg dv = v) {g : JFrame} (hg : g.method = m) {rest : List Value} (hs : g.stack = .int j :: .ref a :: rest) (hd : decode c.code g.pc = .ok (.aaload, 1)) :
    ∀ t, Steps p.tables e below (T.setTop { g with pc := g.pc + 1, stack := v :: rest }) t → Steps p.tables e below (T.setTop g) t := by
  obtain ⟨cl, A, q1, S1, N1, H1, G1⟩ := V
  exact X.aaload hx (by rw [eT]; exact A.1) (State.isArrayOf_alike hZ.alike A.2.1) hty A.2.2 (inb_of S1 hj) (H1.at (inb_of S1 hj) hv) hg hs hd
theorem own_len (X : Stand p l e R s m args below meth c T locs cells slots) (hx : p.tables.exec = Jvm.exec) (hZ : Z.Warmed39 s.vm) (eT : T.heap = h) {a : Addr} {k : ClassId} {ty : FieldType} {n : Int32} {vs : List Value} {dv : Value} (V : Arv Z h a k ty n vs dv) {g : JFrame} (hg : g.method = m) {rest : List Value} (hs : g.stack = .ref a :: rest) (hd : decode c.code g.pc = .ok (.arraylength, 1)) :
    ∀ t, Steps p.tables e below (T.setTop { g with pc := g.pc + 1, stack := .int n :: rest }) t → Steps p.tables e below (T.setTop g) t := by
  obtain ⟨cl, A, q1, S1, N1, H1, G1⟩ := V
  intro t k
  refine X.arraylength hx (by rw [eT]; exact A.1) (State.isArrayOf_alike hZ.alike A.2.1) hg hs hd t ?_
  rw [len_of S1 N1]
  exact k
end OwnKit
section OwnWide
variable {p : Program} {l : Launch} {e : Env} {R : Room} {s : State} {m : MethodId} {args : Array Value} {below : List Frame} {meth : Method} {c : Code} {T : State} {locs : List Loc} {cells slots : Nat} {Z : State} {a0 : Array Value} {h h' h0 : Heap} {vm0 : Vm} {k0 : Nat}
/-- the end that a contract asks of a body that may load String constants -/
def own_FW (below : List Frame) (s : State) (Q : Option Value → Heap → Vm → List Loc → Prop) (C S : Nat) : State → Outcome → Prop := fun s₂ o => s₂.status = .running ∧ Ended s₂ below o ∧ ∃ v L, o = .returned v ∧ Q v s₂.heap s₂.vm L ∧ ReturnedEndW s o s₂ L C S
theorem own_enterW {y : MethodName} {bytes : ByteArray} {maxL : Nat} {ret : Option FieldType} {ws : List Jvm.Cond} {rm : Room} {as' : Array Value} {J : Vm → Prop} {Q : Option Value → Heap → Vm → List Loc → Prop} {C S : Nat} (hp : plainFor y = true)
    (body : ∀ (p : Program) (e : Env) (s : State) (m : MethodId) (below : List Frame) (meth : Method) (c : Code) (T : State), Stand p l e rm (s.setVm s.vm) m as' below meth c T [] 0 0 → own_In p (s.setVm s.vm) m meth c Z bytes maxL y.cls y.name ret → T.heap = h0 → s.heap = h0 → J s.vm → s.Since s.vm 0 → own_Go p.tables e below (own_FW below s Q C S) T (entryFrame m as' maxL)) :
    MetFree l y (head1 (Jvm.Cond.code y bytes maxL ret :: ws) rm) (fun a U => a = as' ∧ Z.Warmed39 U.vm ∧ U.heap = h0 ∧ J U.vm) (fun _ _ _ _ _ => True) (fun _ U o U' => ∃ v L, o = .returned v ∧ Q v U'.heap U'.vm L ∧ ReturnedEndW U o U' L C S) := by
  refine MetFree.of_bodySF hp hisR ?_
  intro p e s m args below meth c s₁ Bd hml0 hP hK
  obtain ⟨rfl, hZ, hh, hJ⟩ := hP
  exact body p e s m below meth c s₁ (Stand.of_body Bd) ⟨Bd.exec, Bd.bytes, hml0, findClass_of_methodNamed Bd.named, (name_of_methodNamed Bd.named Bd.method).1, Bd.returns, Bd.notSynchronized, hZ⟩ (by rw [← hh, Bd.state]; rfl) hh hJ ((State.WarmedH.refl s).since 0)
theorem own_endW (X : Stand p l e R (s.setVm vm0) m args below meth c T locs cells slots) (hS : s.Since vm0 k0) (hk : k0 ≤ T.heap.size) (hlk : meth.locks = false) {v : Option Value} (hv : meth.sig.returnType = none → v = none) {g : JFrame} {Q : Option Value → Heap → Vm → List Loc → Prop} {C S : Nat} (hQ : Q v T.heap T.vm locs) (hC : cells ≤ C) (hS' : slots ≤ S)
    (st : ∀ fs, (∀ (f : JFrame) (acts : List Action), f.method = m → f.locked = none → f.entered = [] → (doReturn e (T.setTop f) acts v).1 = T.setFrames fs) → Steps p.tables e below (T.setTop g) (T.setFrames fs)) : own_Go p.tables e below (own_FW below s Q C S) T g := by
  obtain ⟨fs, hr, hrun, hended, h1, h2, h3, h4⟩ := X.leaveW hS hk (v := v) hv
  exact ⟨_, _, st fs hr, hrun, hended, v, locs, rfl, hQ, h1, h2, h3, h4.mono hC hS'⟩
theorem own_retNW (X : Stand p l e R (s.setVm vm0) m args below meth c T locs cells slots) (hS : s.Since vm0 k0) (hk : k0 ≤ T.heap.size) (hx : p.tables.exec = Jvm.exec) {t : FieldType} (hret : meth.sig.returnType = some t) (ht : t = .boolean ∨ t = .byte ∨ t = .char ∨ t = .short) (hlk : meth.locks = false) {pc : Nat} {Ls : Array Slot} {z : Int32} {rest : List Value}
    (hd : decode c.code pc = .ok (.ireturn, 1)) {Q : Option Value → Heap → Vm → List Loc → Prop} {C S : Nat} (hQ : Q (some (.int (nar t z))) T.heap T.vm locs) (hC : cells ≤ C) (hS' : slots ≤ S) : own_Go p.tables e below (own_FW below s Q C S) T (mkF m pc Ls (.int z :: rest)) :=
  own_endW X hS hk hlk (fun q => by rw [hret] at q; cases q) hQ hC hS' (fun fs hr => retN X hx hret ht hd hr)
theorem own_retVW (X : Stand p l e R (s.setVm vm0) m args below meth c T locs cells slots) (hS : s.Since vm0 k0) (hk : k0 ≤ T.heap.size) (hx : p.tables.exec = Jvm.exec) (hret : meth.sig.returnType = none) (hlk : meth.locks = false) {pc : Nat} {Ls : Array Slot}
    (hd : decode c.code pc = .ok (.return_, 1)) {Q : Option Value → Heap → Vm → List Loc → Prop} {C S : Nat} (hQ : Q none T.heap T.vm locs) (hC : cells ≤ C) (hS' : slots ≤ S) : own_Go p.tables e below (own_FW below s Q C S) T (mkF m pc Ls []) :=
  own_endW X hS hk hlk (fun _ => rfl) hQ hC hS' (fun fs hr => X.returnOut hx hret hd hr)
theorem own_retAW (X : Stand p l e R (s.setVm vm0) m args below meth c T locs cells slots) (hS : s.Since vm0 k0) (hk : k0 ≤ T.heap.size) (hx : p.tables.exec = Jvm.exec) {t : FieldType} (hret : meth.sig.returnType = some t) (ht : t.isReference = true) (hlk : meth.locks = false) {pc : Nat} {Ls : Array Slot} {w : Value} {rest : List Value} (hw : w.isRef = true)
    (hd : decode c.code pc = .ok (.areturn, 1)) {Q : Option Value → Heap → Vm → List Loc → Prop} {C S : Nat} (hQ : Q (some w) T.heap T.vm locs) (hC : cells ≤ C) (hS' : slots ≤ S) : own_Go p.tables e below (own_FW below s Q C S) T (mkF m pc Ls (w :: rest)) :=
  own_endW X hS hk hlk (fun q => by rw [hret] at q; cases q) hQ hC hS' (fun fs hr => retOut X hx hret (by rcases ref_cases hw with rfl | ⟨a, rfl⟩ <;> cases t <;> first | rfl | (simp [FieldType.isReference] at ht)) (Or.inr (Or.inr (Or.inr (Or.inr ⟨rfl, ht, hw⟩)))) hd hr)
/-- a callee that may load String constants, by its contract: who pays -/
theorem own_backW {y : MethodName} {bytes : ByteArray} {maxL : Nat} {ret : Option FieldType} {rm : Room} {len W : Nat} {as' : Array Value} {J : Vm → Prop} {Q : Option Value → Heap → Vm → List Loc → Prop}
    (hM : MetFree l y (head1 [Jvm.Cond.code y bytes maxL ret] rm) (fun a U => a = as' ∧ Z.Warmed39 U.vm ∧ U.heap = h ∧ J U.vm) (fun _ _ _ _ _ => True) (fun _ U o U' => ∃ v L, o = .returned v ∧ Q v U'.heap U'.vm L ∧ ReturnedEndW U o U' L rm.cells rm.slots))
    (hZ : Z.Warmed39 s.vm) (hJ : ∀ vm, s.WarmedH vm → J vm) (wc : (Jvm.Cond.code y bytes maxL ret).before a0 Z = true) (wz : (Jvm.Cond.initialized y.cls).before a0 Z = true) (hf : rm.frames + 1 ≤ R.frames) (hl : W + (maxL + 11) + rm.locals ≤ R.locals) :
    BackS l R p e below s args y len W (fun A a => a = as' ∧ A.U.heap = h ∧ A.cells + rm.cells ≤ R.cells ∧ A.slots + rm.slots ≤ R.slots)
      (fun A _ v B => ∃ L, Q v B.U.heap B.U.vm L ∧ B.locs = A.locs ++ L ∧ B.cells = A.cells + rm.cells ∧ B.slots = A.slots + rm.slots) :=
  BackS.of_freeW (bytes := bytes) (maxL := maxL) (ret := ret) (E := fun _ _ o t L k n => k = rm.cells ∧ n = rm.slots ∧ ∃ v, o = .returned v ∧ Q v t.heap t.vm L) hM hf hl
    (fun m meth c A a Y hp => have hU : Z.Warmed39 A.U.vm := wtrans hZ Y.warmed
      ⟨by show (Jvm.Cond.and _ .tt).before a A.U = true; rw [Cond.before_and, mv hU wc]; rfl, mv hU wc, mv hU wz, hp.2.2.1, hp.2.2.2⟩)
    (fun m meth c A a g mk Y hp => ⟨hp.1, wtrans hZ Y.warmed, hp.2.1, hJ _ Y.warmed⟩) (fun _ _ _ _ _ _ _ _ _ => trivial)
    (fun _ _ _ _ ⟨v, L, h1, h2, h3⟩ => ⟨L, _, _, h3, rfl, rfl, v, h1, h2⟩)
    (fun m meth c A a g mk v t L k n Y hp _ _ ⟨e1, e2, v', e3, e4⟩ => by cases e3; subst e1 e2; exact ⟨L, e4, rfl, rfl, rfl⟩)
theorem own_callIW (X : Stand p l e R (s.setVm vm0) m args below meth c T locs cells slots) (hS : s.Since vm0 k0) (hk : k0 ≤ T.heap.size) (hx : p.tables.exec = Jvm.exec) (hZ : Z.Warmed39 (s.setVm vm0).vm) {own : String} {index : Nat} {y : MethodName} {bytes : ByteArray} {maxL : Nat} (hn : y.name = "<init>") (hown : (s.setVm vm0).vm.findClass own = some m.cls)
    (w1 : (Jvm.Cond.methodLink own index y).before a0 Z = true) (w2 : (Jvm.Cond.instanceMethod y).before a0 Z = true) (w3 : (Jvm.Cond.initialized y.cls).before a0 Z = true) (w4 : (Jvm.Cond.code y bytes maxL none).before a0 Z = true) (hy : y.cls ≠ "java/lang/invoke/MethodHandle" ∧ y.cls ≠ "java/lang/invoke/VarHandle")
    {rm : Room} {as' : Array Value} {J : Vm → Prop} {Q : Option Value → Heap → Vm → List Loc → Prop} (hM : MetFree l y (head1 [Jvm.Cond.code y bytes maxL none] rm) (fun a U => a = as' ∧ Z.Warmed39 U.vm ∧ U.heap = h ∧ J U.vm) (fun _ _ _ _ _ => True) (fun _ U o U' => ∃ v L, o = .returned v ∧ Q v U'.heap U'.vm L ∧ ReturnedEndW U o U' L rm.cells rm.slots))
    (hJ : ∀ vm, (s.setVm vm0).WarmedH vm → J vm) (eT : T.heap = h) {g : JFrame} (hg : g.method = m) (hsize : g.locals.size = c.maxLocals) {a : Addr} {argsL rest : List Value} (hlen : ∀ sig, parseMethodDescriptor y.desc = some sig → argsL.length = sig.parameters.length) (hstack : g.stack = argsL.reverse ++ .ref a :: rest) (has : (.ref a :: argsL).toArray = as') {W : Nat} (hW : 2 * g.monitorRoom + (rest.map fun v => v.category).sum ≤ W)
    (hd : decode c.code g.pc = .ok (.invokespecial index, 3)) (hf : rm.frames + 1 ≤ R.frames) (hl : W + (maxL + 11) + rm.locals ≤ R.locals) (hc : cells + rm.cells ≤ R.cells) (hs : slots + rm.slots ≤ R.slots) :
    ∃ v T' L, Q v T'.heap T'.vm L ∧ Stand p l e R (s.setVm T'.vm) m args below meth c T' (locs ++ L) (cells + rm.cells) (slots + rm.slots) ∧ s.Since T'.vm T'.heap.size ∧ Z.Warmed39 (s.setVm T'.vm).vm ∧ (s.setVm T'.vm).vm.findClass own = some m.cls ∧ ∀ t, Steps p.tables e below (T'.setTop { g with pc := g.pc + 3, stack := v.toList ++ rest }) t → Steps p.tables e below (T.setTop g) t := by
  obtain ⟨v, vm₁, ⟨T', L', k', n'⟩, -, X', hS', hgr, ⟨L, hQ, l1, y1, z1⟩, st⟩ := X.specialBackS hx (y := y) hn hown (mvT hZ w1) (mvT hZ w2) (mvT hZ w4) hy (own_backW (W := W) hM hZ hJ w4 w3 hf hl) hg hsize (Steps.refl _) (a := a) (argsL := argsL) (rest := rest) hlen hstack hW hd (fun _ _ => ⟨has, eT, hc, hs⟩)
  dsimp only [Pt.U, Pt.locs, Pt.cells, Pt.slots] at X' l1 y1 z1 st hQ hS' hgr
  subst l1 y1 z1
  obtain ⟨X2, hS2, hZ2, ho2⟩ := rebS hS hk X' hS' hgr hZ hown
  exact ⟨v, T', L, hQ, X2, hS2, hZ2, ho2, fun t k => st.trans k⟩
theorem own_callSW (X : Stand p l e R (s.setVm vm0) m args below meth c T locs cells slots) (hS : s.Since vm0 k0) (hk : k0 ≤ T.heap.size) (hx : p.tables.exec = Jvm.exec) (hZ : Z.Warmed39 (s.setVm vm0).vm) {own : String} {index : Nat} {y : MethodName} {bytes : ByteArray} {maxL : Nat} {ret : Option FieldType} (hown : (s.setVm vm0).vm.findClass own = some m.cls)
    (w1 : (Jvm.Cond.methodLink own index y).before a0 Z = true) (w2 : (Jvm.Cond.static y).before a0 Z = true) (w3 : (Jvm.Cond.initialized y.cls).before a0 Z = true) (w4 : (Jvm.Cond.code y bytes maxL ret).before a0 Z = true) (hy : y.cls ≠ "java/lang/invoke/MethodHandle" ∧ y.cls ≠ "java/lang/invoke/VarHandle")
    {rm : Room} {as' : Array Value} {J : Vm → Prop} {Q : Option Value → Heap → Vm → List Loc → Prop} (hM : MetFree l y (head1 [Jvm.Cond.code y bytes maxL ret] rm) (fun a U => a = as' ∧ Z.Warmed39 U.vm ∧ U.heap = h ∧ J U.vm) (fun _ _ _ _ _ => True) (fun _ U o U' => ∃ v L, o = .returned v ∧ Q v U'.heap U'.vm L ∧ ReturnedEndW U o U' L rm.cells rm.slots))
    (hJ : ∀ vm, (s.setVm vm0).WarmedH vm → J vm) (eT : T.heap = h) {g : JFrame} (hg : g.method = m) (hsize : g.locals.size = c.maxLocals) {argsL rest : List Value} (hlen : ∀ sig, parseMethodDescriptor y.desc = some sig → argsL.length = sig.parameters.length) (hstack : g.stack = argsL.reverse ++ rest) (has : argsL.toArray = as') {W : Nat} (hW : 2 * g.monitorRoom + (rest.map fun v => v.category).sum ≤ W)
    (hd : decode c.code g.pc = .ok (.invokestatic index, 3)) (hf : rm.frames + 1 ≤ R.frames) (hl : W + (maxL + 11) + rm.locals ≤ R.locals) (hc : cells + rm.cells ≤ R.cells) (hs : slots + rm.slots ≤ R.slots) :
    ∃ v T' L, Q v T'.heap T'.vm L ∧ Stand p l e R (s.setVm T'.vm) m args below meth c T' (locs ++ L) (cells + rm.cells) (slots + rm.slots) ∧ s.Since T'.vm T'.heap.size ∧ Z.Warmed39 (s.setVm T'.vm).vm ∧ (s.setVm T'.vm).vm.findClass own = some m.cls ∧ ∀ t, Steps p.tables e below (T'.setTop { g with pc := g.pc + 3, stack := v.toList ++ rest }) t → Steps p.tables e below (T.setTop g) t := by
  obtain ⟨v, vm₁, ⟨T', L', k', n'⟩, -, X', hS', hgr, ⟨L, hQ, l1, y1, z1⟩, st⟩ := callSS X hx (y := y) hown (mvT hZ w1) (mvT hZ w2) (mvT hZ w3) (mvT hZ w4) hy (own_backW (W := W) hM hZ hJ w4 w3 hf hl) hg hsize (argsL := argsL) (rest := rest) hlen hstack hW hd (fun _ _ => ⟨has, eT, hc, hs⟩)
  dsimp only [Pt.U, Pt.locs, Pt.cells, Pt.slots] at X' l1 y1 z1 st hQ hS' hgr
  subst l1 y1 z1
  obtain ⟨X2, hS2, hZ2, ho2⟩ := rebS hS hk X' hS' hgr hZ hown
  exact ⟨v, T', L, hQ, X2, hS2, hZ2, ho2, fun t k => st.trans k⟩
theorem own_callVW (X : Stand p l e R (s.setVm vm0) m args below meth c T locs cells slots) (hS : s.Since vm0 k0) (hk : k0 ≤ T.heap.size) (hx : p.tables.exec = Jvm.exec) (hZ : Z.Warmed39 (s.setVm vm0).vm) {own C : String} {index : Nat} {y : MethodName} {bytes : ByteArray} {maxL : Nat} {ret : Option FieldType} (hown : (s.setVm vm0).vm.findClass own = some m.cls)
    (w1 : (Jvm.Cond.methodLink own index y).before a0 Z = true) (w2 : (Jvm.Cond.declares y).before a0 Z = true) (w3 : (Jvm.Cond.selects C y y).before a0 Z = true) (w5 : (Jvm.Cond.instanceMethod y).before a0 Z = true) (w6 : (Jvm.Cond.initialized y.cls).before a0 Z = true) (w4 : (Jvm.Cond.code y bytes maxL ret).before a0 Z = true) (hy : y.cls ≠ "java/lang/invoke/MethodHandle" ∧ y.cls ≠ "java/lang/invoke/VarHandle")
    {rm : Room} {as' : Array Value} {J : Vm → Prop} {Q : Option Value → Heap → Vm → List Loc → Prop} (hM : MetFree l y (head1 [Jvm.Cond.code y bytes maxL ret] rm) (fun a U => a = as' ∧ Z.Warmed39 U.vm ∧ U.heap = h ∧ J U.vm) (fun _ _ _ _ _ => True) (fun _ U o U' => ∃ v L, o = .returned v ∧ Q v U'.heap U'.vm L ∧ ReturnedEndW U o U' L rm.cells rm.slots))
    (hJ : ∀ vm, (s.setVm vm0).WarmedH vm → J vm) (eT : T.heap = h) {a : Addr} (E : Exa Z h a C) {g : JFrame} (hg : g.method = m) (hsize : g.locals.size = c.maxLocals) {argsL rest : List Value} (hlen : ∀ sig, parseMethodDescriptor y.desc = some sig → argsL.length = sig.parameters.length) (hstack : g.stack = argsL.reverse ++ .ref a :: rest) (has : (.ref a :: argsL).toArray = as') {W : Nat} (hW : 2 * g.monitorRoom + (rest.map fun v => v.category).sum ≤ W)
    (hd : decode c.code g.pc = .ok (.invokevirtual index, 3)) (hf : rm.frames + 1 ≤ R.frames) (hl : W + (maxL + 11) + rm.locals ≤ R.locals) (hc : cells + rm.cells ≤ R.cells) (hs : slots + rm.slots ≤ R.slots) :
    ∃ v T' L, Q v T'.heap T'.vm L ∧ Stand p l e R (s.setVm T'.vm) m args below meth c T' (locs ++ L) (cells + rm.cells) (slots + rm.slots) ∧ s.Since T'.vm T'.heap.size ∧ Z.Warmed39 (s.setVm T'.vm).vm ∧ (s.setVm T'.vm).vm.findClass own = some m.cls ∧ ∀ t, Steps p.tables e below (T'.setTop { g with pc := g.pc + 3, stack := v.toList ++ rest }) t → Steps p.tables e below (T.setTop g) t := by
  obtain ⟨cq, kq, qa, qb, qc⟩ := isOf hZ eT E
  obtain ⟨v, vm₁, ⟨T', L', k', n'⟩, -, X', hS', hgr, ⟨L, hQ, l1, y1, z1⟩, st⟩ := X.virtualBackS hx (y := y) (z := y) hown (mvT hZ w1) (mvT hZ w2) (notFace_of_selects (args := #[]) (mvT hZ w3)) (mvT hZ w3) (mvT hZ w5) hy (own_backW (W := W) hM hZ hJ w4 w6 hf hl) qa qc hg hsize (Steps.refl _) (argsL := argsL) (rest := rest) hlen hstack hW hd (fun _ _ => ⟨has, eT, hc, hs⟩)
  dsimp only [Pt.U, Pt.locs, Pt.cells, Pt.slots] at X' l1 y1 z1 st hQ hS' hgr
  subst l1 y1 z1
  obtain ⟨X2, hS2, hZ2, ho2⟩ := rebS hS hk X' hS' hgr hZ hown
  exact ⟨v, T', L, hQ, X2, hS2, hZ2, ho2, fun t k => st.trans k⟩
theorem own_ibw {Ts : List String} {vm : Vm} (I : IB Z vm0 Ts) (q : (s.setVm vm0).WarmedH vm) : IB Z vm Ts := by
  obtain ⟨more, e, hm⟩ := I
  exact ⟨more, (q.interned_eq :).trans e, hm⟩
end OwnWide
theorem own_eqi {t : Term} {n : Int32} {args : Array Value} {s : State} (h : (Jvm.Cond.eq t (.int n)).value args s none s [] = some true) : t.eval args s none [] s = some (.int n) := by
  obtain ⟨x, y, h1, h2, h3, -⟩ := cmp_v (Or.inl h)
  cases (Term.int_eval n).symm.trans h2
  cases x <;> simp [Kin, Value.isRef] at h3
  rw [h1]
  have q := h
  simp [Jvm.Cond.value, h1, Term.int_eval] at q
  rw [q]
theorem own_lenw {t : Term} {n : Int32} {args : Array Value} {s : State} {x : Addr} {cl : Cell} {ty : FieldType} (h : (Jvm.Cond.eq (Term.length t) (.int n)).value args s none s [] = some true) (ht : t.eval args s none [] s = some (.ref x)) (A : Arr s s.heap x cl ty) : cl.slots.size < 2 ^ 31 ∧ cl.slots.size.toInt32 = n := by
  obtain ⟨b, cell, e1, e2, e4⟩ := Term.length_spec (own_eqi h)
  obtain rfl : x = b := Value.ref.inj (Option.some.inj (ht.symm.trans e1))
  obtain rfl : cl = cell := Option.some.inj ((A.fin (Vm.Alike.refl _)).symm.trans e2)
  exact ⟨Jvm.Free.SBG.length_lt e1 e2 (own_eqi h), (Value.int.inj e4).symm⟩
theorem own_elemw {t u : Term} {j : Int32} {args : Array Value} {s : State} {x y : Addr} {cl : Cell} {ty : FieldType} (h : (Jvm.Cond.eq (Term.elem t (.int j)) u).value args s none s [] = some true) (ht : t.eval args s none [] s = some (.ref x)) (hu : u.eval args s none [] s = some (.ref y)) (A : Arr s s.heap x cl ty) : cl.slots[j.toNatClampNeg]? = some (.ref y) := by
  obtain ⟨v, w, h1, h2, h3, h4⟩ := cmp_v (Or.inl h)
  cases hu.symm.trans h2
  obtain ⟨-, q⟩ := elem_in h1 ht (Term.int_eval j) A.1
  have r : v = .ref y := gotT (eq_R h1 hu h4.2 rfl) h
  rw [q, r]
theorem own_elemi {t : Term} {j k : Int32} {args : Array Value} {s : State} {x : Addr} {cl : Cell} {ty : FieldType} (h : (Jvm.Cond.eq (Term.elem t (.int j)) (.int k)).value args s none s [] = some true) (ht : t.eval args s none [] s = some (.ref x)) (A : Arr s s.heap x cl ty) : cl.slots[j.toNatClampNeg]? = some (.int k) := by
  obtain ⟨-, q⟩ := elem_in (own_eqi h) ht (Term.int_eval j) A.1
  exact q
abbrev own_W (Z : State) (a0 : Array Value) : Prop := ∀ d ∈ tables_1, d.before a0 Z = true
theorem own_w0 {Z : State} {a0 : Array Value} (hw : own_W Z a0) : (Jvm.Cond.methodLink "com/example/overflowstream/overflowstream/OperatorWrittenPinLaw" (28 : Nat) ({ cls := "com/example/overflowstream/overflowstream/OperatorWrittenPinLaw", name := "pick", desc := "(I)C" } : Jvm.MethodName)).before a0 Z = true := hw _ (List.mem_of_getElem? (i := 0) rfl)
theorem own_w1 {Z : State} {a0 : Array Value} (hw : own_W Z a0) : (Jvm.Cond.static ({ cls := "com/example/overflowstream/overflowstream/OperatorWrittenPinLaw", name := "pick", desc := "(I)C" } : Jvm.MethodName)).before a0 Z = true := hw _ (List.mem_of_getElem? (i := 1) rfl)
theorem own_w2 {Z : State} {a0 : Array Value} (hw : own_W Z a0) : (Jvm.Cond.initialized "com/example/overflowstream/overflowstream/OperatorWrittenPinLaw").before a0 Z = true := hw _ (List.mem_of_getElem? (i := 2) rfl)
theorem own_w3 {Z : State} {a0 : Array Value} (hw : own_W Z a0) : (Jvm.Cond.code ({ cls := "com/example/overflowstream/overflowstream/OperatorWrittenPinLaw", name := "pick", desc := "(I)C" } : Jvm.MethodName) method_2_code (2 : Nat) (Option.some Jvm.ClassFile.FieldType.char)).before a0 Z = true := hw _ (List.mem_of_getElem? (i := 3) rfl)
theorem own_w4 {Z : State} {a0 : Array Value} (hw : own_W Z a0) : (Jvm.Cond.classLink "com/example/overflowstream/overflowstream/OperatorWrittenPinLaw" (34 : Nat) "java/lang/String").before a0 Z = true := hw _ (List.mem_of_getElem? (i := 4) rfl)
theorem own_w5 {Z : State} {a0 : Array Value} (hw : own_W Z a0) : (Jvm.Cond.instantiable "java/lang/String" (4 : Nat)).before a0 Z = true := hw _ (List.mem_of_getElem? (i := 5) rfl)
theorem own_w6 {Z : State} {a0 : Array Value} (hw : own_W Z a0) : (Jvm.Cond.initialized "java/lang/String").before a0 Z = true := hw _ (List.mem_of_getElem? (i := 6) rfl)
theorem own_w7 {Z : State} {a0 : Array Value} (hw : own_W Z a0) : (Jvm.Cond.arrayClass Jvm.ClassFile.FieldType.char).before a0 Z = true := hw _ (List.mem_of_getElem? (i := 7) rfl)
theorem own_w8 {Z : State} {a0 : Array Value} (hw : own_W Z a0) : (Jvm.Cond.methodLink "com/example/overflowstream/overflowstream/OperatorWrittenPinLaw" (36 : Nat) ({ cls := "java/lang/String", name := "<init>", desc := "([C)V" } : Jvm.MethodName)).before a0 Z = true := hw _ (List.mem_of_getElem? (i := 8) rfl)
theorem own_w9 {Z : State} {a0 : Array Value} (hw : own_W Z a0) : (Jvm.Cond.instanceMethod ({ cls := "java/lang/String", name := "<init>", desc := "([C)V" } : Jvm.MethodName)).before a0 Z = true := hw _ (List.mem_of_getElem? (i := 9) rfl)
theorem own_w10 {Z : State} {a0 : Array Value} (hw : own_W Z a0) : (Jvm.Cond.code ({ cls := "java/lang/String", name := "<init>", desc := "([C)V" } : Jvm.MethodName) jdk_42_method_3_code (2 : Nat) (Option.none : Option Jvm.ClassFile.FieldType)).before a0 Z = true := hw _ (List.mem_of_getElem? (i := 10) rfl)
theorem own_w11 {Z : State} {a0 : Array Value} (hw : own_W Z a0) : (Jvm.Cond.methodLink "java/lang/String" (27 : Nat) ({ cls := "java/lang/String", name := "<init>", desc := "([CIILjava/lang/Void;)V" } : Jvm.MethodName)).before a0 Z = true := hw _ (List.mem_of_getElem? (i := 11) rfl)
theorem own_w12 {Z : State} {a0 : Array Value} (hw : own_W Z a0) : (Jvm.Cond.instanceMethod ({ cls := "java/lang/String", name := "<init>", desc := "([CIILjava/lang/Void;)V" } : Jvm.MethodName)).before a0 Z = true := hw _ (List.mem_of_getElem? (i := 12) rfl)
theorem own_w14 {Z : State} {a0 : Array Value} (hw : own_W Z a0) : (Jvm.Cond.code ({ cls := "java/lang/String", name := "<init>", desc := "([CIILjava/lang/Void;)V" } : Jvm.MethodName) jdk_42_method_149_code (6 : Nat) (Option.none : Option Jvm.ClassFile.FieldType)).before a0 Z = true := hw _ (List.mem_of_getElem? (i := 14) rfl)
theorem own_w15 {Z : State} {a0 : Array Value} (hw : own_W Z a0) : (Jvm.Cond.methodLink "java/lang/String" (1 : Nat) ({ cls := "java/lang/Object", name := "<init>", desc := "()V" } : Jvm.MethodName)).before a0 Z = true := hw _ (List.mem_of_getElem? (i := 15) rfl)
theorem own_w16 {Z : State} {a0 : Array Value} (hw : own_W Z a0) : (Jvm.Cond.instanceMethod ({ cls := "java/lang/Object", name := "<init>", desc := "()V" } : Jvm.MethodName)).before a0 Z = true := hw _ (List.mem_of_getElem? (i := 16) rfl)
theorem own_w17 {Z : State} {a0 : Array Value} (hw : own_W Z a0) : (Jvm.Cond.code ({ cls := "java/lang/Object", name := "<init>", desc := "()V" } : Jvm.MethodName) object_method_1_code (1 : Nat) (Option.none : Option Jvm.ClassFile.FieldType)).before a0 Z = true := hw _ (List.mem_of_getElem? (i := 17) rfl)
theorem own_w18 {Z : State} {a0 : Array Value} (hw : own_W Z a0) : (Jvm.Cond.stringLink "java/lang/String" (7 : Nat) "").before a0 Z = true := hw _ (List.mem_of_getElem? (i := 18) rfl)
theorem own_w19 {Z : State} {a0 : Array Value} (hw : own_W Z a0) : (Jvm.Cond.arrayClass Jvm.ClassFile.FieldType.byte).before a0 Z = true := hw _ (List.mem_of_getElem? (i := 19) rfl)
theorem own_w20 {Z : State} {a0 : Array Value} (hw : own_W Z a0) : (Jvm.Cond.laysFinal "java/lang/String" "java/lang/String" "value" "[B").before a0 Z = true := hw _ (List.mem_of_getElem? (i := 20) rfl)
theorem own_w21 {Z : State} {a0 : Array Value} (hw : own_W Z a0) : (Jvm.Cond.laysFinal "java/lang/String" "java/lang/String" "coder" "B").before a0 Z = true := hw _ (List.mem_of_getElem? (i := 21) rfl)
theorem own_w22 {Z : State} {a0 : Array Value} (hw : own_W Z a0) : (Jvm.Cond.soleField "java/lang/String" "value").before a0 Z = true := hw _ (List.mem_of_getElem? (i := 22) rfl)
theorem own_w23 {Z : State} {a0 : Array Value} (hw : own_W Z a0) : (Jvm.Cond.soleField "java/lang/String" "coder").before a0 Z = true := hw _ (List.mem_of_getElem? (i := 23) rfl)
theorem own_w24 {Z : State} {a0 : Array Value} (hw : own_W Z a0) : (Jvm.Cond.fieldLink "java/lang/String" (9 : Nat) "java/lang/String" "value" "[B").before a0 Z = true := hw _ (List.mem_of_getElem? (i := 24) rfl)
theorem own_w25 {Z : State} {a0 : Array Value} (hw : own_W Z a0) : (Jvm.Cond.fieldLink "java/lang/String" (15 : Nat) "java/lang/String" "coder" "B").before a0 Z = true := hw _ (List.mem_of_getElem? (i := 25) rfl)
theorem own_w26 {Z : State} {a0 : Array Value} (hw : own_W Z a0) : (Jvm.Cond.methodLink "com/example/overflowstream/overflowstream/OperatorWrittenPinLaw" (43 : Nat) ({ cls := "com/example/overflowstream/overflowstream/OperatorWrittenPinLaw", name := "expected", desc := "(ICC)Lcom/example/overflowstream/overflowstream/Query$Operator;" } : Jvm.MethodName)).before a0 Z = true := hw _ (List.mem_of_getElem? (i := 26) rfl)
theorem own_w27 {Z : State} {a0 : Array Value} (hw : own_W Z a0) : (Jvm.Cond.static ({ cls := "com/example/overflowstream/overflowstream/OperatorWrittenPinLaw", name := "expected", desc := "(ICC)Lcom/example/overflowstream/overflowstream/Query$Operator;" } : Jvm.MethodName)).before a0 Z = true := hw _ (List.mem_of_getElem? (i := 27) rfl)
theorem own_w28 {Z : State} {a0 : Array Value} (hw : own_W Z a0) : (Jvm.Cond.code ({ cls := "com/example/overflowstream/overflowstream/OperatorWrittenPinLaw", name := "expected", desc := "(ICC)Lcom/example/overflowstream/overflowstream/Query$Operator;" } : Jvm.MethodName) method_3_code (3 : Nat) (Option.some (Jvm.ClassFile.FieldType.object "com/example/overflowstream/overflowstream/Query$Operator"))).before a0 Z = true := hw _ (List.mem_of_getElem? (i := 28) rfl)
theorem own_w29 {Z : State} {a0 : Array Value} (hw : own_W Z a0) : (Jvm.Cond.methodLink "com/example/overflowstream/overflowstream/OperatorWrittenPinLaw" (47 : Nat) ({ cls := "com/example/overflowstream/overflowstream/Query$Operator", name := "written", desc := "(Ljava/lang/String;)Lcom/example/overflowstream/overflowstream/Query$Operator;" } : Jvm.MethodName)).before a0 Z = true := hw _ (List.mem_of_getElem? (i := 29) rfl)
theorem own_w30 {Z : State} {a0 : Array Value} (hw : own_W Z a0) : (Jvm.Cond.static ({ cls := "com/example/overflowstream/overflowstream/Query$Operator", name := "written", desc := "(Ljava/lang/String;)Lcom/example/overflowstream/overflowstream/Query$Operator;" } : Jvm.MethodName)).before a0 Z = true := hw _ (List.mem_of_getElem? (i := 30) rfl)
theorem own_w31 {Z : State} {a0 : Array Value} (hw : own_W Z a0) : (Jvm.Cond.initialized "com/example/overflowstream/overflowstream/Query$Operator").before a0 Z = true := hw _ (List.mem_of_getElem? (i := 31) rfl)
theorem own_w32 {Z : State} {a0 : Array Value} (hw : own_W Z a0) : (Jvm.Cond.code ({ cls := "com/example/overflowstream/overflowstream/Query$Operator", name := "written", desc := "(Ljava/lang/String;)Lcom/example/overflowstream/overflowstream/Query$Operator;" } : Jvm.MethodName) prog_36_method_4_code (5 : Nat) (Option.some (Jvm.ClassFile.FieldType.object "com/example/overflowstream/overflowstream/Query$Operator"))).before a0 Z = true := hw _ (List.mem_of_getElem? (i := 32) rfl)
theorem own_w33 {Z : State} {a0 : Array Value} (hw : own_W Z a0) : (Jvm.Cond.methodLink "com/example/overflowstream/overflowstream/Query$Operator" (45 : Nat) ({ cls := "com/example/overflowstream/overflowstream/Query$Operator", name := "values", desc := "()[Lcom/example/overflowstream/overflowstream/Query$Operator;" } : Jvm.MethodName)).before a0 Z = true := hw _ (List.mem_of_getElem? (i := 33) rfl)
theorem own_w34 {Z : State} {a0 : Array Value} (hw : own_W Z a0) : (Jvm.Cond.static ({ cls := "com/example/overflowstream/overflowstream/Query$Operator", name := "values", desc := "()[Lcom/example/overflowstream/overflowstream/Query$Operator;" } : Jvm.MethodName)).before a0 Z = true := hw _ (List.mem_of_getElem? (i := 34) rfl)
theorem own_w35 {Z : State} {a0 : Array Value} (hw : own_W Z a0) : (Jvm.Cond.code ({ cls := "com/example/overflowstream/overflowstream/Query$Operator", name := "values", desc := "()[Lcom/example/overflowstream/overflowstream/Query$Operator;" } : Jvm.MethodName) prog_36_method_1_code (0 : Nat) (Option.some (Jvm.ClassFile.FieldType.array (Jvm.ClassFile.FieldType.object "com/example/overflowstream/overflowstream/Query$Operator")))).before a0 Z = true := hw _ (List.mem_of_getElem? (i := 35) rfl)
theorem own_w36 {Z : State} {a0 : Array Value} (hw : own_W Z a0) : (Jvm.Cond.fieldLink "com/example/overflowstream/overflowstream/Query$Operator" (22 : Nat) "com/example/overflowstream/overflowstream/Query$Operator" "$VALUES" "[Lcom/example/overflowstream/overflowstream/Query$Operator;").before a0 Z = true := hw _ (List.mem_of_getElem? (i := 36) rfl)
theorem own_w38 {Z : State} {a0 : Array Value} (hw : own_W Z a0) : (Jvm.Cond.methodLink "com/example/overflowstream/overflowstream/Query$Operator" (26 : Nat) ({ cls := "[Lcom/example/overflowstream/overflowstream/Query$Operator;", name := "clone", desc := "()Ljava/lang/Object;" } : Jvm.MethodName)).before a0 Z = true := hw _ (List.mem_of_getElem? (i := 38) rfl)
theorem own_w39 {Z : State} {a0 : Array Value} (hw : own_W Z a0) : (Jvm.Cond.sameMethod "[Lcom/example/overflowstream/overflowstream/Query$Operator;" "java/lang/Object" "clone" "()Ljava/lang/Object;").before a0 Z = true := hw _ (List.mem_of_getElem? (i := 39) rfl)
theorem own_w41 {Z : State} {a0 : Array Value} (hw : own_W Z a0) : (Jvm.Cond.instanceMethod ({ cls := "java/lang/Object", name := "clone", desc := "()Ljava/lang/Object;" } : Jvm.MethodName)).before a0 Z = true := hw _ (List.mem_of_getElem? (i := 41) rfl)
theorem own_w42 {Z : State} {a0 : Array Value} (hw : own_W Z a0) : (Jvm.Cond.selects "[Lcom/example/overflowstream/overflowstream/Query$Operator;" ({ cls := "[Lcom/example/overflowstream/overflowstream/Query$Operator;", name := "clone", desc := "()Ljava/lang/Object;" } : Jvm.MethodName) ({ cls := "java/lang/Object", name := "clone", desc := "()Ljava/lang/Object;" } : Jvm.MethodName)).before a0 Z = true := hw _ (List.mem_of_getElem? (i := 42) rfl)
theorem own_w43 {Z : State} {a0 : Array Value} (hw : own_W Z a0) : (Jvm.Cond.native ({ cls := "java/lang/Object", name := "clone", desc := "()Ljava/lang/Object;" } : Jvm.MethodName)).before a0 Z = true := hw _ (List.mem_of_getElem? (i := 43) rfl)
theorem own_w44 {Z : State} {a0 : Array Value} (hw : own_W Z a0) : (Jvm.Cond.castable "[Lcom/example/overflowstream/overflowstream/Query$Operator;" "java/lang/Cloneable").before a0 Z = true := hw _ (List.mem_of_getElem? (i := 44) rfl)
theorem own_w45 {Z : State} {a0 : Array Value} (hw : own_W Z a0) : (Jvm.Cond.laysStatic "com/example/overflowstream/overflowstream/Query$Operator" "EQUAL" "Lcom/example/overflowstream/overflowstream/Query$Operator;").before a0 Z = true := hw _ (List.mem_of_getElem? (i := 45) rfl)
theorem own_w46 {Z : State} {a0 : Array Value} (hw : own_W Z a0) : (Jvm.Cond.laysStatic "com/example/overflowstream/overflowstream/Query$Operator" "NOT_EQUAL" "Lcom/example/overflowstream/overflowstream/Query$Operator;").before a0 Z = true := hw _ (List.mem_of_getElem? (i := 46) rfl)
theorem own_w47 {Z : State} {a0 : Array Value} (hw : own_W Z a0) : (Jvm.Cond.laysStatic "com/example/overflowstream/overflowstream/Query$Operator" "LESS" "Lcom/example/overflowstream/overflowstream/Query$Operator;").before a0 Z = true := hw _ (List.mem_of_getElem? (i := 47) rfl)
theorem own_w48 {Z : State} {a0 : Array Value} (hw : own_W Z a0) : (Jvm.Cond.laysStatic "com/example/overflowstream/overflowstream/Query$Operator" "LESS_OR_EQUAL" "Lcom/example/overflowstream/overflowstream/Query$Operator;").before a0 Z = true := hw _ (List.mem_of_getElem? (i := 48) rfl)
theorem own_w49 {Z : State} {a0 : Array Value} (hw : own_W Z a0) : (Jvm.Cond.laysStatic "com/example/overflowstream/overflowstream/Query$Operator" "GREATER" "Lcom/example/overflowstream/overflowstream/Query$Operator;").before a0 Z = true := hw _ (List.mem_of_getElem? (i := 49) rfl)
theorem own_w50 {Z : State} {a0 : Array Value} (hw : own_W Z a0) : (Jvm.Cond.laysStatic "com/example/overflowstream/overflowstream/Query$Operator" "GREATER_OR_EQUAL" "Lcom/example/overflowstream/overflowstream/Query$Operator;").before a0 Z = true := hw _ (List.mem_of_getElem? (i := 50) rfl)
theorem own_w51 {Z : State} {a0 : Array Value} (hw : own_W Z a0) : (Jvm.Cond.initializedFor "com/example/overflowstream/overflowstream/Query$Operator" "$VALUES" "[Lcom/example/overflowstream/overflowstream/Query$Operator;").before a0 Z = true := hw _ (List.mem_of_getElem? (i := 51) rfl)
theorem own_w52 {Z : State} {a0 : Array Value} (hw : own_W Z a0) : (Jvm.Cond.classLink "com/example/overflowstream/overflowstream/Query$Operator" (27 : Nat) "[Lcom/example/overflowstream/overflowstream/Query$Operator;").before a0 Z = true := hw _ (List.mem_of_getElem? (i := 52) rfl)
theorem own_w54 {Z : State} {a0 : Array Value} (hw : own_W Z a0) : (Jvm.Cond.fieldLink "com/example/overflowstream/overflowstream/Query$Operator" (41 : Nat) "com/example/overflowstream/overflowstream/Query$Operator" "symbol" "Ljava/lang/String;").before a0 Z = true := hw _ (List.mem_of_getElem? (i := 54) rfl)
theorem own_w56 {Z : State} {a0 : Array Value} (hw : own_W Z a0) : (Jvm.Cond.methodLink "com/example/overflowstream/overflowstream/Query$Operator" (49 : Nat) ({ cls := "java/lang/String", name := "equals", desc := "(Ljava/lang/Object;)Z" } : Jvm.MethodName)).before a0 Z = true := hw _ (List.mem_of_getElem? (i := 56) rfl)
theorem own_w57 {Z : State} {a0 : Array Value} (hw : own_W Z a0) : (Jvm.Cond.declares ({ cls := "java/lang/String", name := "equals", desc := "(Ljava/lang/Object;)Z" } : Jvm.MethodName)).before a0 Z = true := hw _ (List.mem_of_getElem? (i := 57) rfl)
theorem own_w58 {Z : State} {a0 : Array Value} (hw : own_W Z a0) : (Jvm.Cond.instanceMethod ({ cls := "java/lang/String", name := "equals", desc := "(Ljava/lang/Object;)Z" } : Jvm.MethodName)).before a0 Z = true := hw _ (List.mem_of_getElem? (i := 58) rfl)
theorem own_w59 {Z : State} {a0 : Array Value} (hw : own_W Z a0) : (Jvm.Cond.selects "java/lang/String" ({ cls := "java/lang/String", name := "equals", desc := "(Ljava/lang/Object;)Z" } : Jvm.MethodName) ({ cls := "java/lang/String", name := "equals", desc := "(Ljava/lang/Object;)Z" } : Jvm.MethodName)).before a0 Z = true := hw _ (List.mem_of_getElem? (i := 59) rfl)
theorem own_w60 {Z : State} {a0 : Array Value} (hw : own_W Z a0) : (Jvm.Cond.code ({ cls := "java/lang/String", name := "equals", desc := "(Ljava/lang/Object;)Z" } : Jvm.MethodName) jdk_42_method_66_code (3 : Nat) (Option.some Jvm.ClassFile.FieldType.boolean)).before a0 Z = true := hw _ (List.mem_of_getElem? (i := 60) rfl)
theorem own_w61 {Z : State} {a0 : Array Value} (hw : own_W Z a0) : (Jvm.Cond.classLink "java/lang/String" (10 : Nat) "java/lang/String").before a0 Z = true := hw _ (List.mem_of_getElem? (i := 61) rfl)
theorem own_w62 {Z : State} {a0 : Array Value} (hw : own_W Z a0) : (Jvm.Cond.fieldLink "java/lang/String" (38 : Nat) "java/lang/String" "COMPACT_STRINGS" "Z").before a0 Z = true := hw _ (List.mem_of_getElem? (i := 62) rfl)
theorem own_w63 {Z : State} {a0 : Array Value} (hw : own_W Z a0) : (Jvm.Cond.methodLink "java/lang/String" (541 : Nat) ({ cls := "java/lang/StringLatin1", name := "equals", desc := "([B[B)Z" } : Jvm.MethodName)).before a0 Z = true := hw _ (List.mem_of_getElem? (i := 63) rfl)
theorem own_w64 {Z : State} {a0 : Array Value} (hw : own_W Z a0) : (Jvm.Cond.static ({ cls := "java/lang/StringLatin1", name := "equals", desc := "([B[B)Z" } : Jvm.MethodName)).before a0 Z = true := hw _ (List.mem_of_getElem? (i := 64) rfl)
theorem own_w65 {Z : State} {a0 : Array Value} (hw : own_W Z a0) : (Jvm.Cond.initialized "java/lang/StringLatin1").before a0 Z = true := hw _ (List.mem_of_getElem? (i := 65) rfl)
theorem own_w66 {Z : State} {a0 : Array Value} (hw : own_W Z a0) : (Jvm.Cond.code ({ cls := "java/lang/StringLatin1", name := "equals", desc := "([B[B)Z" } : Jvm.MethodName) jdk_43_method_13_code (3 : Nat) (Option.some Jvm.ClassFile.FieldType.boolean)).before a0 Z = true := hw _ (List.mem_of_getElem? (i := 66) rfl)
theorem own_w67 {Z : State} {a0 : Array Value} (hw : own_W Z a0) : (Jvm.Cond.methodLink "java/lang/String" (177 : Nat) ({ cls := "java/lang/StringUTF16", name := "compress", desc := "([CII)[B" } : Jvm.MethodName)).before a0 Z = true := hw _ (List.mem_of_getElem? (i := 67) rfl)
theorem own_w68 {Z : State} {a0 : Array Value} (hw : own_W Z a0) : (Jvm.Cond.static ({ cls := "java/lang/StringUTF16", name := "compress", desc := "([CII)[B" } : Jvm.MethodName)).before a0 Z = true := hw _ (List.mem_of_getElem? (i := 68) rfl)
theorem own_w69 {Z : State} {a0 : Array Value} (hw : own_W Z a0) : (Jvm.Cond.initialized "java/lang/StringUTF16").before a0 Z = true := hw _ (List.mem_of_getElem? (i := 69) rfl)
theorem own_w70 {Z : State} {a0 : Array Value} (hw : own_W Z a0) : (Jvm.Cond.code ({ cls := "java/lang/StringUTF16", name := "compress", desc := "([CII)[B" } : Jvm.MethodName) jdk_52_method_16_code (6 : Nat) (Option.some (Jvm.ClassFile.FieldType.array Jvm.ClassFile.FieldType.byte))).before a0 Z = true := hw _ (List.mem_of_getElem? (i := 70) rfl)
theorem own_w71 {Z : State} {a0 : Array Value} (hw : own_W Z a0) : (Jvm.Cond.methodLink "java/lang/StringUTF16" (115 : Nat) ({ cls := "java/lang/StringUTF16", name := "compress", desc := "([CI[BII)I" } : Jvm.MethodName)).before a0 Z = true := hw _ (List.mem_of_getElem? (i := 71) rfl)
theorem own_w72 {Z : State} {a0 : Array Value} (hw : own_W Z a0) : (Jvm.Cond.static ({ cls := "java/lang/StringUTF16", name := "compress", desc := "([CI[BII)I" } : Jvm.MethodName)).before a0 Z = true := hw _ (List.mem_of_getElem? (i := 72) rfl)
theorem own_w73 {Z : State} {a0 : Array Value} (hw : own_W Z a0) : (Jvm.Cond.code ({ cls := "java/lang/StringUTF16", name := "compress", desc := "([CI[BII)I" } : Jvm.MethodName) jdk_52_method_21_code (7 : Nat) (Option.some Jvm.ClassFile.FieldType.int)).before a0 Z = true := hw _ (List.mem_of_getElem? (i := 73) rfl)
theorem own_w74 {Z : State} {a0 : Array Value} (hw : own_W Z a0) : (Jvm.Cond.methodLink "java/lang/String" (47 : Nat) ({ cls := "java/lang/StringUTF16", name := "coderFromArrayLen", desc := "([BI)B" } : Jvm.MethodName)).before a0 Z = true := hw _ (List.mem_of_getElem? (i := 74) rfl)
theorem own_w75 {Z : State} {a0 : Array Value} (hw : own_W Z a0) : (Jvm.Cond.static ({ cls := "java/lang/StringUTF16", name := "coderFromArrayLen", desc := "([BI)B" } : Jvm.MethodName)).before a0 Z = true := hw _ (List.mem_of_getElem? (i := 75) rfl)
theorem own_w76 {Z : State} {a0 : Array Value} (hw : own_W Z a0) : (Jvm.Cond.code ({ cls := "java/lang/StringUTF16", name := "coderFromArrayLen", desc := "([BI)B" } : Jvm.MethodName) jdk_52_method_15_code (2 : Nat) (Option.some Jvm.ClassFile.FieldType.byte)).before a0 Z = true := hw _ (List.mem_of_getElem? (i := 76) rfl)
theorem own_w77 {Z : State} {a0 : Array Value} (hw : own_W Z a0) : (Jvm.Cond.methodLink "com/example/overflowstream/overflowstream/OperatorWrittenPinLaw" (39 : Nat) ({ cls := "java/lang/String", name := "valueOf", desc := "(C)Ljava/lang/String;" } : Jvm.MethodName)).before a0 Z = true := hw _ (List.mem_of_getElem? (i := 77) rfl)
theorem own_w78 {Z : State} {a0 : Array Value} (hw : own_W Z a0) : (Jvm.Cond.static ({ cls := "java/lang/String", name := "valueOf", desc := "(C)Ljava/lang/String;" } : Jvm.MethodName)).before a0 Z = true := hw _ (List.mem_of_getElem? (i := 78) rfl)
theorem own_w79 {Z : State} {a0 : Array Value} (hw : own_W Z a0) : (Jvm.Cond.code ({ cls := "java/lang/String", name := "valueOf", desc := "(C)Ljava/lang/String;" } : Jvm.MethodName) jdk_42_method_139_code (1 : Nat) (Option.some (Jvm.ClassFile.FieldType.object "java/lang/String"))).before a0 Z = true := hw _ (List.mem_of_getElem? (i := 79) rfl)
theorem own_w80 {Z : State} {a0 : Array Value} (hw : own_W Z a0) : (Jvm.Cond.methodLink "java/lang/String" (1015 : Nat) ({ cls := "java/lang/StringLatin1", name := "canEncode", desc := "(C)Z" } : Jvm.MethodName)).before a0 Z = true := hw _ (List.mem_of_getElem? (i := 80) rfl)
theorem own_w81 {Z : State} {a0 : Array Value} (hw : own_W Z a0) : (Jvm.Cond.static ({ cls := "java/lang/StringLatin1", name := "canEncode", desc := "(C)Z" } : Jvm.MethodName)).before a0 Z = true := hw _ (List.mem_of_getElem? (i := 81) rfl)
theorem own_w82 {Z : State} {a0 : Array Value} (hw : own_W Z a0) : (Jvm.Cond.code ({ cls := "java/lang/StringLatin1", name := "canEncode", desc := "(C)Z" } : Jvm.MethodName) jdk_43_method_3_code (1 : Nat) (Option.some Jvm.ClassFile.FieldType.boolean)).before a0 Z = true := hw _ (List.mem_of_getElem? (i := 82) rfl)
theorem own_w83 {Z : State} {a0 : Array Value} (hw : own_W Z a0) : (Jvm.Cond.methodLink "java/lang/String" (1018 : Nat) ({ cls := "java/lang/StringLatin1", name := "toBytes", desc := "(C)[B" } : Jvm.MethodName)).before a0 Z = true := hw _ (List.mem_of_getElem? (i := 83) rfl)
theorem own_w84 {Z : State} {a0 : Array Value} (hw : own_W Z a0) : (Jvm.Cond.static ({ cls := "java/lang/StringLatin1", name := "toBytes", desc := "(C)[B" } : Jvm.MethodName)).before a0 Z = true := hw _ (List.mem_of_getElem? (i := 84) rfl)
theorem own_w85 {Z : State} {a0 : Array Value} (hw : own_W Z a0) : (Jvm.Cond.code ({ cls := "java/lang/StringLatin1", name := "toBytes", desc := "(C)[B" } : Jvm.MethodName) jdk_43_method_46_code (1 : Nat) (Option.some (Jvm.ClassFile.FieldType.array Jvm.ClassFile.FieldType.byte))).before a0 Z = true := hw _ (List.mem_of_getElem? (i := 85) rfl)
theorem own_w86 {Z : State} {a0 : Array Value} (hw : own_W Z a0) : (Jvm.Cond.methodLink "java/lang/String" (209 : Nat) ({ cls := "java/lang/String", name := "<init>", desc := "([BB)V" } : Jvm.MethodName)).before a0 Z = true := hw _ (List.mem_of_getElem? (i := 86) rfl)
theorem own_w87 {Z : State} {a0 : Array Value} (hw : own_W Z a0) : (Jvm.Cond.instanceMethod ({ cls := "java/lang/String", name := "<init>", desc := "([BB)V" } : Jvm.MethodName)).before a0 Z = true := hw _ (List.mem_of_getElem? (i := 87) rfl)
theorem own_w88 {Z : State} {a0 : Array Value} (hw : own_W Z a0) : (Jvm.Cond.code ({ cls := "java/lang/String", name := "<init>", desc := "([BB)V" } : Jvm.MethodName) jdk_42_method_151_code (3 : Nat) (Option.none : Option Jvm.ClassFile.FieldType)).before a0 Z = true := hw _ (List.mem_of_getElem? (i := 88) rfl)
theorem own_w89 {Z : State} {a0 : Array Value} (hw : own_W Z a0) : (Jvm.Cond.fieldLink "com/example/overflowstream/overflowstream/OperatorWrittenPinLaw" (13 : Nat) "com/example/overflowstream/overflowstream/Query$Operator" "LESS" "Lcom/example/overflowstream/overflowstream/Query$Operator;").before a0 Z = true := hw _ (List.mem_of_getElem? (i := 89) rfl)
theorem own_w90 {Z : State} {a0 : Array Value} (hw : own_W Z a0) : (Jvm.Cond.fieldLink "com/example/overflowstream/overflowstream/OperatorWrittenPinLaw" (16 : Nat) "com/example/overflowstream/overflowstream/Query$Operator" "GREATER" "Lcom/example/overflowstream/overflowstream/Query$Operator;").before a0 Z = true := hw _ (List.mem_of_getElem? (i := 90) rfl)
theorem own_w91 {Z : State} {a0 : Array Value} (hw : own_W Z a0) : (Jvm.Cond.fieldLink "com/example/overflowstream/overflowstream/OperatorWrittenPinLaw" (7 : Nat) "com/example/overflowstream/overflowstream/Query$Operator" "EQUAL" "Lcom/example/overflowstream/overflowstream/Query$Operator;").before a0 Z = true := hw _ (List.mem_of_getElem? (i := 91) rfl)
theorem own_w92 {Z : State} {a0 : Array Value} (hw : own_W Z a0) : (Jvm.Cond.fieldLink "com/example/overflowstream/overflowstream/OperatorWrittenPinLaw" (22 : Nat) "com/example/overflowstream/overflowstream/Query$Operator" "LESS_OR_EQUAL" "Lcom/example/overflowstream/overflowstream/Query$Operator;").before a0 Z = true := hw _ (List.mem_of_getElem? (i := 92) rfl)
theorem own_w93 {Z : State} {a0 : Array Value} (hw : own_W Z a0) : (Jvm.Cond.fieldLink "com/example/overflowstream/overflowstream/OperatorWrittenPinLaw" (19 : Nat) "com/example/overflowstream/overflowstream/Query$Operator" "NOT_EQUAL" "Lcom/example/overflowstream/overflowstream/Query$Operator;").before a0 Z = true := hw _ (List.mem_of_getElem? (i := 93) rfl)
theorem own_w94 {Z : State} {a0 : Array Value} (hw : own_W Z a0) : (Jvm.Cond.fieldLink "com/example/overflowstream/overflowstream/OperatorWrittenPinLaw" (25 : Nat) "com/example/overflowstream/overflowstream/Query$Operator" "GREATER_OR_EQUAL" "Lcom/example/overflowstream/overflowstream/Query$Operator;").before a0 Z = true := hw _ (List.mem_of_getElem? (i := 94) rfl)
theorem own_d1_0 : decode method_2_code 0 = .ok (.iload_n 0, 1) := by decide +kernel
theorem own_d1_1 : decode method_2_code 1 = .ok (.bipush 15, 2) := by decide +kernel
theorem own_d1_3 : decode method_2_code 3 = .ok (.iand, 1) := by decide +kernel
theorem own_d1_4 : decode method_2_code 4 = .ok (.istore_n 1, 1) := by decide +kernel
theorem own_d1_5 : decode method_2_code 5 = .ok (.iload_n 1, 1) := by decide +kernel
theorem own_d1_6 : decode method_2_code 6 = .ok (.ifCond .ne 6, 3) := by decide +kernel
theorem own_d1_9 : decode method_2_code 9 = .ok (.bipush 60, 2) := by decide +kernel
theorem own_d1_11 : decode method_2_code 11 = .ok (.ireturn, 1) := by decide +kernel
theorem own_d1_12 : decode method_2_code 12 = .ok (.iload_n 1, 1) := by decide +kernel
theorem own_d1_13 : decode method_2_code 13 = .ok (.iconst 1, 1) := by decide +kernel
theorem own_d1_14 : decode method_2_code 14 = .ok (.if_icmp .ne 6, 3) := by decide +kernel
theorem own_d1_17 : decode method_2_code 17 = .ok (.bipush 61, 2) := by decide +kernel
theorem own_d1_19 : decode method_2_code 19 = .ok (.ireturn, 1) := by decide +kernel
theorem own_d1_20 : decode method_2_code 20 = .ok (.iload_n 1, 1) := by decide +kernel
theorem own_d1_21 : decode method_2_code 21 = .ok (.iconst 2, 1) := by decide +kernel
theorem own_d1_22 : decode method_2_code 22 = .ok (.if_icmp .ne 6, 3) := by decide +kernel
theorem own_d1_25 : decode method_2_code 25 = .ok (.bipush 62, 2) := by decide +kernel
theorem own_d1_27 : decode method_2_code 27 = .ok (.ireturn, 1) := by decide +kernel
theorem own_d1_28 : decode method_2_code 28 = .ok (.iload_n 1, 1) := by decide +kernel
theorem own_d1_29 : decode method_2_code 29 = .ok (.iconst 3, 1) := by decide +kernel
theorem own_d1_30 : decode method_2_code 30 = .ok (.if_icmp .ne 6, 3) := by decide +kernel
theorem own_d1_33 : decode method_2_code 33 = .ok (.bipush 33, 2) := by decide +kernel
theorem own_d1_35 : decode method_2_code 35 = .ok (.ireturn, 1) := by decide +kernel
theorem own_d1_36 : decode method_2_code 36 = .ok (.iload_n 1, 1) := by decide +kernel
theorem own_d1_37 : decode method_2_code 37 = .ok (.iconst 4, 1) := by decide +kernel
theorem own_d1_38 : decode method_2_code 38 = .ok (.if_icmp .ne 6, 3) := by decide +kernel
theorem own_d1_41 : decode method_2_code 41 = .ok (.bipush 32, 2) := by decide +kernel
theorem own_d1_43 : decode method_2_code 43 = .ok (.ireturn, 1) := by decide +kernel
theorem own_d1_44 : decode method_2_code 44 = .ok (.iload_n 0, 1) := by decide +kernel
theorem own_d1_45 : decode method_2_code 45 = .ok (.iconst 4, 1) := by decide +kernel
theorem own_d1_46 : decode method_2_code 46 = .ok (.iushr, 1) := by decide +kernel
theorem own_d1_47 : decode method_2_code 47 = .ok (.sipush 255, 3) := by decide +kernel
theorem own_d1_50 : decode method_2_code 50 = .ok (.iand, 1) := by decide +kernel
theorem own_d1_51 : decode method_2_code 51 = .ok (.i2c, 1) := by decide +kernel
theorem own_d1_52 : decode method_2_code 52 = .ok (.ireturn, 1) := by decide +kernel
theorem own_d2_0 : decode jdk_42_method_3_code 0 = .ok (.aload_n 0, 1) := by decide +kernel
theorem own_d2_1 : decode jdk_42_method_3_code 1 = .ok (.aload_n 1, 1) := by decide +kernel
theorem own_d2_2 : decode jdk_42_method_3_code 2 = .ok (.iconst 0, 1) := by decide +kernel
theorem own_d2_3 : decode jdk_42_method_3_code 3 = .ok (.aload_n 1, 1) := by decide +kernel
theorem own_d2_4 : decode jdk_42_method_3_code 4 = .ok (.arraylength, 1) := by decide +kernel
theorem own_d2_5 : decode jdk_42_method_3_code 5 = .ok (.aconst_null, 1) := by decide +kernel
theorem own_d2_6 : decode jdk_42_method_3_code 6 = .ok (.invokespecial 27, 3) := by decide +kernel
theorem own_d2_9 : decode jdk_42_method_3_code 9 = .ok (.return_, 1) := by decide +kernel
theorem own_d3_0 : decode jdk_42_method_149_code 0 = .ok (.aload_n 0, 1) := by decide +kernel
theorem own_d3_1 : decode jdk_42_method_149_code 1 = .ok (.invokespecial 1, 3) := by decide +kernel
theorem own_d3_4 : decode jdk_42_method_149_code 4 = .ok (.iload_n 3, 1) := by decide +kernel
theorem own_d3_5 : decode jdk_42_method_149_code 5 = .ok (.ifCond .ne 22, 3) := by decide +kernel
theorem own_d3_8 : decode jdk_42_method_149_code 8 = .ok (.aload_n 0, 1) := by decide +kernel
theorem own_d3_9 : decode jdk_42_method_149_code 9 = .ok (.ldc 7, 2) := by decide +kernel
theorem own_d3_11 : decode jdk_42_method_149_code 11 = .ok (.getfield 9, 3) := by decide +kernel
theorem own_d3_14 : decode jdk_42_method_149_code 14 = .ok (.putfield 9, 3) := by decide +kernel
theorem own_d3_17 : decode jdk_42_method_149_code 17 = .ok (.aload_n 0, 1) := by decide +kernel
theorem own_d3_18 : decode jdk_42_method_149_code 18 = .ok (.ldc 7, 2) := by decide +kernel
theorem own_d3_20 : decode jdk_42_method_149_code 20 = .ok (.getfield 15, 3) := by decide +kernel
theorem own_d3_23 : decode jdk_42_method_149_code 23 = .ok (.putfield 15, 3) := by decide +kernel
theorem own_d3_26 : decode jdk_42_method_149_code 26 = .ok (.return_, 1) := by decide +kernel
theorem own_d3_27 : decode jdk_42_method_149_code 27 = .ok (.getstatic 38, 3) := by decide +kernel
theorem own_d3_30 : decode jdk_42_method_149_code 30 = .ok (.ifCond .eq 28, 3) := by decide +kernel
theorem own_d3_33 : decode jdk_42_method_149_code 33 = .ok (.aload_n 1, 1) := by decide +kernel
theorem own_d3_34 : decode jdk_42_method_149_code 34 = .ok (.iload_n 2, 1) := by decide +kernel
theorem own_d3_35 : decode jdk_42_method_149_code 35 = .ok (.iload_n 3, 1) := by decide +kernel
theorem own_d3_36 : decode jdk_42_method_149_code 36 = .ok (.invokestatic 177, 3) := by decide +kernel
theorem own_d3_39 : decode jdk_42_method_149_code 39 = .ok (.astore 5, 2) := by decide +kernel
theorem own_d3_41 : decode jdk_42_method_149_code 41 = .ok (.aload_n 0, 1) := by decide +kernel
theorem own_d3_42 : decode jdk_42_method_149_code 42 = .ok (.aload 5, 2) := by decide +kernel
theorem own_d3_44 : decode jdk_42_method_149_code 44 = .ok (.iload_n 3, 1) := by decide +kernel
theorem own_d3_45 : decode jdk_42_method_149_code 45 = .ok (.invokestatic 47, 3) := by decide +kernel
theorem own_d3_48 : decode jdk_42_method_149_code 48 = .ok (.putfield 15, 3) := by decide +kernel
theorem own_d3_51 : decode jdk_42_method_149_code 51 = .ok (.aload_n 0, 1) := by decide +kernel
theorem own_d3_52 : decode jdk_42_method_149_code 52 = .ok (.aload 5, 2) := by decide +kernel
theorem own_d3_54 : decode jdk_42_method_149_code 54 = .ok (.putfield 9, 3) := by decide +kernel
theorem own_d3_57 : decode jdk_42_method_149_code 57 = .ok (.return_, 1) := by decide +kernel
theorem own_d5_0 : decode method_3_code 0 = .ok (.iload_n 0, 1) := by decide +kernel
theorem own_d5_1 : decode method_3_code 1 = .ok (.iconst 1, 1) := by decide +kernel
theorem own_d5_2 : decode method_3_code 2 = .ok (.if_icmp .ne 35, 3) := by decide +kernel
theorem own_d5_5 : decode method_3_code 5 = .ok (.iload_n 1, 1) := by decide +kernel
theorem own_d5_6 : decode method_3_code 6 = .ok (.bipush 61, 2) := by decide +kernel
theorem own_d5_8 : decode method_3_code 8 = .ok (.if_icmp .ne 7, 3) := by decide +kernel
theorem own_d5_11 : decode method_3_code 11 = .ok (.getstatic 7, 3) := by decide +kernel
theorem own_d5_14 : decode method_3_code 14 = .ok (.areturn, 1) := by decide +kernel
theorem own_d5_15 : decode method_3_code 15 = .ok (.iload_n 1, 1) := by decide +kernel
theorem own_d5_16 : decode method_3_code 16 = .ok (.bipush 60, 2) := by decide +kernel
theorem own_d5_18 : decode method_3_code 18 = .ok (.if_icmp .ne 7, 3) := by decide +kernel
theorem own_d5_21 : decode method_3_code 21 = .ok (.getstatic 13, 3) := by decide +kernel
theorem own_d5_24 : decode method_3_code 24 = .ok (.areturn, 1) := by decide +kernel
theorem own_d5_25 : decode method_3_code 25 = .ok (.iload_n 1, 1) := by decide +kernel
theorem own_d5_26 : decode method_3_code 26 = .ok (.bipush 62, 2) := by decide +kernel
theorem own_d5_28 : decode method_3_code 28 = .ok (.if_icmp .ne 7, 3) := by decide +kernel
theorem own_d5_31 : decode method_3_code 31 = .ok (.getstatic 16, 3) := by decide +kernel
theorem own_d5_34 : decode method_3_code 34 = .ok (.areturn, 1) := by decide +kernel
theorem own_d5_35 : decode method_3_code 35 = .ok (.aconst_null, 1) := by decide +kernel
theorem own_d5_36 : decode method_3_code 36 = .ok (.areturn, 1) := by decide +kernel
theorem own_d5_37 : decode method_3_code 37 = .ok (.iload_n 0, 1) := by decide +kernel
theorem own_d5_38 : decode method_3_code 38 = .ok (.iconst 2, 1) := by decide +kernel
theorem own_d5_39 : decode method_3_code 39 = .ok (.if_icmp .ne 49, 3) := by decide +kernel
theorem own_d5_42 : decode method_3_code 42 = .ok (.iload_n 1, 1) := by decide +kernel
theorem own_d5_43 : decode method_3_code 43 = .ok (.bipush 60, 2) := by decide +kernel
theorem own_d5_45 : decode method_3_code 45 = .ok (.if_icmp .ne 25, 3) := by decide +kernel
theorem own_d5_48 : decode method_3_code 48 = .ok (.iload_n 2, 1) := by decide +kernel
theorem own_d5_49 : decode method_3_code 49 = .ok (.bipush 62, 2) := by decide +kernel
theorem own_d5_51 : decode method_3_code 51 = .ok (.if_icmp .ne 7, 3) := by decide +kernel
theorem own_d5_54 : decode method_3_code 54 = .ok (.getstatic 19, 3) := by decide +kernel
theorem own_d5_57 : decode method_3_code 57 = .ok (.areturn, 1) := by decide +kernel
theorem own_d5_58 : decode method_3_code 58 = .ok (.iload_n 2, 1) := by decide +kernel
theorem own_d5_59 : decode method_3_code 59 = .ok (.bipush 61, 2) := by decide +kernel
theorem own_d5_61 : decode method_3_code 61 = .ok (.if_icmp .ne 7, 3) := by decide +kernel
theorem own_d5_64 : decode method_3_code 64 = .ok (.getstatic 22, 3) := by decide +kernel
theorem own_d5_67 : decode method_3_code 67 = .ok (.areturn, 1) := by decide +kernel
theorem own_d5_68 : decode method_3_code 68 = .ok (.aconst_null, 1) := by decide +kernel
theorem own_d5_69 : decode method_3_code 69 = .ok (.areturn, 1) := by decide +kernel
theorem own_d5_70 : decode method_3_code 70 = .ok (.iload_n 1, 1) := by decide +kernel
theorem own_d5_71 : decode method_3_code 71 = .ok (.bipush 62, 2) := by decide +kernel
theorem own_d5_73 : decode method_3_code 73 = .ok (.if_icmp .ne 13, 3) := by decide +kernel
theorem own_d5_76 : decode method_3_code 76 = .ok (.iload_n 2, 1) := by decide +kernel
theorem own_d5_77 : decode method_3_code 77 = .ok (.bipush 61, 2) := by decide +kernel
theorem own_d5_79 : decode method_3_code 79 = .ok (.if_icmp .ne 7, 3) := by decide +kernel
theorem own_d5_82 : decode method_3_code 82 = .ok (.getstatic 25, 3) := by decide +kernel
theorem own_d5_85 : decode method_3_code 85 = .ok (.areturn, 1) := by decide +kernel
theorem own_d5_86 : decode method_3_code 86 = .ok (.aconst_null, 1) := by decide +kernel
theorem own_d5_87 : decode method_3_code 87 = .ok (.areturn, 1) := by decide +kernel
theorem own_d5_88 : decode method_3_code 88 = .ok (.aconst_null, 1) := by decide +kernel
theorem own_d5_89 : decode method_3_code 89 = .ok (.areturn, 1) := by decide +kernel
theorem own_d6_0 : decode prog_36_method_4_code 0 = .ok (.invokestatic 45, 3) := by decide +kernel
theorem own_d6_3 : decode prog_36_method_4_code 3 = .ok (.astore_n 1, 1) := by decide +kernel
theorem own_d6_4 : decode prog_36_method_4_code 4 = .ok (.aload_n 1, 1) := by decide +kernel
theorem own_d6_5 : decode prog_36_method_4_code 5 = .ok (.arraylength, 1) := by decide +kernel
theorem own_d6_6 : decode prog_36_method_4_code 6 = .ok (.istore_n 2, 1) := by decide +kernel
theorem own_d6_7 : decode prog_36_method_4_code 7 = .ok (.iconst 0, 1) := by decide +kernel
theorem own_d6_8 : decode prog_36_method_4_code 8 = .ok (.istore_n 3, 1) := by decide +kernel
theorem own_d6_9 : decode prog_36_method_4_code 9 = .ok (.iload_n 3, 1) := by decide +kernel
theorem own_d6_10 : decode prog_36_method_4_code 10 = .ok (.iload_n 2, 1) := by decide +kernel
theorem own_d6_11 : decode prog_36_method_4_code 11 = .ok (.if_icmp .ge 29, 3) := by decide +kernel
theorem own_d6_14 : decode prog_36_method_4_code 14 = .ok (.aload_n 1, 1) := by decide +kernel
theorem own_d6_15 : decode prog_36_method_4_code 15 = .ok (.iload_n 3, 1) := by decide +kernel
theorem own_d6_16 : decode prog_36_method_4_code 16 = .ok (.aaload, 1) := by decide +kernel
theorem own_d6_17 : decode prog_36_method_4_code 17 = .ok (.astore 4, 2) := by decide +kernel
theorem own_d6_19 : decode prog_36_method_4_code 19 = .ok (.aload 4, 2) := by decide +kernel
theorem own_d6_21 : decode prog_36_method_4_code 21 = .ok (.getfield 41, 3) := by decide +kernel
theorem own_d6_24 : decode prog_36_method_4_code 24 = .ok (.aload_n 0, 1) := by decide +kernel
theorem own_d6_25 : decode prog_36_method_4_code 25 = .ok (.invokevirtual 49, 3) := by decide +kernel
theorem own_d6_28 : decode prog_36_method_4_code 28 = .ok (.ifCond .eq 6, 3) := by decide +kernel
theorem own_d6_31 : decode prog_36_method_4_code 31 = .ok (.aload 4, 2) := by decide +kernel
theorem own_d6_33 : decode prog_36_method_4_code 33 = .ok (.areturn, 1) := by decide +kernel
theorem own_d6_34 : decode prog_36_method_4_code 34 = .ok (.iinc 3 1, 3) := by decide +kernel
theorem own_d6_37 : decode prog_36_method_4_code 37 = .ok (.goto (-28), 3) := by decide +kernel
theorem own_d6_40 : decode prog_36_method_4_code 40 = .ok (.aconst_null, 1) := by decide +kernel
theorem own_d6_41 : decode prog_36_method_4_code 41 = .ok (.areturn, 1) := by decide +kernel
theorem own_d7_0 : decode prog_36_method_1_code 0 = .ok (.getstatic 22, 3) := by decide +kernel
theorem own_d7_3 : decode prog_36_method_1_code 3 = .ok (.invokevirtual 26, 3) := by decide +kernel
theorem own_d7_6 : decode prog_36_method_1_code 6 = .ok (.checkcast 27, 3) := by decide +kernel
theorem own_d7_9 : decode prog_36_method_1_code 9 = .ok (.areturn, 1) := by decide +kernel
theorem own_d8_0 : decode jdk_42_method_66_code 0 = .ok (.aload_n 0, 1) := by decide +kernel
theorem own_d8_1 : decode jdk_42_method_66_code 1 = .ok (.aload_n 1, 1) := by decide +kernel
theorem own_d8_2 : decode jdk_42_method_66_code 2 = .ok (.if_acmp .ne 5, 3) := by decide +kernel
theorem own_d8_7 : decode jdk_42_method_66_code 7 = .ok (.aload_n 1, 1) := by decide +kernel
theorem own_d8_8 : decode jdk_42_method_66_code 8 = .ok (.instanceof 10, 3) := by decide +kernel
theorem own_d8_11 : decode jdk_42_method_66_code 11 = .ok (.ifCond .eq 43, 3) := by decide +kernel
theorem own_d8_14 : decode jdk_42_method_66_code 14 = .ok (.aload_n 1, 1) := by decide +kernel
theorem own_d8_15 : decode jdk_42_method_66_code 15 = .ok (.checkcast 10, 3) := by decide +kernel
theorem own_d8_18 : decode jdk_42_method_66_code 18 = .ok (.astore_n 2, 1) := by decide +kernel
theorem own_d8_19 : decode jdk_42_method_66_code 19 = .ok (.getstatic 38, 3) := by decide +kernel
theorem own_d8_22 : decode jdk_42_method_66_code 22 = .ok (.ifCond .eq 14, 3) := by decide +kernel
theorem own_d8_25 : decode jdk_42_method_66_code 25 = .ok (.aload_n 0, 1) := by decide +kernel
theorem own_d8_26 : decode jdk_42_method_66_code 26 = .ok (.getfield 15, 3) := by decide +kernel
theorem own_d8_29 : decode jdk_42_method_66_code 29 = .ok (.aload_n 2, 1) := by decide +kernel
theorem own_d8_30 : decode jdk_42_method_66_code 30 = .ok (.getfield 15, 3) := by decide +kernel
theorem own_d8_33 : decode jdk_42_method_66_code 33 = .ok (.if_icmp .ne 21, 3) := by decide +kernel
theorem own_d8_36 : decode jdk_42_method_66_code 36 = .ok (.aload_n 0, 1) := by decide +kernel
theorem own_d8_37 : decode jdk_42_method_66_code 37 = .ok (.getfield 9, 3) := by decide +kernel
theorem own_d8_40 : decode jdk_42_method_66_code 40 = .ok (.aload_n 2, 1) := by decide +kernel
theorem own_d8_41 : decode jdk_42_method_66_code 41 = .ok (.getfield 9, 3) := by decide +kernel
theorem own_d8_44 : decode jdk_42_method_66_code 44 = .ok (.invokestatic 541, 3) := by decide +kernel
theorem own_d8_47 : decode jdk_42_method_66_code 47 = .ok (.ifCond .eq 7, 3) := by decide +kernel
theorem own_d8_50 : decode jdk_42_method_66_code 50 = .ok (.iconst 1, 1) := by decide +kernel
theorem own_d8_51 : decode jdk_42_method_66_code 51 = .ok (.goto 4, 3) := by decide +kernel
theorem own_d8_54 : decode jdk_42_method_66_code 54 = .ok (.iconst 0, 1) := by decide +kernel
theorem own_d8_55 : decode jdk_42_method_66_code 55 = .ok (.ireturn, 1) := by decide +kernel
theorem own_d9_0 : decode jdk_43_method_13_code 0 = .ok (.aload_n 0, 1) := by decide +kernel
theorem own_d9_1 : decode jdk_43_method_13_code 1 = .ok (.arraylength, 1) := by decide +kernel
theorem own_d9_2 : decode jdk_43_method_13_code 2 = .ok (.aload_n 1, 1) := by decide +kernel
theorem own_d9_3 : decode jdk_43_method_13_code 3 = .ok (.arraylength, 1) := by decide +kernel
theorem own_d9_4 : decode jdk_43_method_13_code 4 = .ok (.if_icmp .ne 30, 3) := by decide +kernel
theorem own_d9_7 : decode jdk_43_method_13_code 7 = .ok (.iconst 0, 1) := by decide +kernel
theorem own_d9_8 : decode jdk_43_method_13_code 8 = .ok (.istore_n 2, 1) := by decide +kernel
theorem own_d9_9 : decode jdk_43_method_13_code 9 = .ok (.iload_n 2, 1) := by decide +kernel
theorem own_d9_10 : decode jdk_43_method_13_code 10 = .ok (.aload_n 0, 1) := by decide +kernel
theorem own_d9_11 : decode jdk_43_method_13_code 11 = .ok (.arraylength, 1) := by decide +kernel
theorem own_d9_12 : decode jdk_43_method_13_code 12 = .ok (.if_icmp .ge 20, 3) := by decide +kernel
theorem own_d9_15 : decode jdk_43_method_13_code 15 = .ok (.aload_n 0, 1) := by decide +kernel
theorem own_d9_16 : decode jdk_43_method_13_code 16 = .ok (.iload_n 2, 1) := by decide +kernel
theorem own_d9_17 : decode jdk_43_method_13_code 17 = .ok (.baload, 1) := by decide +kernel
theorem own_d9_18 : decode jdk_43_method_13_code 18 = .ok (.aload_n 1, 1) := by decide +kernel
theorem own_d9_19 : decode jdk_43_method_13_code 19 = .ok (.iload_n 2, 1) := by decide +kernel
theorem own_d9_20 : decode jdk_43_method_13_code 20 = .ok (.baload, 1) := by decide +kernel
theorem own_d9_21 : decode jdk_43_method_13_code 21 = .ok (.if_icmp .eq 5, 3) := by decide +kernel
theorem own_d9_24 : decode jdk_43_method_13_code 24 = .ok (.iconst 0, 1) := by decide +kernel
theorem own_d9_25 : decode jdk_43_method_13_code 25 = .ok (.ireturn, 1) := by decide +kernel
theorem own_d9_26 : decode jdk_43_method_13_code 26 = .ok (.iinc 2 1, 3) := by decide +kernel
theorem own_d9_29 : decode jdk_43_method_13_code 29 = .ok (.goto (-20), 3) := by decide +kernel
theorem own_d9_32 : decode jdk_43_method_13_code 32 = .ok (.iconst 1, 1) := by decide +kernel
theorem own_d9_33 : decode jdk_43_method_13_code 33 = .ok (.ireturn, 1) := by decide +kernel
theorem own_d9_34 : decode jdk_43_method_13_code 34 = .ok (.iconst 0, 1) := by decide +kernel
theorem own_d9_35 : decode jdk_43_method_13_code 35 = .ok (.ireturn, 1) := by decide +kernel
theorem own_d10_0 : decode jdk_52_method_16_code 0 = .ok (.iload_n 2, 1) := by decide +kernel
theorem own_d10_1 : decode jdk_52_method_16_code 1 = .ok (.newarray .byte, 2) := by decide +kernel
theorem own_d10_3 : decode jdk_52_method_16_code 3 = .ok (.astore_n 3, 1) := by decide +kernel
theorem own_d10_4 : decode jdk_52_method_16_code 4 = .ok (.aload_n 0, 1) := by decide +kernel
theorem own_d10_5 : decode jdk_52_method_16_code 5 = .ok (.iload_n 1, 1) := by decide +kernel
theorem own_d10_6 : decode jdk_52_method_16_code 6 = .ok (.aload_n 3, 1) := by decide +kernel
theorem own_d10_7 : decode jdk_52_method_16_code 7 = .ok (.iconst 0, 1) := by decide +kernel
theorem own_d10_8 : decode jdk_52_method_16_code 8 = .ok (.iload_n 2, 1) := by decide +kernel
theorem own_d10_9 : decode jdk_52_method_16_code 9 = .ok (.invokestatic 115, 3) := by decide +kernel
theorem own_d10_12 : decode jdk_52_method_16_code 12 = .ok (.istore 4, 2) := by decide +kernel
theorem own_d10_14 : decode jdk_52_method_16_code 14 = .ok (.iload 4, 2) := by decide +kernel
theorem own_d10_16 : decode jdk_52_method_16_code 16 = .ok (.iload_n 2, 1) := by decide +kernel
theorem own_d10_17 : decode jdk_52_method_16_code 17 = .ok (.if_icmp .eq 40, 3) := by decide +kernel
theorem own_d10_57 : decode jdk_52_method_16_code 57 = .ok (.aload_n 3, 1) := by decide +kernel
theorem own_d10_58 : decode jdk_52_method_16_code 58 = .ok (.areturn, 1) := by decide +kernel
theorem own_d11_0 : decode jdk_52_method_21_code 0 = .ok (.iconst 0, 1) := by decide +kernel
theorem own_d11_1 : decode jdk_52_method_21_code 1 = .ok (.istore 5, 2) := by decide +kernel
theorem own_d11_3 : decode jdk_52_method_21_code 3 = .ok (.iload 5, 2) := by decide +kernel
theorem own_d11_5 : decode jdk_52_method_21_code 5 = .ok (.iload 4, 2) := by decide +kernel
theorem own_d11_7 : decode jdk_52_method_21_code 7 = .ok (.if_icmp .ge 37, 3) := by decide +kernel
theorem own_d11_10 : decode jdk_52_method_21_code 10 = .ok (.aload_n 0, 1) := by decide +kernel
theorem own_d11_11 : decode jdk_52_method_21_code 11 = .ok (.iload_n 1, 1) := by decide +kernel
theorem own_d11_12 : decode jdk_52_method_21_code 12 = .ok (.caload, 1) := by decide +kernel
theorem own_d11_13 : decode jdk_52_method_21_code 13 = .ok (.istore 6, 2) := by decide +kernel
theorem own_d11_15 : decode jdk_52_method_21_code 15 = .ok (.iload 6, 2) := by decide +kernel
theorem own_d11_17 : decode jdk_52_method_21_code 17 = .ok (.sipush 255, 3) := by decide +kernel
theorem own_d11_20 : decode jdk_52_method_21_code 20 = .ok (.if_icmp .le 6, 3) := by decide +kernel
theorem own_d11_26 : decode jdk_52_method_21_code 26 = .ok (.aload_n 2, 1) := by decide +kernel
theorem own_d11_27 : decode jdk_52_method_21_code 27 = .ok (.iload_n 3, 1) := by decide +kernel
theorem own_d11_28 : decode jdk_52_method_21_code 28 = .ok (.iload 6, 2) := by decide +kernel
theorem own_d11_30 : decode jdk_52_method_21_code 30 = .ok (.i2b, 1) := by decide +kernel
theorem own_d11_31 : decode jdk_52_method_21_code 31 = .ok (.bastore, 1) := by decide +kernel
theorem own_d11_32 : decode jdk_52_method_21_code 32 = .ok (.iinc 1 1, 3) := by decide +kernel
theorem own_d11_35 : decode jdk_52_method_21_code 35 = .ok (.iinc 3 1, 3) := by decide +kernel
theorem own_d11_38 : decode jdk_52_method_21_code 38 = .ok (.iinc 5 1, 3) := by decide +kernel
theorem own_d11_41 : decode jdk_52_method_21_code 41 = .ok (.goto (-38), 3) := by decide +kernel
theorem own_d11_44 : decode jdk_52_method_21_code 44 = .ok (.iload 4, 2) := by decide +kernel
theorem own_d11_46 : decode jdk_52_method_21_code 46 = .ok (.ireturn, 1) := by decide +kernel
theorem own_d12_0 : decode jdk_52_method_15_code 0 = .ok (.iload_n 1, 1) := by decide +kernel
theorem own_d12_1 : decode jdk_52_method_15_code 1 = .ok (.aload_n 0, 1) := by decide +kernel
theorem own_d12_2 : decode jdk_52_method_15_code 2 = .ok (.arraylength, 1) := by decide +kernel
theorem own_d12_3 : decode jdk_52_method_15_code 3 = .ok (.isub, 1) := by decide +kernel
theorem own_d12_4 : decode jdk_52_method_15_code 4 = .ok (.bipush 31, 2) := by decide +kernel
theorem own_d12_6 : decode jdk_52_method_15_code 6 = .ok (.iushr, 1) := by decide +kernel
theorem own_d12_7 : decode jdk_52_method_15_code 7 = .ok (.i2b, 1) := by decide +kernel
theorem own_d12_8 : decode jdk_52_method_15_code 8 = .ok (.ireturn, 1) := by decide +kernel
theorem own_d13_0 : decode jdk_42_method_139_code 0 = .ok (.getstatic 38, 3) := by decide +kernel
theorem own_d13_3 : decode jdk_42_method_139_code 3 = .ok (.ifCond .eq 23, 3) := by decide +kernel
theorem own_d13_6 : decode jdk_42_method_139_code 6 = .ok (.iload_n 0, 1) := by decide +kernel
theorem own_d13_7 : decode jdk_42_method_139_code 7 = .ok (.invokestatic 1015, 3) := by decide +kernel
theorem own_d13_10 : decode jdk_42_method_139_code 10 = .ok (.ifCond .eq 16, 3) := by decide +kernel
theorem own_d13_13 : decode jdk_42_method_139_code 13 = .ok (.new 10, 3) := by decide +kernel
theorem own_d13_16 : decode jdk_42_method_139_code 16 = .ok (.dup, 1) := by decide +kernel
theorem own_d13_17 : decode jdk_42_method_139_code 17 = .ok (.iload_n 0, 1) := by decide +kernel
theorem own_d13_18 : decode jdk_42_method_139_code 18 = .ok (.invokestatic 1018, 3) := by decide +kernel
theorem own_d13_21 : decode jdk_42_method_139_code 21 = .ok (.iconst 0, 1) := by decide +kernel
theorem own_d13_22 : decode jdk_42_method_139_code 22 = .ok (.invokespecial 209, 3) := by decide +kernel
theorem own_d13_25 : decode jdk_42_method_139_code 25 = .ok (.areturn, 1) := by decide +kernel
theorem own_d14_0 : decode jdk_43_method_3_code 0 = .ok (.iload_n 0, 1) := by decide +kernel
theorem own_d14_1 : decode jdk_43_method_3_code 1 = .ok (.sipush 255, 3) := by decide +kernel
theorem own_d14_4 : decode jdk_43_method_3_code 4 = .ok (.if_icmp .gt 7, 3) := by decide +kernel
theorem own_d14_7 : decode jdk_43_method_3_code 7 = .ok (.iconst 1, 1) := by decide +kernel
theorem own_d14_8 : decode jdk_43_method_3_code 8 = .ok (.goto 4, 3) := by decide +kernel
theorem own_d14_12 : decode jdk_43_method_3_code 12 = .ok (.ireturn, 1) := by decide +kernel
theorem own_d15_0 : decode jdk_43_method_46_code 0 = .ok (.iconst 1, 1) := by decide +kernel
theorem own_d15_1 : decode jdk_43_method_46_code 1 = .ok (.newarray .byte, 2) := by decide +kernel
theorem own_d15_3 : decode jdk_43_method_46_code 3 = .ok (.dup, 1) := by decide +kernel
theorem own_d15_4 : decode jdk_43_method_46_code 4 = .ok (.iconst 0, 1) := by decide +kernel
theorem own_d15_5 : decode jdk_43_method_46_code 5 = .ok (.iload_n 0, 1) := by decide +kernel
theorem own_d15_6 : decode jdk_43_method_46_code 6 = .ok (.i2b, 1) := by decide +kernel
theorem own_d15_7 : decode jdk_43_method_46_code 7 = .ok (.bastore, 1) := by decide +kernel
theorem own_d15_8 : decode jdk_43_method_46_code 8 = .ok (.areturn, 1) := by decide +kernel
theorem own_d16_0 : decode jdk_42_method_151_code 0 = .ok (.aload_n 0, 1) := by decide +kernel
theorem own_d16_1 : decode jdk_42_method_151_code 1 = .ok (.invokespecial 1, 3) := by decide +kernel
theorem own_d16_4 : decode jdk_42_method_151_code 4 = .ok (.aload_n 0, 1) := by decide +kernel
theorem own_d16_5 : decode jdk_42_method_151_code 5 = .ok (.aload_n 1, 1) := by decide +kernel
theorem own_d16_6 : decode jdk_42_method_151_code 6 = .ok (.putfield 9, 3) := by decide +kernel
theorem own_d16_9 : decode jdk_42_method_151_code 9 = .ok (.aload_n 0, 1) := by decide +kernel
theorem own_d16_10 : decode jdk_42_method_151_code 10 = .ok (.iload_n 2, 1) := by decide +kernel
theorem own_d16_11 : decode jdk_42_method_151_code 11 = .ok (.putfield 15, 3) := by decide +kernel
theorem own_d16_14 : decode jdk_42_method_151_code 14 = .ok (.return_, 1) := by decide +kernel
theorem own_pd0 : parseMethodDescriptor "(C)Z" = some ⟨[.char], some .boolean⟩ := by decide +kernel
theorem own_pd1 : parseMethodDescriptor "(C)[B" = some ⟨[.char], some (.array .byte)⟩ := by decide +kernel
theorem own_pd2 : parseMethodDescriptor "([BB)V" = some ⟨[(.array .byte), .byte], none⟩ := by decide +kernel
theorem own_pd3 : parseMethodDescriptor "([CI[BII)I" = some ⟨[(.array .char), .int, (.array .byte), .int, .int], some .int⟩ := by decide +kernel
theorem own_pd4 : parseMethodDescriptor "([CII)[B" = some ⟨[(.array .char), .int, .int], some (.array .byte)⟩ := by decide +kernel
theorem own_pd5 : parseMethodDescriptor "([BI)B" = some ⟨[(.array .byte), .int], some .byte⟩ := by decide +kernel
theorem own_pd6 : parseMethodDescriptor "([CIILjava/lang/Void;)V" = some ⟨[(.array .char), .int, .int, (.object "java/lang/Void")], none⟩ := by decide +kernel
theorem own_pd7 : parseMethodDescriptor "([B[B)Z" = some ⟨[(.array .byte), (.array .byte)], some .boolean⟩ := by decide +kernel
theorem own_pd8 : parseMethodDescriptor "()[Lcom/example/overflowstream/overflowstream/Query$Operator;" = some ⟨[], some (.array (.object "com/example/overflowstream/overflowstream/Query$Operator"))⟩ := by decide +kernel
theorem own_pd9 : parseMethodDescriptor "(Ljava/lang/Object;)Z" = some ⟨[(.object "java/lang/Object")], some .boolean⟩ := by decide +kernel
theorem own_pd10 : parseMethodDescriptor "(I)C" = some ⟨[.int], some .char⟩ := by decide +kernel
theorem own_pd11 : parseMethodDescriptor "([C)V" = some ⟨[(.array .char)], none⟩ := by decide +kernel
theorem own_pd12 : parseMethodDescriptor "(ICC)Lcom/example/overflowstream/overflowstream/Query$Operator;" = some ⟨[.int, .char, .char], some (.object "com/example/overflowstream/overflowstream/Query$Operator")⟩ := by decide +kernel
theorem own_pd13 : parseMethodDescriptor "(Ljava/lang/String;)Lcom/example/overflowstream/overflowstream/Query$Operator;" = some ⟨[(.object "java/lang/String")], some (.object "com/example/overflowstream/overflowstream/Query$Operator")⟩ := by decide +kernel
theorem own_pd14 : parseMethodDescriptor "(C)Ljava/lang/String;" = some ⟨[.char], some (.object "java/lang/String")⟩ := by decide +kernel
theorem own_pn0 : plainName "com/example/overflowstream/overflowstream/OperatorWrittenPinLaw" = true := by first | (simp [plainName, overriddenIn]; done) | decide +kernel
theorem own_pn1 : plainName "java/lang/StringLatin1" = true := by first | (simp [plainName, overriddenIn]; done) | decide +kernel
theorem own_pn2 : plainName "java/lang/String" = true := by first | (simp [plainName, overriddenIn]; done) | decide +kernel
theorem own_pn3 : plainName "java/lang/StringUTF16" = true := by first | (simp [plainName, overriddenIn]; done) | decide +kernel
theorem own_pn4 : plainName "com/example/overflowstream/overflowstream/Query$Operator" = true := by first | (simp [plainName, overriddenIn]; done) | decide +kernel
theorem own_ef1 (m : MethodId) (p1 : Int32) : entryFrame m #[(.int p1)] 2 = mkF m 0 #[.val (.int p1), .unset] [] := by first | (simp [entryFrame, mkF, argsToLocals, Value.category]; done) | rfl
theorem own_ef14 (m : MethodId) (p1 : Int32) : entryFrame m #[(.int p1)] 1 = mkF m 0 #[.val (.int p1)] [] := by first | (simp [entryFrame, mkF, argsToLocals, Value.category]; done) | rfl
theorem own_ef16 (m : MethodId) (a1 : Addr) (a2 : Addr) (p1 : Int32) : entryFrame m #[(.ref a1), (.ref a2), (.int p1)] 3 = mkF m 0 #[.val (.ref a1), .val (.ref a2), .val (.int p1)] [] := by first | (simp [entryFrame, mkF, argsToLocals, Value.category]; done) | rfl
theorem own_ef15 (m : MethodId) (c0 : Int32) : entryFrame m #[(.int c0)] 1 = mkF m 0 #[.val (.int c0)] [] := by first | (simp [entryFrame, mkF, argsToLocals, Value.category]; done) | rfl
theorem own_ef13 (m : MethodId) (c0 : Int32) : entryFrame m #[(.int c0)] 1 = mkF m 0 #[.val (.int c0)] [] := by first | (simp [entryFrame, mkF, argsToLocals, Value.category]; done) | rfl
theorem own_ef11 (m : MethodId) (a1 : Addr) (p1 : Int32) (a2 : Addr) (p2 : Int32) (p3 : Int32) : entryFrame m #[(.ref a1), (.int p1), (.ref a2), (.int p2), (.int p3)] 7 = mkF m 0 #[.val (.ref a1), .val (.int p1), .val (.ref a2), .val (.int p2), .val (.int p3), .unset, .unset] [] := by first | (simp [entryFrame, mkF, argsToLocals, Value.category]; done) | rfl
theorem own_ef10 (m : MethodId) (a1 : Addr) (p1 : Int32) (p2 : Int32) : entryFrame m #[(.ref a1), (.int p1), (.int p2)] 6 = mkF m 0 #[.val (.ref a1), .val (.int p1), .val (.int p2), .unset, .unset, .unset] [] := by first | (simp [entryFrame, mkF, argsToLocals, Value.category]; done) | rfl
theorem own_ef12 (m : MethodId) (a1 : Addr) (p1 : Int32) : entryFrame m #[(.ref a1), (.int p1)] 2 = mkF m 0 #[.val (.ref a1), .val (.int p1)] [] := by first | (simp [entryFrame, mkF, argsToLocals, Value.category]; done) | rfl
theorem own_ef3n (m : MethodId) (a1 : Addr) (a2 : Addr) (p1 : Int32) (p2 : Int32) : entryFrame m #[(.ref a1), (.ref a2), (.int p1), (.int p2), .null] 6 = mkF m 0 #[.val (.ref a1), .val (.ref a2), .val (.int p1), .val (.int p2), .val .null, .unset] [] := by first | (simp [entryFrame, mkF, argsToLocals, Value.category]; done) | rfl
theorem own_ef2 (m : MethodId) (a1 : Addr) (a2 : Addr) : entryFrame m #[(.ref a1), (.ref a2)] 2 = mkF m 0 #[.val (.ref a1), .val (.ref a2)] [] := by first | (simp [entryFrame, mkF, argsToLocals, Value.category]; done) | rfl
theorem own_ef9 (m : MethodId) (a1 : Addr) (a2 : Addr) : entryFrame m #[(.ref a1), (.ref a2)] 3 = mkF m 0 #[.val (.ref a1), .val (.ref a2), .unset] [] := by first | (simp [entryFrame, mkF, argsToLocals, Value.category]; done) | rfl
theorem own_ef8 (m : MethodId) (a1 : Addr) (a2 : Addr) : entryFrame m #[(.ref a1), (.ref a2)] 3 = mkF m 0 #[.val (.ref a1), .val (.ref a2), .unset] [] := by first | (simp [entryFrame, mkF, argsToLocals, Value.category]; done) | rfl
theorem own_ef7 (m : MethodId)  : entryFrame m #[] 0 = mkF m 0 #[] [] := by first | (simp [entryFrame, mkF, argsToLocals, Value.category]; done) | rfl
theorem own_ef6 (m : MethodId) (a1 : Addr) : entryFrame m #[(.ref a1)] 5 = mkF m 0 #[.val (.ref a1), .unset, .unset, .unset, .unset] [] := by first | (simp [entryFrame, mkF, argsToLocals, Value.category]; done) | rfl
theorem own_ef5 (m : MethodId) (n : Int32) (c0 : Int32) (c1 : Int32) : entryFrame m #[(.int n), (.int c0), (.int c1)] 3 = mkF m 0 #[.val (.int n), .val (.int c0), .val (.int c1)] [] := by first | (simp [entryFrame, mkF, argsToLocals, Value.category]; done) | rfl
theorem own_ef0 (m : MethodId) (p1 : Int32) (p2 : Int32) (p3 : Int32) (p4 : Int32) : entryFrame m #[(.int p1), (.int p2), (.int p3), (.int p4)] maxLocals = mkF m 0 #[.val (.int p1), .val (.int p2), .val (.int p3), .val (.int p4), .unset, .unset, .unset, .unset, .unset, .unset, .unset] [] := by first | (simp [entryFrame, mkF, argsToLocals, Value.category, maxLocals]; done) | rfl
def own_eq1 (x y : Int32) : Int32 := if x = y then 1 else 0
def own_eq2 (x0 x1 y0 y1 : Int32) : Int32 := if x0 = y0 then (if x1 = y1 then 1 else 0) else 0
theorem own_eq01 (x y : Int32) : own_eq1 x y = 0 ∨ own_eq1 x y = 1 := by unfold own_eq1; by_cases h : x = y <;> simp [h]
theorem own_eq02 (x0 x1 y0 y1 : Int32) : own_eq2 x0 x1 y0 y1 = 0 ∨ own_eq2 x0 x1 y0 y1 = 1 := by unfold own_eq2; by_cases h : x0 = y0 <;> by_cases h' : x1 = y1 <;> simp [h, h']
def own_pk (x : Int32) : Int32 := if x &&& 15 = 0 then 60 else if x &&& 15 = 1 then 61 else if x &&& 15 = 2 then 62 else if x &&& 15 = 3 then 33 else if x &&& 15 = 4 then 32 else ((x.toUInt32 >>> ((4 : Int32) &&& 31).toUInt32).toInt32) &&& 255
def own_ch (c : Int32) : Prop := 0 ≤ c.toInt ∧ c.toInt ≤ 255
theorem own_pk_ch (x : Int32) : own_ch (own_pk x) := by
  unfold own_pk own_ch
  split
  · decide
  split
  · decide
  split
  · decide
  split
  · decide
  split
  · decide
  exact c_and _ 255 (by decide)
theorem own_narc {c : Int32} (h : own_ch c) : nar .char c = c := by
  have q := c_i2c c
  show c.toUInt32.toUInt16.toUInt32.toInt32 = c
  refine Int32.toInt_inj.mp ?_
  obtain ⟨h1, h2⟩ := h
  omega
theorem own_le255 {c : Int32} (h : own_ch c) : ¬ (255 : Int32) < c := fun q => by
  have := Int32.lt_iff_toInt_lt.mp q
  have z : (255 : Int32).toInt = 255 := by decide
  obtain ⟨h1, h2⟩ := h
  omega
theorem own_byte {c : Int32} {k : Int32} {n : Int} (h : own_ch c) (hn : k.toInt = n) (h0 : 0 ≤ n) (h1 : n < 128) : (k = nar .byte (c.toInt8.toInt32)) ↔ c = k := by
  have q := c_i2b c
  have q2 := c_i2b c.toInt8.toInt32
  obtain ⟨a1, a2⟩ := h
  show k = c.toInt8.toInt32.toInt8.toInt32 ↔ c = k
  constructor
  · intro e
    have e' := congrArg Int32.toInt e
    exact Int32.toInt_inj.mp (by omega)
  · intro e
    have e' := congrArg Int32.toInt e
    exact Int32.toInt_inj.mp (by omega)
theorem own_and3 (x : Int32) : x &&& 3 = 0 ∨ x &&& 3 = 1 ∨ x &&& 3 = 2 ∨ x &&& 3 = 3 := by
  have h := c_and x 3 (by decide)
  have h3 : (3 : Int32).toInt = 3 := by decide
  rw [h3] at h
  have : (x &&& 3).toInt = 0 ∨ (x &&& 3).toInt = 1 ∨ (x &&& 3).toInt = 2 ∨ (x &&& 3).toInt = 3 := by omega
  rcases this with q | q | q | q
  · exact Or.inl (Int32.toInt_inj.mp q)
  · exact Or.inr (Or.inl (Int32.toInt_inj.mp q))
  · exact Or.inr (Or.inr (Or.inl (Int32.toInt_inj.mp q)))
  · exact Or.inr (Or.inr (Or.inr (Int32.toInt_inj.mp q)))
def own_exv (n c0 c1 : Int32) (w0 w1 w2 w3 w4 w5 : Addr) : Value := if n = 1 then (if c0 = 61 then .ref w0 else if c0 = 60 then .ref w2 else if c0 = 62 then .ref w4 else .null) else if n = 2 then (if c0 = 60 then (if c1 = 62 then .ref w1 else if c1 = 61 then .ref w3 else .null) else if c0 = 62 then (if c1 = 61 then .ref w5 else .null) else .null) else .null
def own_wv1 (y0 : Int32) (w0 w2 w4 : Addr) : Value := if own_eq1 61 y0 = 0 then (if own_eq1 60 y0 = 0 then (if own_eq1 62 y0 = 0 then .null else .ref w4) else .ref w2) else .ref w0
def own_wv2 (y0 y1 : Int32) (w1 w3 w5 : Addr) : Value := if own_eq2 60 62 y0 y1 = 0 then (if own_eq2 60 61 y0 y1 = 0 then (if own_eq2 62 61 y0 y1 = 0 then .null else .ref w5) else .ref w3) else .ref w1
theorem own_narc2 (y : Int32) : nar .char ((y &&& 255).toUInt32.toUInt16.toUInt32.toInt32) = y &&& 255 := by
  rw [i2c_mask]
  exact own_narc (c_and y 255 (by decide))
def own_pick_Q (Z : State) (p1 : Int32) (h0 : Heap) (n0 : Nat) (v : Option Value) (h : Heap) (L : List Loc) : Prop := v = some (.int (own_pk p1)) ∧ Fr n0 L ∧ h = h0
set_option maxRecDepth 65536 in
set_option maxHeartbeats 40000000 in
theorem own_pick (l : Launch) {Z : State} {a0 : Array Value} (hw : own_W Z a0) (ws : List Jvm.Cond) (p1 : Int32) (h0 : Heap) (n0 : Nat) (Z0 : n0 ≤ h0.size)  :
    MetFree l (⟨"com/example/overflowstream/overflowstream/OperatorWrittenPinLaw", "pick", "(I)C"⟩ : MethodName) (head1 (Jvm.Cond.code (⟨"com/example/overflowstream/overflowstream/OperatorWrittenPinLaw", "pick", "(I)C"⟩ : MethodName) method_2_code 2 (some .char) :: ws) ({ frames := 0, cells := 0, slots := 0, locals := 0 } : Room)) (fun a U => a = #[(.int p1)] ∧ Z.Warmed39 U.vm ∧ U.heap = h0) (fun _ _ _ _ _ => True) (fun _ U o U' => ∃ v L, o = .returned v ∧ own_pick_Q Z p1 h0 n0 v U'.heap L ∧ FrameEnd U o U' L ({ frames := 0, cells := 0, slots := 0, locals := 0 } : Room).cells ({ frames := 0, cells := 0, slots := 0, locals := 0 } : Room).slots) := by
  refine own_enter (C := ({ frames := 0, cells := 0, slots := 0, locals := 0 } : Room).cells) (S := ({ frames := 0, cells := 0, slots := 0, locals := 0 } : Room).slots) (plainFor_of_name own_pn0) ?_
  intro p e s m below meth c T0 X0 I e0
  obtain ⟨hx, hby, hml, hown, hnm, hret, hlk, hZ⟩ := I
  have N0 := Fr.nil n0
  have O0 := own_extr h0
  refine own_cast (own_ef1 m p1) ?_
  show own_Go _ _ _ _ T0 (mkF m 0 #[.val (.int p1), .unset] [])
  refine own_st (fun _ k => XS.iloadN X0.here hx rfl (hb hby own_d1_0) rfl k) ?_
  show own_Go _ _ _ _ T0 (mkF m 1 #[.val (.int p1), .unset] [(.int p1)])
  refine own_st (fun _ k => XS.bipush X0.here hx rfl (hb hby own_d1_1) k) ?_
  show own_Go _ _ _ _ T0 (mkF m 3 #[.val (.int p1), .unset] [(.int (15 : Int32)), (.int p1)])
  refine own_st (fun _ k => XS.iand X0.here hx rfl (hb hby own_d1_3) rfl k) ?_
  show own_Go _ _ _ _ T0 (mkF m 4 #[.val (.int p1), .unset] [(.int (p1 &&& (15 : Int32)))])
  refine own_st (fun _ k => XS.istoreN X0.here hx rfl (hb hby own_d1_4) rfl (l' := #[.val (.int p1), .val (.int (p1 &&& (15 : Int32)))]) rfl k) ?_
  show own_Go _ _ _ _ T0 (mkF m 5 #[.val (.int p1), .val (.int (p1 &&& (15 : Int32)))] [])
  refine own_st (fun _ k => XS.iloadN X0.here hx rfl (hb hby own_d1_5) rfl k) ?_
  show own_Go _ _ _ _ T0 (mkF m 6 #[.val (.int p1), .val (.int (p1 &&& (15 : Int32)))] [(.int (p1 &&& (15 : Int32)))])
  by_cases h1 : (p1 &&& (15 : Int32)) = (0 : Int32)
  · refine own_st (fun _ k => XS.ifNo X0.here hx rfl (hb hby own_d1_6) rfl ((if0 _ _).trans (teq (h1 : (p1 &&& (15 : Int32)) = (0 : Int32))).2) k) ?_
    show own_Go _ _ _ _ T0 (mkF m 9 #[.val (.int p1), .val (.int (p1 &&& (15 : Int32)))] [])
    refine own_st (fun _ k => XS.bipush X0.here hx rfl (hb hby own_d1_9) k) ?_
    show own_Go _ _ _ _ T0 (mkF m 11 #[.val (.int p1), .val (.int (p1 &&& (15 : Int32)))] [(.int (60 : Int32))])
    exact own_retN X0 hx hret (by simp) hlk (hb hby own_d1_11) ⟨by simp [own_pk, *]; rfl, N0, e0⟩ (by decide) (by decide)
  · refine own_st (fun _ k => XS.ifYes X0.here hx rfl (pc0 := 6) (pc' := 12) rfl (hb hby own_d1_6) rfl ((if0 _ _).trans (feq (h1 : ¬ ((p1 &&& (15 : Int32)) = (0 : Int32)))).2) (by decide) (by decide) k) ?_
    show own_Go _ _ _ _ T0 (mkF m 12 #[.val (.int p1), .val (.int (p1 &&& (15 : Int32)))] [])
    refine own_st (fun _ k => XS.iloadN X0.here hx rfl (hb hby own_d1_12) rfl k) ?_
    show own_Go _ _ _ _ T0 (mkF m 13 #[.val (.int p1), .val (.int (p1 &&& (15 : Int32)))] [(.int (p1 &&& (15 : Int32)))])
    refine own_st (fun _ k => XS.iconst X0.here hx rfl (hb hby own_d1_13) k) ?_
    show own_Go _ _ _ _ T0 (mkF m 14 #[.val (.int p1), .val (.int (p1 &&& (15 : Int32)))] [(.int (1 : Int32)), (.int (p1 &&& (15 : Int32)))])
    by_cases h2 : (p1 &&& (15 : Int32)) = (1 : Int32)
    · refine own_st (fun _ k => XS.icmpNo X0.here hx rfl (hb hby own_d1_14) rfl (teq (h2 : (p1 &&& (15 : Int32)) = (1 : Int32))).2 k) ?_
      show own_Go _ _ _ _ T0 (mkF m 17 #[.val (.int p1), .val (.int (p1 &&& (15 : Int32)))] [])
      refine own_st (fun _ k => XS.bipush X0.here hx rfl (hb hby own_d1_17) k) ?_
      show own_Go _ _ _ _ T0 (mkF m 19 #[.val (.int p1), .val (.int (p1 &&& (15 : Int32)))] [(.int (61 : Int32))])
      exact own_retN X0 hx hret (by simp) hlk (hb hby own_d1_19) ⟨by simp [own_pk, *]; rfl, N0, e0⟩ (by decide) (by decide)
    · refine own_st (fun _ k => XS.icmpYes X0.here hx rfl (pc0 := 14) (pc' := 20) rfl (hb hby own_d1_14) rfl (feq (h2 : ¬ ((p1 &&& (15 : Int32)) = (1 : Int32)))).2 (by decide) (by decide) k) ?_
      show own_Go _ _ _ _ T0 (mkF m 20 #[.val (.int p1), .val (.int (p1 &&& (15 : Int32)))] [])
      refine own_st (fun _ k => XS.iloadN X0.here hx rfl (hb hby own_d1_20) rfl k) ?_
      show own_Go _ _ _ _ T0 (mkF m 21 #[.val (.int p1), .val (.int (p1 &&& (15 : Int32)))] [(.int (p1 &&& (15 : Int32)))])
      refine own_st (fun _ k => XS.iconst X0.here hx rfl (hb hby own_d1_21) k) ?_
      show own_Go _ _ _ _ T0 (mkF m 22 #[.val (.int p1), .val (.int (p1 &&& (15 : Int32)))] [(.int (2 : Int32)), (.int (p1 &&& (15 : Int32)))])
      by_cases h3 : (p1 &&& (15 : Int32)) = (2 : Int32)
      · refine own_st (fun _ k => XS.icmpNo X0.here hx rfl (hb hby own_d1_22) rfl (teq (h3 : (p1 &&& (15 : Int32)) = (2 : Int32))).2 k) ?_
        show own_Go _ _ _ _ T0 (mkF m 25 #[.val (.int p1), .val (.int (p1 &&& (15 : Int32)))] [])
        refine own_st (fun _ k => XS.bipush X0.here hx rfl (hb hby own_d1_25) k) ?_
        show own_Go _ _ _ _ T0 (mkF m 27 #[.val (.int p1), .val (.int (p1 &&& (15 : Int32)))] [(.int (62 : Int32))])
        exact own_retN X0 hx hret (by simp) hlk (hb hby own_d1_27) ⟨by simp [own_pk, *]; rfl, N0, e0⟩ (by decide) (by decide)
      · refine own_st (fun _ k => XS.icmpYes X0.here hx rfl (pc0 := 22) (pc' := 28) rfl (hb hby own_d1_22) rfl (feq (h3 : ¬ ((p1 &&& (15 : Int32)) = (2 : Int32)))).2 (by decide) (by decide) k) ?_
        show own_Go _ _ _ _ T0 (mkF m 28 #[.val (.int p1), .val (.int (p1 &&& (15 : Int32)))] [])
        refine own_st (fun _ k => XS.iloadN X0.here hx rfl (hb hby own_d1_28) rfl k) ?_
        show own_Go _ _ _ _ T0 (mkF m 29 #[.val (.int p1), .val (.int (p1 &&& (15 : Int32)))] [(.int (p1 &&& (15 : Int32)))])
        refine own_st (fun _ k => XS.iconst X0.here hx rfl (hb hby own_d1_29) k) ?_
        show own_Go _ _ _ _ T0 (mkF m 30 #[.val (.int p1), .val (.int (p1 &&& (15 : Int32)))] [(.int (3 : Int32)), (.int (p1 &&& (15 : Int32)))])
        by_cases h4 : (p1 &&& (15 : Int32)) = (3 : Int32)
        · refine own_st (fun _ k => XS.icmpNo X0.here hx rfl (hb hby own_d1_30) rfl (teq (h4 : (p1 &&& (15 : Int32)) = (3 : Int32))).2 k) ?_
          show own_Go _ _ _ _ T0 (mkF m 33 #[.val (.int p1), .val (.int (p1 &&& (15 : Int32)))] [])
          refine own_st (fun _ k => XS.bipush X0.here hx rfl (hb hby own_d1_33) k) ?_
          show own_Go _ _ _ _ T0 (mkF m 35 #[.val (.int p1), .val (.int (p1 &&& (15 : Int32)))] [(.int (33 : Int32))])
          exact own_retN X0 hx hret (by simp) hlk (hb hby own_d1_35) ⟨by simp [own_pk, *]; rfl, N0, e0⟩ (by decide) (by decide)
        · refine own_st (fun _ k => XS.icmpYes X0.here hx rfl (pc0 := 30) (pc' := 36) rfl (hb hby own_d1_30) rfl (feq (h4 : ¬ ((p1 &&& (15 : Int32)) = (3 : Int32)))).2 (by decide) (by decide) k) ?_
          show own_Go _ _ _ _ T0 (mkF m 36 #[.val (.int p1), .val (.int (p1 &&& (15 : Int32)))] [])
          refine own_st (fun _ k => XS.iloadN X0.here hx rfl (hb hby own_d1_36) rfl k) ?_
          show own_Go _ _ _ _ T0 (mkF m 37 #[.val (.int p1), .val (.int (p1 &&& (15 : Int32)))] [(.int (p1 &&& (15 : Int32)))])
          refine own_st (fun _ k => XS.iconst X0.here hx rfl (hb hby own_d1_37) k) ?_
          show own_Go _ _ _ _ T0 (mkF m 38 #[.val (.int p1), .val (.int (p1 &&& (15 : Int32)))] [(.int (4 : Int32)), (.int (p1 &&& (15 : Int32)))])
          by_cases h5 : (p1 &&& (15 : Int32)) = (4 : Int32)
          · refine own_st (fun _ k => XS.icmpNo X0.here hx rfl (hb hby own_d1_38) rfl (teq (h5 : (p1 &&& (15 : Int32)) = (4 : Int32))).2 k) ?_
            show own_Go _ _ _ _ T0 (mkF m 41 #[.val (.int p1), .val (.int (p1 &&& (15 : Int32)))] [])
            refine own_st (fun _ k => XS.bipush X0.here hx rfl (hb hby own_d1_41) k) ?_
            show own_Go _ _ _ _ T0 (mkF m 43 #[.val (.int p1), .val (.int (p1 &&& (15 : Int32)))] [(.int (32 : Int32))])
            exact own_retN X0 hx hret (by simp) hlk (hb hby own_d1_43) ⟨by simp [own_pk, *]; rfl, N0, e0⟩ (by decide) (by decide)
          · refine own_st (fun _ k => XS.icmpYes X0.here hx rfl (pc0 := 38) (pc' := 44) rfl (hb hby own_d1_38) rfl (feq (h5 : ¬ ((p1 &&& (15 : Int32)) = (4 : Int32)))).2 (by decide) (by decide) k) ?_
            show own_Go _ _ _ _ T0 (mkF m 44 #[.val (.int p1), .val (.int (p1 &&& (15 : Int32)))] [])
            refine own_st (fun _ k => XS.iloadN X0.here hx rfl (hb hby own_d1_44) rfl k) ?_
            show own_Go _ _ _ _ T0 (mkF m 45 #[.val (.int p1), .val (.int (p1 &&& (15 : Int32)))] [(.int p1)])
            refine own_st (fun _ k => XS.iconst X0.here hx rfl (hb hby own_d1_45) k) ?_
            show own_Go _ _ _ _ T0 (mkF m 46 #[.val (.int p1), .val (.int (p1 &&& (15 : Int32)))] [(.int (4 : Int32)), (.int p1)])
            refine own_st (fun _ k => XS.iushr X0.here hx rfl (hb hby own_d1_46) rfl k) ?_
            show own_Go _ _ _ _ T0 (mkF m 47 #[.val (.int p1), .val (.int (p1 &&& (15 : Int32)))] [(.int ((p1.toUInt32 >>> ((4 : Int32) &&& 31).toUInt32).toInt32))])
            refine own_st (fun _ k => XS.sipush X0.here hx rfl (hb hby own_d1_47) k) ?_
            show own_Go _ _ _ _ T0 (mkF m 50 #[.val (.int p1), .val (.int (p1 &&& (15 : Int32)))] [(.int (255 : Int32)), (.int ((p1.toUInt32 >>> ((4 : Int32) &&& 31).toUInt32).toInt32))])
            refine own_st (fun _ k => XS.iand X0.here hx rfl (hb hby own_d1_50) rfl k) ?_
            show own_Go _ _ _ _ T0 (mkF m 51 #[.val (.int p1), .val (.int (p1 &&& (15 : Int32)))] [(.int (((p1.toUInt32 >>> ((4 : Int32) &&& 31).toUInt32).toInt32) &&& (255 : Int32)))])
            refine own_st (fun _ k => XS.i2c X0.here hx rfl (hb hby own_d1_51) rfl k) ?_
            show own_Go _ _ _ _ T0 (mkF m 52 #[.val (.int p1), .val (.int (p1 &&& (15 : Int32)))] [(.int ((((p1.toUInt32 >>> ((4 : Int32) &&& 31).toUInt32).toInt32) &&& (255 : Int32)).toUInt32.toUInt16.toUInt32.toInt32))])
            exact own_retN X0 hx hret (by simp) hlk (hb hby own_d1_52) ⟨by rw [show own_pk p1 = ((p1.toUInt32 >>> ((4 : Int32) &&& 31).toUInt32).toInt32) &&& 255 from by simp [own_pk, *]]; exact congrArg (fun z => some (Value.int z)) (own_narc2 _), N0, e0⟩ (by decide) (by decide)
def own_ce_Q (Z : State) (p1 : Int32) (h0 : Heap) (n0 : Nat) (v : Option Value) (h : Heap) (L : List Loc) : Prop := v = some (.int 1) ∧ Fr n0 L ∧ h = h0
set_option maxRecDepth 65536 in
set_option maxHeartbeats 40000000 in
theorem own_ce (l : Launch) {Z : State} {a0 : Array Value} (hw : own_W Z a0) (ws : List Jvm.Cond) (p1 : Int32) (h0 : Heap) (n0 : Nat) (Z0 : n0 ≤ h0.size) (hp : ¬ (255 : Int32) < p1) :
    MetFree l (⟨"java/lang/StringLatin1", "canEncode", "(C)Z"⟩ : MethodName) (head1 (Jvm.Cond.code (⟨"java/lang/StringLatin1", "canEncode", "(C)Z"⟩ : MethodName) jdk_43_method_3_code 1 (some .boolean) :: ws) ({ frames := 0, cells := 0, slots := 0, locals := 0 } : Room)) (fun a U => a = #[(.int p1)] ∧ Z.Warmed39 U.vm ∧ U.heap = h0) (fun _ _ _ _ _ => True) (fun _ U o U' => ∃ v L, o = .returned v ∧ own_ce_Q Z p1 h0 n0 v U'.heap L ∧ FrameEnd U o U' L ({ frames := 0, cells := 0, slots := 0, locals := 0 } : Room).cells ({ frames := 0, cells := 0, slots := 0, locals := 0 } : Room).slots) := by
  refine own_enter (C := ({ frames := 0, cells := 0, slots := 0, locals := 0 } : Room).cells) (S := ({ frames := 0, cells := 0, slots := 0, locals := 0 } : Room).slots) (plainFor_of_name own_pn1) ?_
  intro p e s m below meth c T0 X0 I e0
  obtain ⟨hx, hby, hml, hown, hnm, hret, hlk, hZ⟩ := I
  have N0 := Fr.nil n0
  have O0 := own_extr h0
  refine own_cast (own_ef14 m p1) ?_
  show own_Go _ _ _ _ T0 (mkF m 0 #[.val (.int p1)] [])
  refine own_st (fun _ k => XS.iloadN X0.here hx rfl (hb hby own_d14_0) rfl k) ?_
  show own_Go _ _ _ _ T0 (mkF m 1 #[.val (.int p1)] [(.int p1)])
  refine own_st (fun _ k => XS.sipush X0.here hx rfl (hb hby own_d14_1) k) ?_
  show own_Go _ _ _ _ T0 (mkF m 4 #[.val (.int p1)] [(.int (255 : Int32)), (.int p1)])
  refine own_st (fun _ k => XS.icmpNo X0.here hx rfl (hb hby own_d14_4) rfl (flt (hp : ¬ ((255 : Int32) < p1))).2.2.1 k) ?_
  show own_Go _ _ _ _ T0 (mkF m 7 #[.val (.int p1)] [])
  refine own_st (fun _ k => XS.iconst X0.here hx rfl (hb hby own_d14_7) k) ?_
  show own_Go _ _ _ _ T0 (mkF m 8 #[.val (.int p1)] [(.int (1 : Int32))])
  refine own_st (fun _ k => XS.goto X0.here hx rfl (pc0 := 8) (pc' := 12) rfl (hb hby own_d14_8) (by decide) (by decide) k) ?_
  show own_Go _ _ _ _ T0 (mkF m 12 #[.val (.int p1)] [(.int (1 : Int32))])
  exact own_retN X0 hx hret (by simp) hlk (hb hby own_d14_12) ⟨rfl, N0, e0⟩ (by decide) (by decide)
def own_sini_Q (Z : State) (a1 a2 : Addr) (p1 : Int32) (h0 : Heap) (n0 : Nat) (v : Option Value) (h : Heap) (L : List Loc) : Prop := v = none ∧ Fr n0 L ∧ Keep h0 h [a1] ∧ Fld Z h a1 "java/lang/String" "value" "[B" (.ref a2) ∧ Fld Z h a1 "java/lang/String" "coder" "B" (.int (0 : Int32))
set_option maxRecDepth 65536 in
set_option maxHeartbeats 40000000 in
theorem own_sini (l : Launch) {Z : State} {a0 : Array Value} (hw : own_W Z a0) (ws : List Jvm.Cond) (a1 a2 : Addr) (p1 : Int32) (h0 : Heap) (n0 : Nat) (Z0 : n0 ≤ h0.size) (hp1 : p1 = (0 : Int32)) (g_a1 : n0 ≤ a1) (Ea : Exa Z h0 a1 "java/lang/String") (Fv : Fld Z h0 a1 "java/lang/String" "value" "[B" .null) (Fc : Fld Z h0 a1 "java/lang/String" "coder" "B" (.int (0 : Int32))) :
    MetFree l (⟨"java/lang/String", "<init>", "([BB)V"⟩ : MethodName) (head1 (Jvm.Cond.code (⟨"java/lang/String", "<init>", "([BB)V"⟩ : MethodName) jdk_42_method_151_code 3 none :: ws) ({ frames := 1, cells := 0, slots := 0, locals := 12 } : Room)) (fun a U => a = #[(.ref a1), (.ref a2), (.int p1)] ∧ Z.Warmed39 U.vm ∧ U.heap = h0) (fun _ _ _ _ _ => True) (fun _ U o U' => ∃ v L, o = .returned v ∧ own_sini_Q Z a1 a2 p1 h0 n0 v U'.heap L ∧ FrameEnd U o U' L ({ frames := 1, cells := 0, slots := 0, locals := 12 } : Room).cells ({ frames := 1, cells := 0, slots := 0, locals := 12 } : Room).slots) := by
  refine own_enter (C := ({ frames := 1, cells := 0, slots := 0, locals := 12 } : Room).cells) (S := ({ frames := 1, cells := 0, slots := 0, locals := 12 } : Room).slots) (plainFor_of_name own_pn2) ?_
  intro p e s m below meth c T0 X0 I e0
  obtain ⟨hx, hby, hml, hown, hnm, hret, hlk, hZ⟩ := I
  have N0 := Fr.nil n0
  have O0 := own_extr h0
  refine own_cast (own_ef16 m a1 a2 p1) ?_
  show own_Go _ _ _ _ T0 (mkF m 0 #[.val (.ref a1), .val (.ref a2), .val (.int p1)] [])
  rw [hp1]
  show own_Go _ _ _ _ T0 (mkF m 0 #[.val (.ref a1), .val (.ref a2), .val (.int (0 : Int32))] [])
  have K0 := Keep.refl h0 [a1]
  refine own_st (fun _ k => XS.aloadN X0.here hx rfl (hb hby own_d16_0) rfl rfl k) ?_
  show own_Go _ _ _ _ T0 (mkF m 1 #[.val (.ref a1), .val (.ref a2), .val (.int (0 : Int32))] [(.ref a1)])
  obtain ⟨T1, X1, e1, st1⟩ := initO X0 hx hZ hown (own_w15 hw) (own_w16 hw) (own_w17 hw) e0 (g := (mkF m 1 #[.val (.ref a1), .val (.ref a2), .val (.int (0 : Int32))] [(.ref a1)])) rfl (by rw [hml]; rfl) rfl (hb hby own_d16_1) (by decide) (W := 0) (Nat.le_of_eq rfl) (by decide)
  refine own_st st1 ?_
  show own_Go _ _ _ _ T1 (mkF m 4 #[.val (.ref a1), .val (.ref a2), .val (.int (0 : Int32))] [])
  refine own_st (fun _ k => XS.aloadN X1.here hx rfl (hb hby own_d16_4) rfl rfl k) ?_
  show own_Go _ _ _ _ T1 (mkF m 5 #[.val (.ref a1), .val (.ref a2), .val (.int (0 : Int32))] [(.ref a1)])
  refine own_st (fun _ k => XS.aloadN X1.here hx rfl (hb hby own_d16_5) rfl rfl k) ?_
  show own_Go _ _ _ _ T1 (mkF m 6 #[.val (.ref a1), .val (.ref a2), .val (.int (0 : Int32))] [(.ref a2), (.ref a1)])
  obtain ⟨T2, hp2, X2, e2, W2, st2⟩ := putF X1 hx hZ hown (host := "") (Or.inl (own_w24 hw)) Via.refl e1 Fv Ea (Or.inr ⟨(own_w20 hw), rfl, hnm⟩) (own_w5 hw) (ty := (.array .byte)) (by decide) rfl rfl (g := (mkF m 6 #[.val (.ref a1), .val (.ref a2), .val (.int (0 : Int32))] [(.ref a2), (.ref a1)])) rfl rfl (hb hby own_d16_6)
  have K2 := Keep.wr K0 W2 (Or.inl (List.mem_of_getElem? (i := 0) rfl))
  have Ex_a1_2 := Ea.wr W2
  have F_coder_a1_2 := Fc.other W2 (Or.inr (slot_ne (Or.inr (own_w21 hw)) (Or.inr (own_w20 hw)) (by decide) (t := .byte) (t' := (.array .byte)) (by decide) (by decide)))
  have F_value_a1_2 := Fv.same W2
  have N2 := Fr.snoc X2 N0 g_a1
  refine own_st st2 ?_
  show own_Go _ _ _ _ T2 (mkF m 9 #[.val (.ref a1), .val (.ref a2), .val (.int (0 : Int32))] [])
  refine own_st (fun _ k => XS.aloadN X2.here hx rfl (hb hby own_d16_9) rfl rfl k) ?_
  show own_Go _ _ _ _ T2 (mkF m 10 #[.val (.ref a1), .val (.ref a2), .val (.int (0 : Int32))] [(.ref a1)])
  refine own_st (fun _ k => XS.iloadN X2.here hx rfl (hb hby own_d16_10) rfl k) ?_
  show own_Go _ _ _ _ T2 (mkF m 11 #[.val (.ref a1), .val (.ref a2), .val (.int (0 : Int32))] [(.int (0 : Int32)), (.ref a1)])
  obtain ⟨T3, hp3, X3, e3, W3, st3⟩ := putFN X2 hx hZ hown (own_w25 hw) Via.refl e2 F_coder_a1_2 Ex_a1_2 (Or.inr ⟨(own_w21 hw), rfl, hnm⟩) (own_w5 hw) (ty := .byte) (v' := (.int (0 : Int32))) (by decide) rfl (by decide) (g := (mkF m 11 #[.val (.ref a1), .val (.ref a2), .val (.int (0 : Int32))] [(.int (0 : Int32)), (.ref a1)])) rfl rfl (hb hby own_d16_11)
  have K3 := Keep.wr K2 W3 (Or.inl (List.mem_of_getElem? (i := 0) rfl))
  have Ex_a1_3 := Ex_a1_2.wr W3
  have F_value_a1_3 := F_value_a1_2.other W3 (Or.inr (slot_ne (Or.inr (own_w20 hw)) (Or.inr (own_w21 hw)) (by decide) (t := (.array .byte)) (t' := .byte) (by decide) (by decide)))
  have F_coder_a1_3 := F_coder_a1_2.same W3
  have N3 := Fr.snoc X3 N2 g_a1
  refine own_st st3 ?_
  show own_Go _ _ _ _ T3 (mkF m 14 #[.val (.ref a1), .val (.ref a2), .val (.int (0 : Int32))] [])
  exact own_retV X3 hx hret hlk (hb hby own_d16_14) ⟨rfl, N3, by rw [e3]; exact K3, by rw [e3]; exact F_value_a1_3, by rw [e3]; exact F_coder_a1_3⟩ (by decide) (by decide)
def own_tb_Q (Z : State) (c0 : Int32) (h0 : Heap) (n0 : Nat) (v : Option Value) (h : Heap) (L : List Loc) : Prop := ∃ b k, v = some (.ref b) ∧ Fr n0 L ∧ Ext h0 h ∧ n0 ≤ b ∧ h0.size ≤ b ∧ Arv Z h b k .byte (1 : Int32) [(.int (nar .byte (c0.toInt8.toInt32)))] (.int (0 : Int32))
set_option maxRecDepth 65536 in
set_option maxHeartbeats 40000000 in
theorem own_tb (l : Launch) {Z : State} {a0 : Array Value} (hw : own_W Z a0) (ws : List Jvm.Cond) (c0 : Int32) (h0 : Heap) (n0 : Nat) (Z0 : n0 ≤ h0.size)  :
    MetFree l (⟨"java/lang/StringLatin1", "toBytes", "(C)[B"⟩ : MethodName) (head1 (Jvm.Cond.code (⟨"java/lang/StringLatin1", "toBytes", "(C)[B"⟩ : MethodName) jdk_43_method_46_code 1 (some (.array .byte)) :: ws) ({ frames := 0, cells := 1, slots := 1, locals := 0 } : Room)) (fun a U => a = #[(.int c0)] ∧ Z.Warmed39 U.vm ∧ U.heap = h0) (fun _ _ _ _ _ => True) (fun _ U o U' => ∃ v L, o = .returned v ∧ own_tb_Q Z c0 h0 n0 v U'.heap L ∧ FrameEnd U o U' L ({ frames := 0, cells := 1, slots := 1, locals := 0 } : Room).cells ({ frames := 0, cells := 1, slots := 1, locals := 0 } : Room).slots) := by
  refine own_enter (C := ({ frames := 0, cells := 1, slots := 1, locals := 0 } : Room).cells) (S := ({ frames := 0, cells := 1, slots := 1, locals := 0 } : Room).slots) (plainFor_of_name own_pn1) ?_
  intro p e s m below meth c T0 X0 I e0
  obtain ⟨hx, hby, hml, hown, hnm, hret, hlk, hZ⟩ := I
  have N0 := Fr.nil n0
  have O0 := own_extr h0
  refine own_cast (own_ef15 m c0) ?_
  show own_Go _ _ _ _ T0 (mkF m 0 #[.val (.int c0)] [])
  refine own_st (fun _ k => XS.iconst X0.here hx rfl (hb hby own_d15_0) k) ?_
  show own_Go _ _ _ _ T0 (mkF m 1 #[.val (.int c0)] [(.int (1 : Int32))])
  obtain ⟨T1, hp1, kk1, X1, e1, Et1, A1, st1⟩ := newP X0 hx hZ (aty := .byte) (own_w19 hw) e0 (g := (mkF m 1 #[.val (.int c0)] [(.int (1 : Int32))])) rfl (hb hby own_d15_1) rfl (by decide) (cap := 1) (by decide) (by decide) (by decide) (by decide)
  obtain ⟨b1, g1⟩ : ∃ z, z = h0.size := ⟨_, rfl⟩
  rw [← g1] at A1 st1
  have s_b1 : h0.size ≤ b1 := Nat.le_trans O0.1 (Nat.le_of_eq g1.symm)
  have g_b1 : n0 ≤ b1 := Nat.le_trans Z0 s_b1
  have O1 := own_extt O0 Et1
  have Va1 : Arv Z hp1 b1 kk1 .byte (1 : Int32) [(.int (0 : Int32))] (.int (0 : Int32)) := (Arv.new A1 (by decide)).pad (pad_rep [] (.int (0 : Int32)) 1)
  refine own_st st1 ?_
  show own_Go _ _ _ _ T1 (mkF m 3 #[.val (.int c0)] [(.ref b1)])
  refine own_st (fun _ k => XS.dup X1.here hx rfl (hb hby own_d15_3) rfl rfl k) ?_
  show own_Go _ _ _ _ T1 (mkF m 4 #[.val (.int c0)] [(.ref b1), (.ref b1)])
  refine own_st (fun _ k => XS.iconst X1.here hx rfl (hb hby own_d15_4) k) ?_
  show own_Go _ _ _ _ T1 (mkF m 5 #[.val (.int c0)] [(.int (0 : Int32)), (.ref b1), (.ref b1)])
  refine own_st (fun _ k => XS.iloadN X1.here hx rfl (hb hby own_d15_5) rfl k) ?_
  show own_Go _ _ _ _ T1 (mkF m 6 #[.val (.int c0)] [(.int c0), (.int (0 : Int32)), (.ref b1), (.ref b1)])
  refine own_st (fun _ k => XS.i2b X1.here hx rfl (hb hby own_d15_6) rfl k) ?_
  show own_Go _ _ _ _ T1 (mkF m 7 #[.val (.int c0)] [(.int (c0.toInt8.toInt32)), (.int (0 : Int32)), (.ref b1), (.ref b1)])
  obtain ⟨T2, hp2, X2, e2, W2, Va2, st2⟩ := own_stB X1 hx hZ e1 Va1 (by decide) 0 (by decide) (Nat.le_of_ble_eq_true rfl) (g := (mkF m 7 #[.val (.int c0)] [(.int (c0.toInt8.toInt32)), (.int (0 : Int32)), (.ref b1), (.ref b1)])) rfl rfl (hb hby own_d15_7)
  have O2 := own_extw O1 W2 s_b1
  have Va2 : Arv Z hp2 b1 kk1 .byte (1 : Int32) [(.int (nar .byte (c0.toInt8.toInt32)))] (.int (0 : Int32)) := Va2
  have N2 := Fr.snoc X2 N0 g_b1
  refine own_st st2 ?_
  show own_Go _ _ _ _ T2 (mkF m 8 #[.val (.int c0)] [(.ref b1)])
  exact own_retA X2 hx hret rfl hlk rfl (hb hby own_d15_8) ⟨b1, _, rfl, N2, by rw [e2]; exact O2, g_b1, s_b1, by rw [e2]; exact Va2⟩ (by decide) (by decide)
def own_vo_Q (Z : State) (c0 cs : Int32) (h0 : Heap) (n0 : Nat) (v : Option Value) (h : Heap) (L : List Loc) : Prop := ∃ b bv k, v = some (.ref b) ∧ Fr n0 L ∧ Ext h0 h ∧ h0.size ≤ b ∧ Exa Z h b "java/lang/String" ∧ Fld Z h b "java/lang/String" "value" "[B" (.ref bv) ∧ Fld Z h b "java/lang/String" "coder" "B" (.int (0 : Int32)) ∧ Arv Z h bv k .byte (1 : Int32) [(.int (nar .byte (c0.toInt8.toInt32)))] (.int (0 : Int32))
set_option maxRecDepth 65536 in
set_option maxHeartbeats 40000000 in
theorem own_vo (l : Launch) {Z : State} {a0 : Array Value} (hw : own_W Z a0) (ws : List Jvm.Cond) (c0 cs : Int32) (h0 : Heap) (n0 : Nat) (Z0 : n0 ≤ h0.size) (hc0 : own_ch c0) (Scs : Sta Z h0 "java/lang/String" "COMPACT_STRINGS" "Z" (.int cs)) (hcs : ¬ cs = 0) :
    MetFree l (⟨"java/lang/String", "valueOf", "(C)Ljava/lang/String;"⟩ : MethodName) (head1 (Jvm.Cond.code (⟨"java/lang/String", "valueOf", "(C)Ljava/lang/String;"⟩ : MethodName) jdk_42_method_139_code 1 (some (.object "java/lang/String")) :: ws) ({ frames := 2, cells := 2, slots := 5, locals := 27 } : Room)) (fun a U => a = #[(.int c0)] ∧ Z.Warmed39 U.vm ∧ U.heap = h0) (fun _ _ _ _ _ => True) (fun _ U o U' => ∃ v L, o = .returned v ∧ own_vo_Q Z c0 cs h0 n0 v U'.heap L ∧ FrameEnd U o U' L ({ frames := 2, cells := 2, slots := 5, locals := 27 } : Room).cells ({ frames := 2, cells := 2, slots := 5, locals := 27 } : Room).slots) := by
  refine own_enter (C := ({ frames := 2, cells := 2, slots := 5, locals := 27 } : Room).cells) (S := ({ frames := 2, cells := 2, slots := 5, locals := 27 } : Room).slots) (plainFor_of_name own_pn2) ?_
  intro p e s m below meth c T0 X0 I e0
  obtain ⟨hx, hby, hml, hown, hnm, hret, hlk, hZ⟩ := I
  have N0 := Fr.nil n0
  have O0 := own_extr h0
  refine own_cast (own_ef13 m c0) ?_
  show own_Go _ _ _ _ T0 (mkF m 0 #[.val (.int c0)] [])
  obtain ⟨T1, X1, e1, st1⟩ := getS2 X0 hx hZ hown (host := "") (Or.inl (own_w62 hw)) Via.refl e0 (Scs.ext O0) (g := (mkF m 0 #[.val (.int c0)] [])) rfl (hb hby own_d13_0)
  refine own_st st1 ?_
  show own_Go _ _ _ _ T1 (mkF m 3 #[.val (.int c0)] [(.int cs)])
  refine own_st (fun _ k => XS.ifNo X1.here hx rfl (hb hby own_d13_3) rfl ((if0 _ _).trans (feq (hcs : ¬ (cs = (0 : Int32)))).1) k) ?_
  show own_Go _ _ _ _ T1 (mkF m 6 #[.val (.int c0)] [])
  refine own_st (fun _ k => XS.iloadN X1.here hx rfl (hb hby own_d13_6) rfl k) ?_
  show own_Go _ _ _ _ T1 (mkF m 7 #[.val (.int c0)] [(.int c0)])
  obtain ⟨v2, T2, L2, hQ2, X2, st2⟩ := own_callS X1 hx hZ (y := (⟨"java/lang/StringLatin1", "canEncode", "(C)Z"⟩ : MethodName)) hown (own_w80 hw) (own_w81 hw) (own_w65 hw) (own_w82 hw) (by decide) (own_ce l hw [] c0 h0 n0 (Nat.le_trans Z0 O0.1) (own_le255 hc0)) e1 (g := (mkF m 7 #[.val (.int c0)] [(.int c0)])) rfl (by rw [hml]; rfl) (argsL := [(.int c0)]) (rest := []) (lenOf own_pd0 rfl) rfl rfl (W := 0) (Nat.le_of_eq rfl) (hb hby own_d13_7) (by decide) (by decide) (by decide) (by decide)
  obtain ⟨rfl, N2, e2⟩ := hQ2
  have N2' := Fr.app N0 N2
  refine own_st st2 ?_
  show own_Go _ _ _ _ T2 (mkF m 10 #[.val (.int c0)] [(.int (1 : Int32))])
  refine own_st (fun _ k => XS.ifNo X2.here hx rfl (hb hby own_d13_10) rfl ((if0 _ _).trans (feq (by decide : ¬ ((1 : Int32) = (0 : Int32)))).1) k) ?_
  show own_Go _ _ _ _ T2 (mkF m 13 #[.val (.int c0)] [])
  obtain ⟨T3, hp3, X3, e3, Et3, A3, D3, -, st3⟩ := newO X2 hx hZ hown (own_w61 hw) (own_w5 hw) (own_w6 hw) e2 (g := (mkF m 13 #[.val (.int c0)] [])) rfl (hb hby own_d13_13) (by decide) (by decide)
  obtain ⟨b3, g3⟩ : ∃ z, z = h0.size := ⟨_, rfl⟩
  rw [← g3] at A3 D3 st3
  have s_b3 : h0.size ≤ b3 := Nat.le_trans O0.1 (Nat.le_of_eq g3.symm)
  have g_b3 : n0 ≤ b3 := Nat.le_trans Z0 s_b3
  have O3 := own_extt O0 Et3
  have F_value_b3 : Fld Z hp3 b3 "java/lang/String" "value" "[B" .null := D3 (Or.inr (own_w20 hw)) (ty := (.array .byte)) (by decide)
  have F_coder_b3 : Fld Z hp3 b3 "java/lang/String" "coder" "B" (.int (0 : Int32)) := D3 (Or.inr (own_w21 hw)) (ty := .byte) (by decide)
  refine own_st st3 ?_
  show own_Go _ _ _ _ T3 (mkF m 16 #[.val (.int c0)] [(.ref b3)])
  refine own_st (fun _ k => XS.dup X3.here hx rfl (hb hby own_d13_16) rfl rfl k) ?_
  show own_Go _ _ _ _ T3 (mkF m 17 #[.val (.int c0)] [(.ref b3), (.ref b3)])
  refine own_st (fun _ k => XS.iloadN X3.here hx rfl (hb hby own_d13_17) rfl k) ?_
  show own_Go _ _ _ _ T3 (mkF m 18 #[.val (.int c0)] [(.int c0), (.ref b3), (.ref b3)])
  obtain ⟨v4, T4, L4, hQ4, X4, st4⟩ := own_callS X3 hx hZ (y := (⟨"java/lang/StringLatin1", "toBytes", "(C)[B"⟩ : MethodName)) hown (own_w83 hw) (own_w84 hw) (own_w65 hw) (own_w85 hw) (by decide) (own_tb l hw [] c0 hp3 n0 (Nat.le_trans Z0 O3.1)) e3 (g := (mkF m 18 #[.val (.int c0)] [(.int c0), (.ref b3), (.ref b3)])) rfl (by rw [hml]; rfl) (argsL := [(.int c0)]) (rest := [(.ref b3), (.ref b3)]) (lenOf own_pd1 rfl) rfl rfl (W := 2) (Nat.le_of_eq rfl) (hb hby own_d13_18) (by decide) (by decide) (by decide) (by decide)
  obtain ⟨bv, kv, rfl, N4, Et4, gv, sv, Vb⟩ := hQ4
  have lt_b3_bv : b3 < bv := Nat.lt_of_lt_of_le A3.lt sv
  have O4 := own_extt O3 Et4
  have Ex_b3_4 := A3.ext Et4
  have F_value_b3_4 := F_value_b3.ext Et4
  have F_coder_b3_4 := F_coder_b3.ext Et4
  have N4' := Fr.app N2' N4
  refine own_st st4 ?_
  show own_Go _ _ _ _ T4 (mkF m 21 #[.val (.int c0)] [(.ref bv), (.ref b3), (.ref b3)])
  refine own_st (fun _ k => XS.iconst X4.here hx rfl (hb hby own_d13_21) k) ?_
  show own_Go _ _ _ _ T4 (mkF m 22 #[.val (.int c0)] [(.int (0 : Int32)), (.ref bv), (.ref b3), (.ref b3)])
  obtain ⟨v5, T5, L5, hQ5, X5, st5⟩ := own_callI X4 hx hZ (y := (⟨"java/lang/String", "<init>", "([BB)V"⟩ : MethodName)) rfl hown (own_w86 hw) (own_w87 hw) (own_w6 hw) (own_w88 hw) (by decide) (own_sini l hw [] b3 bv (0 : Int32) T4.heap n0 (Nat.le_trans Z0 O4.1) rfl g_b3 Ex_b3_4 F_value_b3_4 F_coder_b3_4) rfl (g := (mkF m 22 #[.val (.int c0)] [(.int (0 : Int32)), (.ref bv), (.ref b3), (.ref b3)])) rfl (by rw [hml]; rfl) (argsL := [(.ref bv), (.int (0 : Int32))]) (rest := [(.ref b3)]) (lenOf own_pd2 rfl) rfl rfl (W := 1) (Nat.le_of_eq rfl) (hb hby own_d13_22) (by decide) (by decide) (by decide) (by decide)
  obtain ⟨rfl, N5, K5, Gv5, Gc5⟩ := hQ5
  have O5 := own_extk O4 K5 s_b3
  have V_bv_5 := Vb.keep K5 (ninS (Nat.ne_of_gt lt_b3_bv) nin0)
  have Ex_b3_5 := Ex_b3_4.keep K5
  have N5' := Fr.app N4' N5
  refine own_st st5 ?_
  show own_Go _ _ _ _ T5 (mkF m 25 #[.val (.int c0)] [(.ref b3)])
  exact own_retA X5 hx hret rfl hlk rfl (hb hby own_d13_25) ⟨b3, bv, kv, rfl, N5', O5, s_b3, Ex_b3_5, Gv5, Gc5, V_bv_5⟩ (by decide) (by decide)
def own_cp2_Q (Z : State) (a1 a2 : Addr) (p1 p2 p3 : Int32) (k1 k2 : ClassId) (c0 c1 : Int32) (h0 : Heap) (n0 : Nat) (v : Option Value) (h : Heap) (L : List Loc) : Prop := v = some (.int (2 : Int32)) ∧ Fr n0 L ∧ Keep h0 h [a2] ∧ Arv Z h a2 k2 .byte (2 : Int32) [(.int (nar .byte (c0.toInt8.toInt32))), (.int (nar .byte (c1.toInt8.toInt32)))] (.int (0 : Int32))
set_option maxRecDepth 65536 in
set_option maxHeartbeats 40000000 in
theorem own_cp2 (l : Launch) {Z : State} {a0 : Array Value} (hw : own_W Z a0) (ws : List Jvm.Cond) (a1 a2 : Addr) (p1 p2 p3 : Int32) (k1 k2 : ClassId) (c0 c1 : Int32) (h0 : Heap) (n0 : Nat) (Z0 : n0 ≤ h0.size) (hp1 : p1 = 0) (hp2 : p2 = 0) (hp3 : p3 = (2 : Int32)) (hc0 : own_ch c0) (hc1 : own_ch c1) (n12 : a1 ≠ a2) (g_a2 : n0 ≤ a2) (V1 : Arv Z h0 a1 k1 .char (2 : Int32) [(.int c0), (.int c1)] (.int (0 : Int32))) (V2 : Arv Z h0 a2 k2 .byte (2 : Int32) [(.int (0 : Int32)), (.int (0 : Int32))] (.int (0 : Int32))) :
    MetFree l (⟨"java/lang/StringUTF16", "compress", "([CI[BII)I"⟩ : MethodName) (head1 (Jvm.Cond.code (⟨"java/lang/StringUTF16", "compress", "([CI[BII)I"⟩ : MethodName) jdk_52_method_21_code 7 (some .int) :: ws) ({ frames := 0, cells := 0, slots := 0, locals := 0 } : Room)) (fun a U => a = #[(.ref a1), (.int p1), (.ref a2), (.int p2), (.int p3)] ∧ Z.Warmed39 U.vm ∧ U.heap = h0) (fun _ _ _ _ _ => True) (fun _ U o U' => ∃ v L, o = .returned v ∧ own_cp2_Q Z a1 a2 p1 p2 p3 k1 k2 c0 c1 h0 n0 v U'.heap L ∧ FrameEnd U o U' L ({ frames := 0, cells := 0, slots := 0, locals := 0 } : Room).cells ({ frames := 0, cells := 0, slots := 0, locals := 0 } : Room).slots) := by
  refine own_enter (C := ({ frames := 0, cells := 0, slots := 0, locals := 0 } : Room).cells) (S := ({ frames := 0, cells := 0, slots := 0, locals := 0 } : Room).slots) (plainFor_of_name own_pn3) ?_
  intro p e s m below meth c T0 X0 I e0
  obtain ⟨hx, hby, hml, hown, hnm, hret, hlk, hZ⟩ := I
  have N0 := Fr.nil n0
  have O0 := own_extr h0
  refine own_cast (own_ef11 m a1 p1 a2 p2 p3) ?_
  show own_Go _ _ _ _ T0 (mkF m 0 #[.val (.ref a1), .val (.int p1), .val (.ref a2), .val (.int p2), .val (.int p3), .unset, .unset] [])
  rw [hp1, hp2, hp3]
  show own_Go _ _ _ _ T0 (mkF m 0 #[.val (.ref a1), .val (.int (0 : Int32)), .val (.ref a2), .val (.int (0 : Int32)), .val (.int (2 : Int32)), .unset, .unset] [])
  have K0 := Keep.refl h0 [a2]
  refine own_st (fun _ k => XS.iconst X0.here hx rfl (hb hby own_d11_0) k) ?_
  show own_Go _ _ _ _ T0 (mkF m 1 #[.val (.ref a1), .val (.int (0 : Int32)), .val (.ref a2), .val (.int (0 : Int32)), .val (.int (2 : Int32)), .unset, .unset] [(.int (0 : Int32))])
  refine own_st (fun _ k => XS.istore X0.here hx rfl (hb hby own_d11_1) rfl (l' := #[.val (.ref a1), .val (.int (0 : Int32)), .val (.ref a2), .val (.int (0 : Int32)), .val (.int (2 : Int32)), .val (.int (0 : Int32)), .unset]) rfl k) ?_
  show own_Go _ _ _ _ T0 (mkF m 3 #[.val (.ref a1), .val (.int (0 : Int32)), .val (.ref a2), .val (.int (0 : Int32)), .val (.int (2 : Int32)), .val (.int (0 : Int32)), .unset] [])
  refine own_st (fun _ k => XS.iload X0.here hx rfl (hb hby own_d11_3) rfl k) ?_
  show own_Go _ _ _ _ T0 (mkF m 5 #[.val (.ref a1), .val (.int (0 : Int32)), .val (.ref a2), .val (.int (0 : Int32)), .val (.int (2 : Int32)), .val (.int (0 : Int32)), .unset] [(.int (0 : Int32))])
  refine own_st (fun _ k => XS.iload X0.here hx rfl (hb hby own_d11_5) rfl k) ?_
  show own_Go _ _ _ _ T0 (mkF m 7 #[.val (.ref a1), .val (.int (0 : Int32)), .val (.ref a2), .val (.int (0 : Int32)), .val (.int (2 : Int32)), .val (.int (0 : Int32)), .unset] [(.int (2 : Int32)), (.int (0 : Int32))])
  refine own_st (fun _ k => XS.icmpNo X0.here hx rfl (hb hby own_d11_7) rfl (tlt (by decide : (0 : Int32) < (2 : Int32))).2.1 k) ?_
  show own_Go _ _ _ _ T0 (mkF m 10 #[.val (.ref a1), .val (.int (0 : Int32)), .val (.ref a2), .val (.int (0 : Int32)), .val (.int (2 : Int32)), .val (.int (0 : Int32)), .unset] [])
  refine own_st (fun _ k => XS.aloadN X0.here hx rfl (hb hby own_d11_10) rfl rfl k) ?_
  show own_Go _ _ _ _ T0 (mkF m 11 #[.val (.ref a1), .val (.int (0 : Int32)), .val (.ref a2), .val (.int (0 : Int32)), .val (.int (2 : Int32)), .val (.int (0 : Int32)), .unset] [(.ref a1)])
  refine own_st (fun _ k => XS.iloadN X0.here hx rfl (hb hby own_d11_11) rfl k) ?_
  show own_Go _ _ _ _ T0 (mkF m 12 #[.val (.ref a1), .val (.int (0 : Int32)), .val (.ref a2), .val (.int (0 : Int32)), .val (.int (2 : Int32)), .val (.int (0 : Int32)), .unset] [(.int (0 : Int32)), (.ref a1)])
  refine own_st (own_ldC X0 hx hZ e0 V1 (j := (0 : Int32)) (by decide) (v := (.int c0)) rfl (g := (mkF m 12 #[.val (.ref a1), .val (.int (0 : Int32)), .val (.ref a2), .val (.int (0 : Int32)), .val (.int (2 : Int32)), .val (.int (0 : Int32)), .unset] [(.int (0 : Int32)), (.ref a1)])) rfl rfl (hb hby own_d11_12)) ?_
  show own_Go _ _ _ _ T0 (mkF m 13 #[.val (.ref a1), .val (.int (0 : Int32)), .val (.ref a2), .val (.int (0 : Int32)), .val (.int (2 : Int32)), .val (.int (0 : Int32)), .unset] [(.int c0)])
  refine own_st (fun _ k => XS.istore X0.here hx rfl (hb hby own_d11_13) rfl (l' := #[.val (.ref a1), .val (.int (0 : Int32)), .val (.ref a2), .val (.int (0 : Int32)), .val (.int (2 : Int32)), .val (.int (0 : Int32)), .val (.int c0)]) rfl k) ?_
  show own_Go _ _ _ _ T0 (mkF m 15 #[.val (.ref a1), .val (.int (0 : Int32)), .val (.ref a2), .val (.int (0 : Int32)), .val (.int (2 : Int32)), .val (.int (0 : Int32)), .val (.int c0)] [])
  refine own_st (fun _ k => XS.iload X0.here hx rfl (hb hby own_d11_15) rfl k) ?_
  show own_Go _ _ _ _ T0 (mkF m 17 #[.val (.ref a1), .val (.int (0 : Int32)), .val (.ref a2), .val (.int (0 : Int32)), .val (.int (2 : Int32)), .val (.int (0 : Int32)), .val (.int c0)] [(.int c0)])
  refine own_st (fun _ k => XS.sipush X0.here hx rfl (hb hby own_d11_17) k) ?_
  show own_Go _ _ _ _ T0 (mkF m 20 #[.val (.ref a1), .val (.int (0 : Int32)), .val (.ref a2), .val (.int (0 : Int32)), .val (.int (2 : Int32)), .val (.int (0 : Int32)), .val (.int c0)] [(.int (255 : Int32)), (.int c0)])
  refine own_st (fun _ k => XS.icmpYes X0.here hx rfl (pc0 := 20) (pc' := 26) rfl (hb hby own_d11_20) rfl (flt (own_le255 hc0 : ¬ ((255 : Int32) < c0))).2.2.2 (by decide) (by decide) k) ?_
  show own_Go _ _ _ _ T0 (mkF m 26 #[.val (.ref a1), .val (.int (0 : Int32)), .val (.ref a2), .val (.int (0 : Int32)), .val (.int (2 : Int32)), .val (.int (0 : Int32)), .val (.int c0)] [])
  refine own_st (fun _ k => XS.aloadN X0.here hx rfl (hb hby own_d11_26) rfl rfl k) ?_
  show own_Go _ _ _ _ T0 (mkF m 27 #[.val (.ref a1), .val (.int (0 : Int32)), .val (.ref a2), .val (.int (0 : Int32)), .val (.int (2 : Int32)), .val (.int (0 : Int32)), .val (.int c0)] [(.ref a2)])
  refine own_st (fun _ k => XS.iloadN X0.here hx rfl (hb hby own_d11_27) rfl k) ?_
  show own_Go _ _ _ _ T0 (mkF m 28 #[.val (.ref a1), .val (.int (0 : Int32)), .val (.ref a2), .val (.int (0 : Int32)), .val (.int (2 : Int32)), .val (.int (0 : Int32)), .val (.int c0)] [(.int (0 : Int32)), (.ref a2)])
  refine own_st (fun _ k => XS.iload X0.here hx rfl (hb hby own_d11_28) rfl k) ?_
  show own_Go _ _ _ _ T0 (mkF m 30 #[.val (.ref a1), .val (.int (0 : Int32)), .val (.ref a2), .val (.int (0 : Int32)), .val (.int (2 : Int32)), .val (.int (0 : Int32)), .val (.int c0)] [(.int c0), (.int (0 : Int32)), (.ref a2)])
  refine own_st (fun _ k => XS.i2b X0.here hx rfl (hb hby own_d11_30) rfl k) ?_
  show own_Go _ _ _ _ T0 (mkF m 31 #[.val (.ref a1), .val (.int (0 : Int32)), .val (.ref a2), .val (.int (0 : Int32)), .val (.int (2 : Int32)), .val (.int (0 : Int32)), .val (.int c0)] [(.int (c0.toInt8.toInt32)), (.int (0 : Int32)), (.ref a2)])
  obtain ⟨T1, hp1, X1, e1, W1, Va1, st1⟩ := own_stB X0 hx hZ e0 V2 (by decide) 0 (by decide) (Nat.le_of_ble_eq_true rfl) (g := (mkF m 31 #[.val (.ref a1), .val (.int (0 : Int32)), .val (.ref a2), .val (.int (0 : Int32)), .val (.int (2 : Int32)), .val (.int (0 : Int32)), .val (.int c0)] [(.int (c0.toInt8.toInt32)), (.int (0 : Int32)), (.ref a2)])) rfl rfl (hb hby own_d11_31)
  have K1 := Keep.wr K0 W1 (Or.inl (List.mem_of_getElem? (i := 0) rfl))
  have V_a1_1 := V1.other W1 n12
  have Va1 : Arv Z hp1 a2 k2 .byte (2 : Int32) [(.int (nar .byte (c0.toInt8.toInt32))), (.int (0 : Int32))] (.int (0 : Int32)) := Va1
  have N1 := Fr.snoc X1 N0 g_a2
  refine own_st st1 ?_
  show own_Go _ _ _ _ T1 (mkF m 32 #[.val (.ref a1), .val (.int (0 : Int32)), .val (.ref a2), .val (.int (0 : Int32)), .val (.int (2 : Int32)), .val (.int (0 : Int32)), .val (.int c0)] [])
  refine own_st (fun _ k => XS.iinc X1.here hx rfl (hb hby own_d11_32) rfl (l' := #[.val (.ref a1), .val (.int ((0 : Int32) + (1 : Int32))), .val (.ref a2), .val (.int (0 : Int32)), .val (.int (2 : Int32)), .val (.int (0 : Int32)), .val (.int c0)]) rfl k) ?_
  show own_Go _ _ _ _ T1 (mkF m 35 #[.val (.ref a1), .val (.int ((0 : Int32) + (1 : Int32))), .val (.ref a2), .val (.int (0 : Int32)), .val (.int (2 : Int32)), .val (.int (0 : Int32)), .val (.int c0)] [])
  rw [show ((0 : Int32) + (1 : Int32)) = (1 : Int32) from by decide]
  show own_Go _ _ _ _ T1 (mkF m 35 #[.val (.ref a1), .val (.int (1 : Int32)), .val (.ref a2), .val (.int (0 : Int32)), .val (.int (2 : Int32)), .val (.int (0 : Int32)), .val (.int c0)] [])
  refine own_st (fun _ k => XS.iinc X1.here hx rfl (hb hby own_d11_35) rfl (l' := #[.val (.ref a1), .val (.int (1 : Int32)), .val (.ref a2), .val (.int ((0 : Int32) + (1 : Int32))), .val (.int (2 : Int32)), .val (.int (0 : Int32)), .val (.int c0)]) rfl k) ?_
  show own_Go _ _ _ _ T1 (mkF m 38 #[.val (.ref a1), .val (.int (1 : Int32)), .val (.ref a2), .val (.int ((0 : Int32) + (1 : Int32))), .val (.int (2 : Int32)), .val (.int (0 : Int32)), .val (.int c0)] [])
  rw [show ((0 : Int32) + (1 : Int32)) = (1 : Int32) from by decide]
  show own_Go _ _ _ _ T1 (mkF m 38 #[.val (.ref a1), .val (.int (1 : Int32)), .val (.ref a2), .val (.int (1 : Int32)), .val (.int (2 : Int32)), .val (.int (0 : Int32)), .val (.int c0)] [])
  refine own_st (fun _ k => XS.iinc X1.here hx rfl (hb hby own_d11_38) rfl (l' := #[.val (.ref a1), .val (.int (1 : Int32)), .val (.ref a2), .val (.int (1 : Int32)), .val (.int (2 : Int32)), .val (.int ((0 : Int32) + (1 : Int32))), .val (.int c0)]) rfl k) ?_
  show own_Go _ _ _ _ T1 (mkF m 41 #[.val (.ref a1), .val (.int (1 : Int32)), .val (.ref a2), .val (.int (1 : Int32)), .val (.int (2 : Int32)), .val (.int ((0 : Int32) + (1 : Int32))), .val (.int c0)] [])
  rw [show ((0 : Int32) + (1 : Int32)) = (1 : Int32) from by decide]
  show own_Go _ _ _ _ T1 (mkF m 41 #[.val (.ref a1), .val (.int (1 : Int32)), .val (.ref a2), .val (.int (1 : Int32)), .val (.int (2 : Int32)), .val (.int (1 : Int32)), .val (.int c0)] [])
  refine own_st (fun _ k => XS.goto X1.here hx rfl (pc0 := 41) (pc' := 3) rfl (hb hby own_d11_41) (by decide) (by decide) k) ?_
  show own_Go _ _ _ _ T1 (mkF m 3 #[.val (.ref a1), .val (.int (1 : Int32)), .val (.ref a2), .val (.int (1 : Int32)), .val (.int (2 : Int32)), .val (.int (1 : Int32)), .val (.int c0)] [])
  refine own_st (fun _ k => XS.iload X1.here hx rfl (hb hby own_d11_3) rfl k) ?_
  show own_Go _ _ _ _ T1 (mkF m 5 #[.val (.ref a1), .val (.int (1 : Int32)), .val (.ref a2), .val (.int (1 : Int32)), .val (.int (2 : Int32)), .val (.int (1 : Int32)), .val (.int c0)] [(.int (1 : Int32))])
  refine own_st (fun _ k => XS.iload X1.here hx rfl (hb hby own_d11_5) rfl k) ?_
  show own_Go _ _ _ _ T1 (mkF m 7 #[.val (.ref a1), .val (.int (1 : Int32)), .val (.ref a2), .val (.int (1 : Int32)), .val (.int (2 : Int32)), .val (.int (1 : Int32)), .val (.int c0)] [(.int (2 : Int32)), (.int (1 : Int32))])
  refine own_st (fun _ k => XS.icmpNo X1.here hx rfl (hb hby own_d11_7) rfl (tlt (by decide : (1 : Int32) < (2 : Int32))).2.1 k) ?_
  show own_Go _ _ _ _ T1 (mkF m 10 #[.val (.ref a1), .val (.int (1 : Int32)), .val (.ref a2), .val (.int (1 : Int32)), .val (.int (2 : Int32)), .val (.int (1 : Int32)), .val (.int c0)] [])
  refine own_st (fun _ k => XS.aloadN X1.here hx rfl (hb hby own_d11_10) rfl rfl k) ?_
  show own_Go _ _ _ _ T1 (mkF m 11 #[.val (.ref a1), .val (.int (1 : Int32)), .val (.ref a2), .val (.int (1 : Int32)), .val (.int (2 : Int32)), .val (.int (1 : Int32)), .val (.int c0)] [(.ref a1)])
  refine own_st (fun _ k => XS.iloadN X1.here hx rfl (hb hby own_d11_11) rfl k) ?_
  show own_Go _ _ _ _ T1 (mkF m 12 #[.val (.ref a1), .val (.int (1 : Int32)), .val (.ref a2), .val (.int (1 : Int32)), .val (.int (2 : Int32)), .val (.int (1 : Int32)), .val (.int c0)] [(.int (1 : Int32)), (.ref a1)])
  refine own_st (own_ldC X1 hx hZ e1 V_a1_1 (j := (1 : Int32)) (by decide) (v := (.int c1)) rfl (g := (mkF m 12 #[.val (.ref a1), .val (.int (1 : Int32)), .val (.ref a2), .val (.int (1 : Int32)), .val (.int (2 : Int32)), .val (.int (1 : Int32)), .val (.int c0)] [(.int (1 : Int32)), (.ref a1)])) rfl rfl (hb hby own_d11_12)) ?_
  show own_Go _ _ _ _ T1 (mkF m 13 #[.val (.ref a1), .val (.int (1 : Int32)), .val (.ref a2), .val (.int (1 : Int32)), .val (.int (2 : Int32)), .val (.int (1 : Int32)), .val (.int c0)] [(.int c1)])
  refine own_st (fun _ k => XS.istore X1.here hx rfl (hb hby own_d11_13) rfl (l' := #[.val (.ref a1), .val (.int (1 : Int32)), .val (.ref a2), .val (.int (1 : Int32)), .val (.int (2 : Int32)), .val (.int (1 : Int32)), .val (.int c1)]) rfl k) ?_
  show own_Go _ _ _ _ T1 (mkF m 15 #[.val (.ref a1), .val (.int (1 : Int32)), .val (.ref a2), .val (.int (1 : Int32)), .val (.int (2 : Int32)), .val (.int (1 : Int32)), .val (.int c1)] [])
  refine own_st (fun _ k => XS.iload X1.here hx rfl (hb hby own_d11_15) rfl k) ?_
  show own_Go _ _ _ _ T1 (mkF m 17 #[.val (.ref a1), .val (.int (1 : Int32)), .val (.ref a2), .val (.int (1 : Int32)), .val (.int (2 : Int32)), .val (.int (1 : Int32)), .val (.int c1)] [(.int c1)])
  refine own_st (fun _ k => XS.sipush X1.here hx rfl (hb hby own_d11_17) k) ?_
  show own_Go _ _ _ _ T1 (mkF m 20 #[.val (.ref a1), .val (.int (1 : Int32)), .val (.ref a2), .val (.int (1 : Int32)), .val (.int (2 : Int32)), .val (.int (1 : Int32)), .val (.int c1)] [(.int (255 : Int32)), (.int c1)])
  refine own_st (fun _ k => XS.icmpYes X1.here hx rfl (pc0 := 20) (pc' := 26) rfl (hb hby own_d11_20) rfl (flt (own_le255 hc1 : ¬ ((255 : Int32) < c1))).2.2.2 (by decide) (by decide) k) ?_
  show own_Go _ _ _ _ T1 (mkF m 26 #[.val (.ref a1), .val (.int (1 : Int32)), .val (.ref a2), .val (.int (1 : Int32)), .val (.int (2 : Int32)), .val (.int (1 : Int32)), .val (.int c1)] [])
  refine own_st (fun _ k => XS.aloadN X1.here hx rfl (hb hby own_d11_26) rfl rfl k) ?_
  show own_Go _ _ _ _ T1 (mkF m 27 #[.val (.ref a1), .val (.int (1 : Int32)), .val (.ref a2), .val (.int (1 : Int32)), .val (.int (2 : Int32)), .val (.int (1 : Int32)), .val (.int c1)] [(.ref a2)])
  refine own_st (fun _ k => XS.iloadN X1.here hx rfl (hb hby own_d11_27) rfl k) ?_
  show own_Go _ _ _ _ T1 (mkF m 28 #[.val (.ref a1), .val (.int (1 : Int32)), .val (.ref a2), .val (.int (1 : Int32)), .val (.int (2 : Int32)), .val (.int (1 : Int32)), .val (.int c1)] [(.int (1 : Int32)), (.ref a2)])
  refine own_st (fun _ k => XS.iload X1.here hx rfl (hb hby own_d11_28) rfl k) ?_
  show own_Go _ _ _ _ T1 (mkF m 30 #[.val (.ref a1), .val (.int (1 : Int32)), .val (.ref a2), .val (.int (1 : Int32)), .val (.int (2 : Int32)), .val (.int (1 : Int32)), .val (.int c1)] [(.int c1), (.int (1 : Int32)), (.ref a2)])
  refine own_st (fun _ k => XS.i2b X1.here hx rfl (hb hby own_d11_30) rfl k) ?_
  show own_Go _ _ _ _ T1 (mkF m 31 #[.val (.ref a1), .val (.int (1 : Int32)), .val (.ref a2), .val (.int (1 : Int32)), .val (.int (2 : Int32)), .val (.int (1 : Int32)), .val (.int c1)] [(.int (c1.toInt8.toInt32)), (.int (1 : Int32)), (.ref a2)])
  obtain ⟨T2, hp2, X2, e2, W2, Va2, st2⟩ := own_stB X1 hx hZ e1 Va1 (by decide) 1 (by decide) (Nat.le_of_ble_eq_true rfl) (g := (mkF m 31 #[.val (.ref a1), .val (.int (1 : Int32)), .val (.ref a2), .val (.int (1 : Int32)), .val (.int (2 : Int32)), .val (.int (1 : Int32)), .val (.int c1)] [(.int (c1.toInt8.toInt32)), (.int (1 : Int32)), (.ref a2)])) rfl rfl (hb hby own_d11_31)
  have K2 := Keep.wr K1 W2 (Or.inl (List.mem_of_getElem? (i := 0) rfl))
  have V_a1_2 := V_a1_1.other W2 n12
  have Va2 : Arv Z hp2 a2 k2 .byte (2 : Int32) [(.int (nar .byte (c0.toInt8.toInt32))), (.int (nar .byte (c1.toInt8.toInt32)))] (.int (0 : Int32)) := Va2
  have N2 := Fr.snoc X2 N1 g_a2
  refine own_st st2 ?_
  show own_Go _ _ _ _ T2 (mkF m 32 #[.val (.ref a1), .val (.int (1 : Int32)), .val (.ref a2), .val (.int (1 : Int32)), .val (.int (2 : Int32)), .val (.int (1 : Int32)), .val (.int c1)] [])
  refine own_st (fun _ k => XS.iinc X2.here hx rfl (hb hby own_d11_32) rfl (l' := #[.val (.ref a1), .val (.int ((1 : Int32) + (1 : Int32))), .val (.ref a2), .val (.int (1 : Int32)), .val (.int (2 : Int32)), .val (.int (1 : Int32)), .val (.int c1)]) rfl k) ?_
  show own_Go _ _ _ _ T2 (mkF m 35 #[.val (.ref a1), .val (.int ((1 : Int32) + (1 : Int32))), .val (.ref a2), .val (.int (1 : Int32)), .val (.int (2 : Int32)), .val (.int (1 : Int32)), .val (.int c1)] [])
  rw [show ((1 : Int32) + (1 : Int32)) = (2 : Int32) from by decide]
  show own_Go _ _ _ _ T2 (mkF m 35 #[.val (.ref a1), .val (.int (2 : Int32)), .val (.ref a2), .val (.int (1 : Int32)), .val (.int (2 : Int32)), .val (.int (1 : Int32)), .val (.int c1)] [])
  refine own_st (fun _ k => XS.iinc X2.here hx rfl (hb hby own_d11_35) rfl (l' := #[.val (.ref a1), .val (.int (2 : Int32)), .val (.ref a2), .val (.int ((1 : Int32) + (1 : Int32))), .val (.int (2 : Int32)), .val (.int (1 : Int32)), .val (.int c1)]) rfl k) ?_
  show own_Go _ _ _ _ T2 (mkF m 38 #[.val (.ref a1), .val (.int (2 : Int32)), .val (.ref a2), .val (.int ((1 : Int32) + (1 : Int32))), .val (.int (2 : Int32)), .val (.int (1 : Int32)), .val (.int c1)] [])
  rw [show ((1 : Int32) + (1 : Int32)) = (2 : Int32) from by decide]
  show own_Go _ _ _ _ T2 (mkF m 38 #[.val (.ref a1), .val (.int (2 : Int32)), .val (.ref a2), .val (.int (2 : Int32)), .val (.int (2 : Int32)), .val (.int (1 : Int32)), .val (.int c1)] [])
  refine own_st (fun _ k => XS.iinc X2.here hx rfl (hb hby own_d11_38) rfl (l' := #[.val (.ref a1), .val (.int (2 : Int32)), .val (.ref a2), .val (.int (2 : Int32)), .val (.int (2 : Int32)), .val (.int ((1 : Int32) + (1 : Int32))), .val (.int c1)]) rfl k) ?_
  show own_Go _ _ _ _ T2 (mkF m 41 #[.val (.ref a1), .val (.int (2 : Int32)), .val (.ref a2), .val (.int (2 : Int32)), .val (.int (2 : Int32)), .val (.int ((1 : Int32) + (1 : Int32))), .val (.int c1)] [])
  rw [show ((1 : Int32) + (1 : Int32)) = (2 : Int32) from by decide]
  show own_Go _ _ _ _ T2 (mkF m 41 #[.val (.ref a1), .val (.int (2 : Int32)), .val (.ref a2), .val (.int (2 : Int32)), .val (.int (2 : Int32)), .val (.int (2 : Int32)), .val (.int c1)] [])
  refine own_st (fun _ k => XS.goto X2.here hx rfl (pc0 := 41) (pc' := 3) rfl (hb hby own_d11_41) (by decide) (by decide) k) ?_
  show own_Go _ _ _ _ T2 (mkF m 3 #[.val (.ref a1), .val (.int (2 : Int32)), .val (.ref a2), .val (.int (2 : Int32)), .val (.int (2 : Int32)), .val (.int (2 : Int32)), .val (.int c1)] [])
  refine own_st (fun _ k => XS.iload X2.here hx rfl (hb hby own_d11_3) rfl k) ?_
  show own_Go _ _ _ _ T2 (mkF m 5 #[.val (.ref a1), .val (.int (2 : Int32)), .val (.ref a2), .val (.int (2 : Int32)), .val (.int (2 : Int32)), .val (.int (2 : Int32)), .val (.int c1)] [(.int (2 : Int32))])
  refine own_st (fun _ k => XS.iload X2.here hx rfl (hb hby own_d11_5) rfl k) ?_
  show own_Go _ _ _ _ T2 (mkF m 7 #[.val (.ref a1), .val (.int (2 : Int32)), .val (.ref a2), .val (.int (2 : Int32)), .val (.int (2 : Int32)), .val (.int (2 : Int32)), .val (.int c1)] [(.int (2 : Int32)), (.int (2 : Int32))])
  refine own_st (fun _ k => XS.icmpYes X2.here hx rfl (pc0 := 7) (pc' := 44) rfl (hb hby own_d11_7) rfl (flt (by decide : ¬ ((2 : Int32) < (2 : Int32)))).2.1 (by decide) (by decide) k) ?_
  show own_Go _ _ _ _ T2 (mkF m 44 #[.val (.ref a1), .val (.int (2 : Int32)), .val (.ref a2), .val (.int (2 : Int32)), .val (.int (2 : Int32)), .val (.int (2 : Int32)), .val (.int c1)] [])
  refine own_st (fun _ k => XS.iload X2.here hx rfl (hb hby own_d11_44) rfl k) ?_
  show own_Go _ _ _ _ T2 (mkF m 46 #[.val (.ref a1), .val (.int (2 : Int32)), .val (.ref a2), .val (.int (2 : Int32)), .val (.int (2 : Int32)), .val (.int (2 : Int32)), .val (.int c1)] [(.int (2 : Int32))])
  exact own_retI X2 hx hret hlk (hb hby own_d11_46) ⟨rfl, N2, by rw [e2]; exact K2, by rw [e2]; exact Va2⟩ (by decide) (by decide)
def own_cq2_Q (Z : State) (a1 : Addr) (p1 p2 : Int32) (k1 : ClassId) (c0 c1 : Int32) (h0 : Heap) (n0 : Nat) (v : Option Value) (h : Heap) (L : List Loc) : Prop := ∃ b k, v = some (.ref b) ∧ Fr n0 L ∧ Ext h0 h ∧ n0 ≤ b ∧ h0.size ≤ b ∧ Arv Z h b k .byte (2 : Int32) [(.int (nar .byte (c0.toInt8.toInt32))), (.int (nar .byte (c1.toInt8.toInt32)))] (.int (0 : Int32))
set_option maxRecDepth 65536 in
set_option maxHeartbeats 40000000 in
theorem own_cq2 (l : Launch) {Z : State} {a0 : Array Value} (hw : own_W Z a0) (ws : List Jvm.Cond) (a1 : Addr) (p1 p2 : Int32) (k1 : ClassId) (c0 c1 : Int32) (h0 : Heap) (n0 : Nat) (Z0 : n0 ≤ h0.size) (hp1 : p1 = 0) (hp2 : p2 = (2 : Int32)) (hc0 : own_ch c0) (hc1 : own_ch c1) (V1 : Arv Z h0 a1 k1 .char (2 : Int32) [(.int c0), (.int c1)] (.int (0 : Int32))) :
    MetFree l (⟨"java/lang/StringUTF16", "compress", "([CII)[B"⟩ : MethodName) (head1 (Jvm.Cond.code (⟨"java/lang/StringUTF16", "compress", "([CII)[B"⟩ : MethodName) jdk_52_method_16_code 6 (some (.array .byte)) :: ws) ({ frames := 1, cells := 1, slots := 2, locals := 18 } : Room)) (fun a U => a = #[(.ref a1), (.int p1), (.int p2)] ∧ Z.Warmed39 U.vm ∧ U.heap = h0) (fun _ _ _ _ _ => True) (fun _ U o U' => ∃ v L, o = .returned v ∧ own_cq2_Q Z a1 p1 p2 k1 c0 c1 h0 n0 v U'.heap L ∧ FrameEnd U o U' L ({ frames := 1, cells := 1, slots := 2, locals := 18 } : Room).cells ({ frames := 1, cells := 1, slots := 2, locals := 18 } : Room).slots) := by
  refine own_enter (C := ({ frames := 1, cells := 1, slots := 2, locals := 18 } : Room).cells) (S := ({ frames := 1, cells := 1, slots := 2, locals := 18 } : Room).slots) (plainFor_of_name own_pn3) ?_
  intro p e s m below meth c T0 X0 I e0
  obtain ⟨hx, hby, hml, hown, hnm, hret, hlk, hZ⟩ := I
  have N0 := Fr.nil n0
  have O0 := own_extr h0
  refine own_cast (own_ef10 m a1 p1 p2) ?_
  show own_Go _ _ _ _ T0 (mkF m 0 #[.val (.ref a1), .val (.int p1), .val (.int p2), .unset, .unset, .unset] [])
  rw [hp1, hp2]
  show own_Go _ _ _ _ T0 (mkF m 0 #[.val (.ref a1), .val (.int (0 : Int32)), .val (.int (2 : Int32)), .unset, .unset, .unset] [])
  refine own_st (fun _ k => XS.iloadN X0.here hx rfl (hb hby own_d10_0) rfl k) ?_
  show own_Go _ _ _ _ T0 (mkF m 1 #[.val (.ref a1), .val (.int (0 : Int32)), .val (.int (2 : Int32)), .unset, .unset, .unset] [(.int (2 : Int32))])
  obtain ⟨T1, hp1, kk1, X1, e1, Et1, A1, st1⟩ := newP X0 hx hZ (aty := .byte) (own_w19 hw) e0 (g := (mkF m 1 #[.val (.ref a1), .val (.int (0 : Int32)), .val (.int (2 : Int32)), .unset, .unset, .unset] [(.int (2 : Int32))])) rfl (hb hby own_d10_1) rfl (by decide) (cap := 2) (by decide) (by decide) (by decide) (by decide)
  obtain ⟨b1, g1⟩ : ∃ z, z = h0.size := ⟨_, rfl⟩
  rw [← g1] at A1 st1
  have s_b1 : h0.size ≤ b1 := Nat.le_trans O0.1 (Nat.le_of_eq g1.symm)
  have g_b1 : n0 ≤ b1 := Nat.le_trans Z0 s_b1
  have O1 := own_extt O0 Et1
  have Va1 : Arv Z hp1 b1 kk1 .byte (2 : Int32) [(.int (0 : Int32)), (.int (0 : Int32))] (.int (0 : Int32)) := (Arv.new A1 (by decide)).pad (pad_rep [] (.int (0 : Int32)) 2)
  refine own_st st1 ?_
  show own_Go _ _ _ _ T1 (mkF m 3 #[.val (.ref a1), .val (.int (0 : Int32)), .val (.int (2 : Int32)), .unset, .unset, .unset] [(.ref b1)])
  refine own_st (fun _ k => XS.astoreN X1.here hx rfl (hb hby own_d10_3) rfl rfl (l' := #[.val (.ref a1), .val (.int (0 : Int32)), .val (.int (2 : Int32)), .val (.ref b1), .unset, .unset]) rfl k) ?_
  show own_Go _ _ _ _ T1 (mkF m 4 #[.val (.ref a1), .val (.int (0 : Int32)), .val (.int (2 : Int32)), .val (.ref b1), .unset, .unset] [])
  refine own_st (fun _ k => XS.aloadN X1.here hx rfl (hb hby own_d10_4) rfl rfl k) ?_
  show own_Go _ _ _ _ T1 (mkF m 5 #[.val (.ref a1), .val (.int (0 : Int32)), .val (.int (2 : Int32)), .val (.ref b1), .unset, .unset] [(.ref a1)])
  refine own_st (fun _ k => XS.iloadN X1.here hx rfl (hb hby own_d10_5) rfl k) ?_
  show own_Go _ _ _ _ T1 (mkF m 6 #[.val (.ref a1), .val (.int (0 : Int32)), .val (.int (2 : Int32)), .val (.ref b1), .unset, .unset] [(.int (0 : Int32)), (.ref a1)])
  refine own_st (fun _ k => XS.aloadN X1.here hx rfl (hb hby own_d10_6) rfl rfl k) ?_
  show own_Go _ _ _ _ T1 (mkF m 7 #[.val (.ref a1), .val (.int (0 : Int32)), .val (.int (2 : Int32)), .val (.ref b1), .unset, .unset] [(.ref b1), (.int (0 : Int32)), (.ref a1)])
  refine own_st (fun _ k => XS.iconst X1.here hx rfl (hb hby own_d10_7) k) ?_
  show own_Go _ _ _ _ T1 (mkF m 8 #[.val (.ref a1), .val (.int (0 : Int32)), .val (.int (2 : Int32)), .val (.ref b1), .unset, .unset] [(.int (0 : Int32)), (.ref b1), (.int (0 : Int32)), (.ref a1)])
  refine own_st (fun _ k => XS.iloadN X1.here hx rfl (hb hby own_d10_8) rfl k) ?_
  show own_Go _ _ _ _ T1 (mkF m 9 #[.val (.ref a1), .val (.int (0 : Int32)), .val (.int (2 : Int32)), .val (.ref b1), .unset, .unset] [(.int (2 : Int32)), (.int (0 : Int32)), (.ref b1), (.int (0 : Int32)), (.ref a1)])
  obtain ⟨v2, T2, L2, hQ2, X2, st2⟩ := own_callS X1 hx hZ (y := (⟨"java/lang/StringUTF16", "compress", "([CI[BII)I"⟩ : MethodName)) hown (own_w71 hw) (own_w72 hw) (own_w69 hw) (own_w73 hw) (by decide) (own_cp2 l hw [] a1 b1 (0 : Int32) (0 : Int32) (2 : Int32) k1 kk1 c0 c1 hp1 n0 (Nat.le_trans Z0 O1.1) rfl rfl rfl hc0 hc1 (Nat.ne_of_lt (Nat.lt_of_lt_of_le V1.lt s_b1)) g_b1 (V1.ext O1) Va1) e1 (g := (mkF m 9 #[.val (.ref a1), .val (.int (0 : Int32)), .val (.int (2 : Int32)), .val (.ref b1), .unset, .unset] [(.int (2 : Int32)), (.int (0 : Int32)), (.ref b1), (.int (0 : Int32)), (.ref a1)])) rfl (by rw [hml]; rfl) (argsL := [(.ref a1), (.int (0 : Int32)), (.ref b1), (.int (0 : Int32)), (.int (2 : Int32))]) (rest := []) (lenOf own_pd3 rfl) rfl rfl (W := 0) (Nat.le_of_eq rfl) (hb hby own_d10_9) (by decide) (by decide) (by decide) (by decide)
  obtain ⟨rfl, N2, K2, Vb2⟩ := hQ2
  have O2 : Ext h0 T2.heap := ⟨Nat.le_trans O1.1 K2.1, fun x c r => K2.2.1 x c (O1.2 x c r) (fun z => by
    have q := (Array.getElem?_eq_some_iff.mp r).1
    simp only [List.mem_cons, List.not_mem_nil, or_false] at z
    rcases z with rfl
    exact absurd q (Nat.not_lt.mpr s_b1))⟩
  have N2' := Fr.app N0 N2
  refine own_st st2 ?_
  show own_Go _ _ _ _ T2 (mkF m 12 #[.val (.ref a1), .val (.int (0 : Int32)), .val (.int (2 : Int32)), .val (.ref b1), .unset, .unset] [(.int (2 : Int32))])
  refine own_st (fun _ k => XS.istore X2.here hx rfl (hb hby own_d10_12) rfl (l' := #[.val (.ref a1), .val (.int (0 : Int32)), .val (.int (2 : Int32)), .val (.ref b1), .val (.int (2 : Int32)), .unset]) rfl k) ?_
  show own_Go _ _ _ _ T2 (mkF m 14 #[.val (.ref a1), .val (.int (0 : Int32)), .val (.int (2 : Int32)), .val (.ref b1), .val (.int (2 : Int32)), .unset] [])
  refine own_st (fun _ k => XS.iload X2.here hx rfl (hb hby own_d10_14) rfl k) ?_
  show own_Go _ _ _ _ T2 (mkF m 16 #[.val (.ref a1), .val (.int (0 : Int32)), .val (.int (2 : Int32)), .val (.ref b1), .val (.int (2 : Int32)), .unset] [(.int (2 : Int32))])
  refine own_st (fun _ k => XS.iloadN X2.here hx rfl (hb hby own_d10_16) rfl k) ?_
  show own_Go _ _ _ _ T2 (mkF m 17 #[.val (.ref a1), .val (.int (0 : Int32)), .val (.int (2 : Int32)), .val (.ref b1), .val (.int (2 : Int32)), .unset] [(.int (2 : Int32)), (.int (2 : Int32))])
  refine own_st (fun _ k => XS.icmpYes X2.here hx rfl (pc0 := 17) (pc' := 57) rfl (hb hby own_d10_17) rfl (teq (by decide : (2 : Int32) = (2 : Int32))).1 (by decide) (by decide) k) ?_
  show own_Go _ _ _ _ T2 (mkF m 57 #[.val (.ref a1), .val (.int (0 : Int32)), .val (.int (2 : Int32)), .val (.ref b1), .val (.int (2 : Int32)), .unset] [])
  refine own_st (fun _ k => XS.aloadN X2.here hx rfl (hb hby own_d10_57) rfl rfl k) ?_
  show own_Go _ _ _ _ T2 (mkF m 58 #[.val (.ref a1), .val (.int (0 : Int32)), .val (.int (2 : Int32)), .val (.ref b1), .val (.int (2 : Int32)), .unset] [(.ref b1)])
  exact own_retA X2 hx hret rfl hlk rfl (hb hby own_d10_58) ⟨b1, _, rfl, N2', O2, g_b1, s_b1, Vb2⟩ (by decide) (by decide)
def own_cd2_Q (Z : State) (a1 : Addr) (p1 : Int32) (k1 : ClassId) (c0 c1 : Int32) (h0 : Heap) (n0 : Nat) (v : Option Value) (h : Heap) (L : List Loc) : Prop := v = some (.int 0) ∧ Fr n0 L ∧ h = h0
set_option maxRecDepth 65536 in
set_option maxHeartbeats 40000000 in
theorem own_cd2 (l : Launch) {Z : State} {a0 : Array Value} (hw : own_W Z a0) (ws : List Jvm.Cond) (a1 : Addr) (p1 : Int32) (k1 : ClassId) (c0 c1 : Int32) (h0 : Heap) (n0 : Nat) (Z0 : n0 ≤ h0.size) (hp1 : p1 = (2 : Int32)) (V1 : Arv Z h0 a1 k1 .byte (2 : Int32) [(.int (nar .byte (c0.toInt8.toInt32))), (.int (nar .byte (c1.toInt8.toInt32)))] (.int (0 : Int32))) :
    MetFree l (⟨"java/lang/StringUTF16", "coderFromArrayLen", "([BI)B"⟩ : MethodName) (head1 (Jvm.Cond.code (⟨"java/lang/StringUTF16", "coderFromArrayLen", "([BI)B"⟩ : MethodName) jdk_52_method_15_code 2 (some .byte) :: ws) ({ frames := 0, cells := 0, slots := 0, locals := 0 } : Room)) (fun a U => a = #[(.ref a1), (.int p1)] ∧ Z.Warmed39 U.vm ∧ U.heap = h0) (fun _ _ _ _ _ => True) (fun _ U o U' => ∃ v L, o = .returned v ∧ own_cd2_Q Z a1 p1 k1 c0 c1 h0 n0 v U'.heap L ∧ FrameEnd U o U' L ({ frames := 0, cells := 0, slots := 0, locals := 0 } : Room).cells ({ frames := 0, cells := 0, slots := 0, locals := 0 } : Room).slots) := by
  refine own_enter (C := ({ frames := 0, cells := 0, slots := 0, locals := 0 } : Room).cells) (S := ({ frames := 0, cells := 0, slots := 0, locals := 0 } : Room).slots) (plainFor_of_name own_pn3) ?_
  intro p e s m below meth c T0 X0 I e0
  obtain ⟨hx, hby, hml, hown, hnm, hret, hlk, hZ⟩ := I
  have N0 := Fr.nil n0
  have O0 := own_extr h0
  refine own_cast (own_ef12 m a1 p1) ?_
  show own_Go _ _ _ _ T0 (mkF m 0 #[.val (.ref a1), .val (.int p1)] [])
  rw [hp1]
  show own_Go _ _ _ _ T0 (mkF m 0 #[.val (.ref a1), .val (.int (2 : Int32))] [])
  refine own_st (fun _ k => XS.iloadN X0.here hx rfl (hb hby own_d12_0) rfl k) ?_
  show own_Go _ _ _ _ T0 (mkF m 1 #[.val (.ref a1), .val (.int (2 : Int32))] [(.int (2 : Int32))])
  refine own_st (fun _ k => XS.aloadN X0.here hx rfl (hb hby own_d12_1) rfl rfl k) ?_
  show own_Go _ _ _ _ T0 (mkF m 2 #[.val (.ref a1), .val (.int (2 : Int32))] [(.ref a1), (.int (2 : Int32))])
  refine own_st (own_len X0 hx hZ e0 (V1.ext O0) (g := (mkF m 2 #[.val (.ref a1), .val (.int (2 : Int32))] [(.ref a1), (.int (2 : Int32))])) rfl rfl (hb hby own_d12_2)) ?_
  show own_Go _ _ _ _ T0 (mkF m 3 #[.val (.ref a1), .val (.int (2 : Int32))] [(.int (2 : Int32)), (.int (2 : Int32))])
  refine own_st (fun _ k => XS.isub X0.here hx rfl (hb hby own_d12_3) rfl k) ?_
  show own_Go _ _ _ _ T0 (mkF m 4 #[.val (.ref a1), .val (.int (2 : Int32))] [(.int ((2 : Int32) - (2 : Int32)))])
  rw [show ((2 : Int32) - (2 : Int32)) = (0 : Int32) from by decide]
  show own_Go _ _ _ _ T0 (mkF m 4 #[.val (.ref a1), .val (.int (2 : Int32))] [(.int (0 : Int32))])
  refine own_st (fun _ k => XS.bipush X0.here hx rfl (hb hby own_d12_4) k) ?_
  show own_Go _ _ _ _ T0 (mkF m 6 #[.val (.ref a1), .val (.int (2 : Int32))] [(.int (31 : Int32)), (.int (0 : Int32))])
  refine own_st (fun _ k => XS.iushr X0.here hx rfl (hb hby own_d12_6) rfl k) ?_
  show own_Go _ _ _ _ T0 (mkF m 7 #[.val (.ref a1), .val (.int (2 : Int32))] [(.int (((0 : Int32).toUInt32 >>> ((31 : Int32) &&& 31).toUInt32).toInt32))])
  rw [show (((0 : Int32).toUInt32 >>> ((31 : Int32) &&& 31).toUInt32).toInt32) = (0 : Int32) from by decide]
  show own_Go _ _ _ _ T0 (mkF m 7 #[.val (.ref a1), .val (.int (2 : Int32))] [(.int (0 : Int32))])
  refine own_st (fun _ k => XS.i2b X0.here hx rfl (hb hby own_d12_7) rfl k) ?_
  show own_Go _ _ _ _ T0 (mkF m 8 #[.val (.ref a1), .val (.int (2 : Int32))] [(.int ((0 : Int32).toInt8.toInt32))])
  rw [show ((0 : Int32).toInt8.toInt32) = (0 : Int32) from by decide]
  show own_Go _ _ _ _ T0 (mkF m 8 #[.val (.ref a1), .val (.int (2 : Int32))] [(.int (0 : Int32))])
  exact own_retN X0 hx hret (by simp) hlk (hb hby own_d12_8) ⟨rfl, N0, e0⟩ (by decide) (by decide)
def own_vd2_Q (Z : State) (a1 a2 : Addr) (p1 p2 cs : Int32) (k1 : ClassId) (c0 c1 : Int32) (h0 : Heap) (n0 : Nat) (v : Option Value) (h : Heap) (L : List Loc) : Prop := v = none ∧ Fr n0 L ∧ Keep h0 h [a1] ∧ ∃ b k, Fld Z h a1 "java/lang/String" "value" "[B" (.ref b) ∧ Fld Z h a1 "java/lang/String" "coder" "B" (.int (0 : Int32)) ∧ Arv Z h b k .byte (2 : Int32) [(.int (nar .byte (c0.toInt8.toInt32))), (.int (nar .byte (c1.toInt8.toInt32)))] (.int (0 : Int32))
set_option maxRecDepth 65536 in
set_option maxHeartbeats 40000000 in
theorem own_vd2 (l : Launch) {Z : State} {a0 : Array Value} (hw : own_W Z a0) (ws : List Jvm.Cond) (a1 a2 : Addr) (p1 p2 cs : Int32) (k1 : ClassId) (c0 c1 : Int32) (h0 : Heap) (n0 : Nat) (Z0 : n0 ≤ h0.size) (hp1 : p1 = 0) (hp2 : p2 = (2 : Int32)) (hc0 : own_ch c0) (hc1 : own_ch c1) (Scs : Sta Z h0 "java/lang/String" "COMPACT_STRINGS" "Z" (.int cs)) (hcs : ¬ cs = 0) (g_a1 : n0 ≤ a1) (Ea : Exa Z h0 a1 "java/lang/String") (Fv : Fld Z h0 a1 "java/lang/String" "value" "[B" .null) (Fc : Fld Z h0 a1 "java/lang/String" "coder" "B" (.int (0 : Int32))) (V1 : Arv Z h0 a2 k1 .char (2 : Int32) [(.int c0), (.int c1)] (.int (0 : Int32))) :
    MetFree l (⟨"java/lang/String", "<init>", "([CIILjava/lang/Void;)V"⟩ : MethodName) (head1 (Jvm.Cond.code (⟨"java/lang/String", "<init>", "([CIILjava/lang/Void;)V"⟩ : MethodName) jdk_42_method_149_code 6 none :: ws) ({ frames := 2, cells := 1, slots := 2, locals := 40 } : Room)) (fun a U => a = #[(.ref a1), (.ref a2), (.int p1), (.int p2), .null] ∧ Z.Warmed39 U.vm ∧ U.heap = h0) (fun _ _ _ _ _ => True) (fun _ U o U' => ∃ v L, o = .returned v ∧ own_vd2_Q Z a1 a2 p1 p2 cs k1 c0 c1 h0 n0 v U'.heap L ∧ FrameEnd U o U' L ({ frames := 2, cells := 1, slots := 2, locals := 40 } : Room).cells ({ frames := 2, cells := 1, slots := 2, locals := 40 } : Room).slots) := by
  refine own_enter (C := ({ frames := 2, cells := 1, slots := 2, locals := 40 } : Room).cells) (S := ({ frames := 2, cells := 1, slots := 2, locals := 40 } : Room).slots) (plainFor_of_name own_pn2) ?_
  intro p e s m below meth c T0 X0 I e0
  obtain ⟨hx, hby, hml, hown, hnm, hret, hlk, hZ⟩ := I
  have N0 := Fr.nil n0
  have O0 := own_extr h0
  refine own_cast (own_ef3n m a1 a2 p1 p2) ?_
  show own_Go _ _ _ _ T0 (mkF m 0 #[.val (.ref a1), .val (.ref a2), .val (.int p1), .val (.int p2), .val .null, .unset] [])
  rw [hp1, hp2]
  show own_Go _ _ _ _ T0 (mkF m 0 #[.val (.ref a1), .val (.ref a2), .val (.int (0 : Int32)), .val (.int (2 : Int32)), .val .null, .unset] [])
  have K0 := Keep.refl h0 [a1]
  refine own_st (fun _ k => XS.aloadN X0.here hx rfl (hb hby own_d3_0) rfl rfl k) ?_
  show own_Go _ _ _ _ T0 (mkF m 1 #[.val (.ref a1), .val (.ref a2), .val (.int (0 : Int32)), .val (.int (2 : Int32)), .val .null, .unset] [(.ref a1)])
  obtain ⟨T1, X1, e1, st1⟩ := initO X0 hx hZ hown (own_w15 hw) (own_w16 hw) (own_w17 hw) e0 (g := (mkF m 1 #[.val (.ref a1), .val (.ref a2), .val (.int (0 : Int32)), .val (.int (2 : Int32)), .val .null, .unset] [(.ref a1)])) rfl (by rw [hml]; rfl) rfl (hb hby own_d3_1) (by decide) (W := 0) (Nat.le_of_eq rfl) (by decide)
  refine own_st st1 ?_
  show own_Go _ _ _ _ T1 (mkF m 4 #[.val (.ref a1), .val (.ref a2), .val (.int (0 : Int32)), .val (.int (2 : Int32)), .val .null, .unset] [])
  refine own_st (fun _ k => XS.iloadN X1.here hx rfl (hb hby own_d3_4) rfl k) ?_
  show own_Go _ _ _ _ T1 (mkF m 5 #[.val (.ref a1), .val (.ref a2), .val (.int (0 : Int32)), .val (.int (2 : Int32)), .val .null, .unset] [(.int (2 : Int32))])
  refine own_st (fun _ k => XS.ifYes X1.here hx rfl (pc0 := 5) (pc' := 27) rfl (hb hby own_d3_5) rfl ((if0 _ _).trans (feq (by decide : ¬ ((2 : Int32) = (0 : Int32)))).2) (by decide) (by decide) k) ?_
  show own_Go _ _ _ _ T1 (mkF m 27 #[.val (.ref a1), .val (.ref a2), .val (.int (0 : Int32)), .val (.int (2 : Int32)), .val .null, .unset] [])
  obtain ⟨T2, X2, e2, st2⟩ := getS2 X1 hx hZ hown (host := "") (Or.inl (own_w62 hw)) Via.refl e1 Scs (g := (mkF m 27 #[.val (.ref a1), .val (.ref a2), .val (.int (0 : Int32)), .val (.int (2 : Int32)), .val .null, .unset] [])) rfl (hb hby own_d3_27)
  refine own_st st2 ?_
  show own_Go _ _ _ _ T2 (mkF m 30 #[.val (.ref a1), .val (.ref a2), .val (.int (0 : Int32)), .val (.int (2 : Int32)), .val .null, .unset] [(.int cs)])
  refine own_st (fun _ k => XS.ifNo X2.here hx rfl (hb hby own_d3_30) rfl ((if0 _ _).trans (feq (hcs : ¬ (cs = (0 : Int32)))).1) k) ?_
  show own_Go _ _ _ _ T2 (mkF m 33 #[.val (.ref a1), .val (.ref a2), .val (.int (0 : Int32)), .val (.int (2 : Int32)), .val .null, .unset] [])
  refine own_st (fun _ k => XS.aloadN X2.here hx rfl (hb hby own_d3_33) rfl rfl k) ?_
  show own_Go _ _ _ _ T2 (mkF m 34 #[.val (.ref a1), .val (.ref a2), .val (.int (0 : Int32)), .val (.int (2 : Int32)), .val .null, .unset] [(.ref a2)])
  refine own_st (fun _ k => XS.iloadN X2.here hx rfl (hb hby own_d3_34) rfl k) ?_
  show own_Go _ _ _ _ T2 (mkF m 35 #[.val (.ref a1), .val (.ref a2), .val (.int (0 : Int32)), .val (.int (2 : Int32)), .val .null, .unset] [(.int (0 : Int32)), (.ref a2)])
  refine own_st (fun _ k => XS.iloadN X2.here hx rfl (hb hby own_d3_35) rfl k) ?_
  show own_Go _ _ _ _ T2 (mkF m 36 #[.val (.ref a1), .val (.ref a2), .val (.int (0 : Int32)), .val (.int (2 : Int32)), .val .null, .unset] [(.int (2 : Int32)), (.int (0 : Int32)), (.ref a2)])
  obtain ⟨v3, T3, L3, hQ3, X3, st3⟩ := own_callS X2 hx hZ (y := (⟨"java/lang/StringUTF16", "compress", "([CII)[B"⟩ : MethodName)) hown (own_w67 hw) (own_w68 hw) (own_w69 hw) (own_w70 hw) (by decide) (own_cq2 l hw [] a2 (0 : Int32) (2 : Int32) k1 c0 c1 h0 n0 Z0 rfl rfl hc0 hc1 V1) e2 (g := (mkF m 36 #[.val (.ref a1), .val (.ref a2), .val (.int (0 : Int32)), .val (.int (2 : Int32)), .val .null, .unset] [(.int (2 : Int32)), (.int (0 : Int32)), (.ref a2)])) rfl (by rw [hml]; rfl) (argsL := [(.ref a2), (.int (0 : Int32)), (.int (2 : Int32))]) (rest := []) (lenOf own_pd4 rfl) rfl rfl (W := 0) (Nat.le_of_eq rfl) (hb hby own_d3_36) (by decide) (by decide) (by decide) (by decide)
  obtain ⟨b, kb, rfl, N3, Et3, gb, sb, Vb⟩ := hQ3
  have nab : a1 ≠ b := Nat.ne_of_lt (Nat.lt_of_lt_of_le Ea.lt sb)
  have K3x := Keep.ext K0 Et3
  have Scs_3 := Scs.ext Et3
  have Ex_a1_3 := Ea.ext Et3
  have F_value_a1_3 := Fv.ext Et3
  have F_coder_a1_3 := Fc.ext Et3
  have N3' := Fr.app N0 N3
  refine own_st st3 ?_
  show own_Go _ _ _ _ T3 (mkF m 39 #[.val (.ref a1), .val (.ref a2), .val (.int (0 : Int32)), .val (.int (2 : Int32)), .val .null, .unset] [(.ref b)])
  refine own_st (fun _ k => XS.astore X3.here hx rfl (hb hby own_d3_39) rfl rfl (l' := #[.val (.ref a1), .val (.ref a2), .val (.int (0 : Int32)), .val (.int (2 : Int32)), .val .null, .val (.ref b)]) rfl k) ?_
  show own_Go _ _ _ _ T3 (mkF m 41 #[.val (.ref a1), .val (.ref a2), .val (.int (0 : Int32)), .val (.int (2 : Int32)), .val .null, .val (.ref b)] [])
  refine own_st (fun _ k => XS.aloadN X3.here hx rfl (hb hby own_d3_41) rfl rfl k) ?_
  show own_Go _ _ _ _ T3 (mkF m 42 #[.val (.ref a1), .val (.ref a2), .val (.int (0 : Int32)), .val (.int (2 : Int32)), .val .null, .val (.ref b)] [(.ref a1)])
  refine own_st (fun _ k => XS.aload X3.here hx rfl (hb hby own_d3_42) rfl rfl k) ?_
  show own_Go _ _ _ _ T3 (mkF m 44 #[.val (.ref a1), .val (.ref a2), .val (.int (0 : Int32)), .val (.int (2 : Int32)), .val .null, .val (.ref b)] [(.ref b), (.ref a1)])
  refine own_st (fun _ k => XS.iloadN X3.here hx rfl (hb hby own_d3_44) rfl k) ?_
  show own_Go _ _ _ _ T3 (mkF m 45 #[.val (.ref a1), .val (.ref a2), .val (.int (0 : Int32)), .val (.int (2 : Int32)), .val .null, .val (.ref b)] [(.int (2 : Int32)), (.ref b), (.ref a1)])
  obtain ⟨v4, T4, L4, hQ4, X4, st4⟩ := own_callS X3 hx hZ (y := (⟨"java/lang/StringUTF16", "coderFromArrayLen", "([BI)B"⟩ : MethodName)) hown (own_w74 hw) (own_w75 hw) (own_w69 hw) (own_w76 hw) (by decide) (own_cd2 l hw [] b (2 : Int32) kb c0 c1 T3.heap n0 (Nat.le_trans Z0 Et3.1) rfl Vb) rfl (g := (mkF m 45 #[.val (.ref a1), .val (.ref a2), .val (.int (0 : Int32)), .val (.int (2 : Int32)), .val .null, .val (.ref b)] [(.int (2 : Int32)), (.ref b), (.ref a1)])) rfl (by rw [hml]; rfl) (argsL := [(.ref b), (.int (2 : Int32))]) (rest := [(.ref a1)]) (lenOf own_pd5 rfl) rfl rfl (W := 1) (Nat.le_of_eq rfl) (hb hby own_d3_45) (by decide) (by decide) (by decide) (by decide)
  obtain ⟨rfl, N4, e4⟩ := hQ4
  have N4' := Fr.app N3' N4
  refine own_st st4 ?_
  show own_Go _ _ _ _ T4 (mkF m 48 #[.val (.ref a1), .val (.ref a2), .val (.int (0 : Int32)), .val (.int (2 : Int32)), .val .null, .val (.ref b)] [(.int (0 : Int32)), (.ref a1)])
  obtain ⟨T5, hp5, X5, e5, W5, st5⟩ := putFN X4 hx hZ hown (own_w25 hw) Via.refl e4 F_coder_a1_3 Ex_a1_3 (Or.inr ⟨(own_w21 hw), rfl, hnm⟩) (own_w5 hw) (ty := .byte) (v' := (.int (0 : Int32))) (by decide) rfl (by decide) (g := (mkF m 48 #[.val (.ref a1), .val (.ref a2), .val (.int (0 : Int32)), .val (.int (2 : Int32)), .val .null, .val (.ref b)] [(.int (0 : Int32)), (.ref a1)])) rfl rfl (hb hby own_d3_48)
  have K5 := Keep.wr K3x W5 (Or.inl (List.mem_of_getElem? (i := 0) rfl))
  have Scs_5 := Scs_3.wr W5
  have V_b_5 := Vb.other W5 (Ne.symm nab)
  have Ex_a1_5 := Ex_a1_3.wr W5
  have F_value_a1_5 := F_value_a1_3.other W5 (Or.inr (slot_ne (Or.inr (own_w20 hw)) (Or.inr (own_w21 hw)) (by decide) (t := (.array .byte)) (t' := .byte) (by decide) (by decide)))
  have F_coder_a1_5 := F_coder_a1_3.same W5
  have N5 := Fr.snoc X5 N4' g_a1
  refine own_st st5 ?_
  show own_Go _ _ _ _ T5 (mkF m 51 #[.val (.ref a1), .val (.ref a2), .val (.int (0 : Int32)), .val (.int (2 : Int32)), .val .null, .val (.ref b)] [])
  refine own_st (fun _ k => XS.aloadN X5.here hx rfl (hb hby own_d3_51) rfl rfl k) ?_
  show own_Go _ _ _ _ T5 (mkF m 52 #[.val (.ref a1), .val (.ref a2), .val (.int (0 : Int32)), .val (.int (2 : Int32)), .val .null, .val (.ref b)] [(.ref a1)])
  refine own_st (fun _ k => XS.aload X5.here hx rfl (hb hby own_d3_52) rfl rfl k) ?_
  show own_Go _ _ _ _ T5 (mkF m 54 #[.val (.ref a1), .val (.ref a2), .val (.int (0 : Int32)), .val (.int (2 : Int32)), .val .null, .val (.ref b)] [(.ref b), (.ref a1)])
  obtain ⟨T6, hp6, X6, e6, W6, st6⟩ := putF X5 hx hZ hown (host := "") (Or.inl (own_w24 hw)) Via.refl e5 F_value_a1_5 Ex_a1_5 (Or.inr ⟨(own_w20 hw), rfl, hnm⟩) (own_w5 hw) (ty := (.array .byte)) (by decide) rfl rfl (g := (mkF m 54 #[.val (.ref a1), .val (.ref a2), .val (.int (0 : Int32)), .val (.int (2 : Int32)), .val .null, .val (.ref b)] [(.ref b), (.ref a1)])) rfl rfl (hb hby own_d3_54)
  have K6 := Keep.wr K5 W6 (Or.inl (List.mem_of_getElem? (i := 0) rfl))
  have Scs_6 := Scs_5.wr W6
  have V_b_6 := V_b_5.other W6 (Ne.symm nab)
  have Ex_a1_6 := Ex_a1_5.wr W6
  have F_coder_a1_6 := F_coder_a1_5.other W6 (Or.inr (slot_ne (Or.inr (own_w21 hw)) (Or.inr (own_w20 hw)) (by decide) (t := .byte) (t' := (.array .byte)) (by decide) (by decide)))
  have F_value_a1_6 := F_value_a1_5.same W6
  have N6 := Fr.snoc X6 N5 g_a1
  refine own_st st6 ?_
  show own_Go _ _ _ _ T6 (mkF m 57 #[.val (.ref a1), .val (.ref a2), .val (.int (0 : Int32)), .val (.int (2 : Int32)), .val .null, .val (.ref b)] [])
  exact own_retV X6 hx hret hlk (hb hby own_d3_57) ⟨rfl, N6, by rw [e6]; exact K6, b, kb, by rw [e6]; exact F_value_a1_6, by rw [e6]; exact F_coder_a1_6, by rw [e6]; exact V_b_6⟩ (by decide) (by decide)
def own_cc2_Q (Z : State) (a1 a2 : Addr) (cs : Int32) (k1 : ClassId) (c0 c1 : Int32) (h0 : Heap) (n0 : Nat) (v : Option Value) (h : Heap) (L : List Loc) : Prop := v = none ∧ Fr n0 L ∧ Keep h0 h [a1] ∧ ∃ b k, Fld Z h a1 "java/lang/String" "value" "[B" (.ref b) ∧ Fld Z h a1 "java/lang/String" "coder" "B" (.int (0 : Int32)) ∧ Arv Z h b k .byte (2 : Int32) [(.int (nar .byte (c0.toInt8.toInt32))), (.int (nar .byte (c1.toInt8.toInt32)))] (.int (0 : Int32))
set_option maxRecDepth 65536 in
set_option maxHeartbeats 40000000 in
theorem own_cc2 (l : Launch) {Z : State} {a0 : Array Value} (hw : own_W Z a0) (ws : List Jvm.Cond) (a1 a2 : Addr) (cs : Int32) (k1 : ClassId) (c0 c1 : Int32) (h0 : Heap) (n0 : Nat) (Z0 : n0 ≤ h0.size) (hc0 : own_ch c0) (hc1 : own_ch c1) (Scs : Sta Z h0 "java/lang/String" "COMPACT_STRINGS" "Z" (.int cs)) (hcs : ¬ cs = 0) (g_a1 : n0 ≤ a1) (Ea : Exa Z h0 a1 "java/lang/String") (Fv : Fld Z h0 a1 "java/lang/String" "value" "[B" .null) (Fc : Fld Z h0 a1 "java/lang/String" "coder" "B" (.int (0 : Int32))) (V1 : Arv Z h0 a2 k1 .char (2 : Int32) [(.int c0), (.int c1)] (.int (0 : Int32))) :
    MetFree l (⟨"java/lang/String", "<init>", "([C)V"⟩ : MethodName) (head1 (Jvm.Cond.code (⟨"java/lang/String", "<init>", "([C)V"⟩ : MethodName) jdk_42_method_3_code 2 none :: ws) ({ frames := 3, cells := 1, slots := 2, locals := 57 } : Room)) (fun a U => a = #[(.ref a1), (.ref a2)] ∧ Z.Warmed39 U.vm ∧ U.heap = h0) (fun _ _ _ _ _ => True) (fun _ U o U' => ∃ v L, o = .returned v ∧ own_cc2_Q Z a1 a2 cs k1 c0 c1 h0 n0 v U'.heap L ∧ FrameEnd U o U' L ({ frames := 3, cells := 1, slots := 2, locals := 57 } : Room).cells ({ frames := 3, cells := 1, slots := 2, locals := 57 } : Room).slots) := by
  refine own_enter (C := ({ frames := 3, cells := 1, slots := 2, locals := 57 } : Room).cells) (S := ({ frames := 3, cells := 1, slots := 2, locals := 57 } : Room).slots) (plainFor_of_name own_pn2) ?_
  intro p e s m below meth c T0 X0 I e0
  obtain ⟨hx, hby, hml, hown, hnm, hret, hlk, hZ⟩ := I
  have N0 := Fr.nil n0
  have O0 := own_extr h0
  refine own_cast (own_ef2 m a1 a2) ?_
  show own_Go _ _ _ _ T0 (mkF m 0 #[.val (.ref a1), .val (.ref a2)] [])
  have K0 := Keep.refl h0 [a1]
  refine own_st (fun _ k => XS.aloadN X0.here hx rfl (hb hby own_d2_0) rfl rfl k) ?_
  show own_Go _ _ _ _ T0 (mkF m 1 #[.val (.ref a1), .val (.ref a2)] [(.ref a1)])
  refine own_st (fun _ k => XS.aloadN X0.here hx rfl (hb hby own_d2_1) rfl rfl k) ?_
  show own_Go _ _ _ _ T0 (mkF m 2 #[.val (.ref a1), .val (.ref a2)] [(.ref a2), (.ref a1)])
  refine own_st (fun _ k => XS.iconst X0.here hx rfl (hb hby own_d2_2) k) ?_
  show own_Go _ _ _ _ T0 (mkF m 3 #[.val (.ref a1), .val (.ref a2)] [(.int (0 : Int32)), (.ref a2), (.ref a1)])
  refine own_st (fun _ k => XS.aloadN X0.here hx rfl (hb hby own_d2_3) rfl rfl k) ?_
  show own_Go _ _ _ _ T0 (mkF m 4 #[.val (.ref a1), .val (.ref a2)] [(.ref a2), (.int (0 : Int32)), (.ref a2), (.ref a1)])
  refine own_st (own_len X0 hx hZ e0 V1 (g := (mkF m 4 #[.val (.ref a1), .val (.ref a2)] [(.ref a2), (.int (0 : Int32)), (.ref a2), (.ref a1)])) rfl rfl (hb hby own_d2_4)) ?_
  show own_Go _ _ _ _ T0 (mkF m 5 #[.val (.ref a1), .val (.ref a2)] [(.int (2 : Int32)), (.int (0 : Int32)), (.ref a2), (.ref a1)])
  refine own_st (fun _ k => XS.aconstNull X0.here hx rfl (hb hby own_d2_5) k) ?_
  show own_Go _ _ _ _ T0 (mkF m 6 #[.val (.ref a1), .val (.ref a2)] [.null, (.int (2 : Int32)), (.int (0 : Int32)), (.ref a2), (.ref a1)])
  obtain ⟨v1, T1, L1, hQ1, X1, st1⟩ := own_callI X0 hx hZ (y := (⟨"java/lang/String", "<init>", "([CIILjava/lang/Void;)V"⟩ : MethodName)) rfl hown (own_w11 hw) (own_w12 hw) (own_w6 hw) (own_w14 hw) (by decide) (own_vd2 l hw [] a1 a2 (0 : Int32) (2 : Int32) cs k1 c0 c1 h0 n0 Z0 rfl rfl hc0 hc1 Scs hcs g_a1 Ea Fv Fc V1) e0 (g := (mkF m 6 #[.val (.ref a1), .val (.ref a2)] [.null, (.int (2 : Int32)), (.int (0 : Int32)), (.ref a2), (.ref a1)])) rfl (by rw [hml]; rfl) (argsL := [(.ref a2), (.int (0 : Int32)), (.int (2 : Int32)), .null]) (rest := []) (lenOf own_pd6 rfl) rfl rfl (W := 0) (Nat.le_of_eq rfl) (hb hby own_d2_6) (by decide) (by decide) (by decide) (by decide)
  obtain ⟨rfl, N1, K1, b, kb, Gv, Gc, Vb⟩ := hQ1
  have N1' := Fr.app N0 N1
  refine own_st st1 ?_
  show own_Go _ _ _ _ T1 (mkF m 9 #[.val (.ref a1), .val (.ref a2)] [])
  exact own_retV X1 hx hret hlk (hb hby own_d2_9) ⟨rfl, N1', K1, b, kb, Gv, Gc, Vb⟩ (by decide) (by decide)
def own_cp3_Q (Z : State) (a1 a2 : Addr) (p1 p2 p3 : Int32) (k1 k2 : ClassId) (c0 c1 c2 : Int32) (h0 : Heap) (n0 : Nat) (v : Option Value) (h : Heap) (L : List Loc) : Prop := v = some (.int (3 : Int32)) ∧ Fr n0 L ∧ Keep h0 h [a2] ∧ Arv Z h a2 k2 .byte (3 : Int32) [(.int (nar .byte (c0.toInt8.toInt32))), (.int (nar .byte (c1.toInt8.toInt32))), (.int (nar .byte (c2.toInt8.toInt32)))] (.int (0 : Int32))
set_option maxRecDepth 65536 in
set_option maxHeartbeats 40000000 in
theorem own_cp3 (l : Launch) {Z : State} {a0 : Array Value} (hw : own_W Z a0) (ws : List Jvm.Cond) (a1 a2 : Addr) (p1 p2 p3 : Int32) (k1 k2 : ClassId) (c0 c1 c2 : Int32) (h0 : Heap) (n0 : Nat) (Z0 : n0 ≤ h0.size) (hp1 : p1 = 0) (hp2 : p2 = 0) (hp3 : p3 = (3 : Int32)) (hc0 : own_ch c0) (hc1 : own_ch c1) (hc2 : own_ch c2) (n12 : a1 ≠ a2) (g_a2 : n0 ≤ a2) (V1 : Arv Z h0 a1 k1 .char (3 : Int32) [(.int c0), (.int c1), (.int c2)] (.int (0 : Int32))) (V2 : Arv Z h0 a2 k2 .byte (3 : Int32) [(.int (0 : Int32)), (.int (0 : Int32)), (.int (0 : Int32))] (.int (0 : Int32))) :
    MetFree l (⟨"java/lang/StringUTF16", "compress", "([CI[BII)I"⟩ : MethodName) (head1 (Jvm.Cond.code (⟨"java/lang/StringUTF16", "compress", "([CI[BII)I"⟩ : MethodName) jdk_52_method_21_code 7 (some .int) :: ws) ({ frames := 0, cells := 0, slots := 0, locals := 0 } : Room)) (fun a U => a = #[(.ref a1), (.int p1), (.ref a2), (.int p2), (.int p3)] ∧ Z.Warmed39 U.vm ∧ U.heap = h0) (fun _ _ _ _ _ => True) (fun _ U o U' => ∃ v L, o = .returned v ∧ own_cp3_Q Z a1 a2 p1 p2 p3 k1 k2 c0 c1 c2 h0 n0 v U'.heap L ∧ FrameEnd U o U' L ({ frames := 0, cells := 0, slots := 0, locals := 0 } : Room).cells ({ frames := 0, cells := 0, slots := 0, locals := 0 } : Room).slots) := by
  refine own_enter (C := ({ frames := 0, cells := 0, slots := 0, locals := 0 } : Room).cells) (S := ({ frames := 0, cells := 0, slots := 0, locals := 0 } : Room).slots) (plainFor_of_name own_pn3) ?_
  intro p e s m below meth c T0 X0 I e0
  obtain ⟨hx, hby, hml, hown, hnm, hret, hlk, hZ⟩ := I
  have N0 := Fr.nil n0
  have O0 := own_extr h0
  refine own_cast (own_ef11 m a1 p1 a2 p2 p3) ?_
  show own_Go _ _ _ _ T0 (mkF m 0 #[.val (.ref a1), .val (.int p1), .val (.ref a2), .val (.int p2), .val (.int p3), .unset, .unset] [])
  rw [hp1, hp2, hp3]
  show own_Go _ _ _ _ T0 (mkF m 0 #[.val (.ref a1), .val (.int (0 : Int32)), .val (.ref a2), .val (.int (0 : Int32)), .val (.int (3 : Int32)), .unset, .unset] [])
  have K0 := Keep.refl h0 [a2]
  refine own_st (fun _ k => XS.iconst X0.here hx rfl (hb hby own_d11_0) k) ?_
  show own_Go _ _ _ _ T0 (mkF m 1 #[.val (.ref a1), .val (.int (0 : Int32)), .val (.ref a2), .val (.int (0 : Int32)), .val (.int (3 : Int32)), .unset, .unset] [(.int (0 : Int32))])
  refine own_st (fun _ k => XS.istore X0.here hx rfl (hb hby own_d11_1) rfl (l' := #[.val (.ref a1), .val (.int (0 : Int32)), .val (.ref a2), .val (.int (0 : Int32)), .val (.int (3 : Int32)), .val (.int (0 : Int32)), .unset]) rfl k) ?_
  show own_Go _ _ _ _ T0 (mkF m 3 #[.val (.ref a1), .val (.int (0 : Int32)), .val (.ref a2), .val (.int (0 : Int32)), .val (.int (3 : Int32)), .val (.int (0 : Int32)), .unset] [])
  refine own_st (fun _ k => XS.iload X0.here hx rfl (hb hby own_d11_3) rfl k) ?_
  show own_Go _ _ _ _ T0 (mkF m 5 #[.val (.ref a1), .val (.int (0 : Int32)), .val (.ref a2), .val (.int (0 : Int32)), .val (.int (3 : Int32)), .val (.int (0 : Int32)), .unset] [(.int (0 : Int32))])
  refine own_st (fun _ k => XS.iload X0.here hx rfl (hb hby own_d11_5) rfl k) ?_
  show own_Go _ _ _ _ T0 (mkF m 7 #[.val (.ref a1), .val (.int (0 : Int32)), .val (.ref a2), .val (.int (0 : Int32)), .val (.int (3 : Int32)), .val (.int (0 : Int32)), .unset] [(.int (3 : Int32)), (.int (0 : Int32))])
  refine own_st (fun _ k => XS.icmpNo X0.here hx rfl (hb hby own_d11_7) rfl (tlt (by decide : (0 : Int32) < (3 : Int32))).2.1 k) ?_
  show own_Go _ _ _ _ T0 (mkF m 10 #[.val (.ref a1), .val (.int (0 : Int32)), .val (.ref a2), .val (.int (0 : Int32)), .val (.int (3 : Int32)), .val (.int (0 : Int32)), .unset] [])
  refine own_st (fun _ k => XS.aloadN X0.here hx rfl (hb hby own_d11_10) rfl rfl k) ?_
  show own_Go _ _ _ _ T0 (mkF m 11 #[.val (.ref a1), .val (.int (0 : Int32)), .val (.ref a2), .val (.int (0 : Int32)), .val (.int (3 : Int32)), .val (.int (0 : Int32)), .unset] [(.ref a1)])
  refine own_st (fun _ k => XS.iloadN X0.here hx rfl (hb hby own_d11_11) rfl k) ?_
  show own_Go _ _ _ _ T0 (mkF m 12 #[.val (.ref a1), .val (.int (0 : Int32)), .val (.ref a2), .val (.int (0 : Int32)), .val (.int (3 : Int32)), .val (.int (0 : Int32)), .unset] [(.int (0 : Int32)), (.ref a1)])
  refine own_st (own_ldC X0 hx hZ e0 V1 (j := (0 : Int32)) (by decide) (v := (.int c0)) rfl (g := (mkF m 12 #[.val (.ref a1), .val (.int (0 : Int32)), .val (.ref a2), .val (.int (0 : Int32)), .val (.int (3 : Int32)), .val (.int (0 : Int32)), .unset] [(.int (0 : Int32)), (.ref a1)])) rfl rfl (hb hby own_d11_12)) ?_
  show own_Go _ _ _ _ T0 (mkF m 13 #[.val (.ref a1), .val (.int (0 : Int32)), .val (.ref a2), .val (.int (0 : Int32)), .val (.int (3 : Int32)), .val (.int (0 : Int32)), .unset] [(.int c0)])
  refine own_st (fun _ k => XS.istore X0.here hx rfl (hb hby own_d11_13) rfl (l' := #[.val (.ref a1), .val (.int (0 : Int32)), .val (.ref a2), .val (.int (0 : Int32)), .val (.int (3 : Int32)), .val (.int (0 : Int32)), .val (.int c0)]) rfl k) ?_
  show own_Go _ _ _ _ T0 (mkF m 15 #[.val (.ref a1), .val (.int (0 : Int32)), .val (.ref a2), .val (.int (0 : Int32)), .val (.int (3 : Int32)), .val (.int (0 : Int32)), .val (.int c0)] [])
  refine own_st (fun _ k => XS.iload X0.here hx rfl (hb hby own_d11_15) rfl k) ?_
  show own_Go _ _ _ _ T0 (mkF m 17 #[.val (.ref a1), .val (.int (0 : Int32)), .val (.ref a2), .val (.int (0 : Int32)), .val (.int (3 : Int32)), .val (.int (0 : Int32)), .val (.int c0)] [(.int c0)])
  refine own_st (fun _ k => XS.sipush X0.here hx rfl (hb hby own_d11_17) k) ?_
  show own_Go _ _ _ _ T0 (mkF m 20 #[.val (.ref a1), .val (.int (0 : Int32)), .val (.ref a2), .val (.int (0 : Int32)), .val (.int (3 : Int32)), .val (.int (0 : Int32)), .val (.int c0)] [(.int (255 : Int32)), (.int c0)])
  refine own_st (fun _ k => XS.icmpYes X0.here hx rfl (pc0 := 20) (pc' := 26) rfl (hb hby own_d11_20) rfl (flt (own_le255 hc0 : ¬ ((255 : Int32) < c0))).2.2.2 (by decide) (by decide) k) ?_
  show own_Go _ _ _ _ T0 (mkF m 26 #[.val (.ref a1), .val (.int (0 : Int32)), .val (.ref a2), .val (.int (0 : Int32)), .val (.int (3 : Int32)), .val (.int (0 : Int32)), .val (.int c0)] [])
  refine own_st (fun _ k => XS.aloadN X0.here hx rfl (hb hby own_d11_26) rfl rfl k) ?_
  show own_Go _ _ _ _ T0 (mkF m 27 #[.val (.ref a1), .val (.int (0 : Int32)), .val (.ref a2), .val (.int (0 : Int32)), .val (.int (3 : Int32)), .val (.int (0 : Int32)), .val (.int c0)] [(.ref a2)])
  refine own_st (fun _ k => XS.iloadN X0.here hx rfl (hb hby own_d11_27) rfl k) ?_
  show own_Go _ _ _ _ T0 (mkF m 28 #[.val (.ref a1), .val (.int (0 : Int32)), .val (.ref a2), .val (.int (0 : Int32)), .val (.int (3 : Int32)), .val (.int (0 : Int32)), .val (.int c0)] [(.int (0 : Int32)), (.ref a2)])
  refine own_st (fun _ k => XS.iload X0.here hx rfl (hb hby own_d11_28) rfl k) ?_
  show own_Go _ _ _ _ T0 (mkF m 30 #[.val (.ref a1), .val (.int (0 : Int32)), .val (.ref a2), .val (.int (0 : Int32)), .val (.int (3 : Int32)), .val (.int (0 : Int32)), .val (.int c0)] [(.int c0), (.int (0 : Int32)), (.ref a2)])
  refine own_st (fun _ k => XS.i2b X0.here hx rfl (hb hby own_d11_30) rfl k) ?_
  show own_Go _ _ _ _ T0 (mkF m 31 #[.val (.ref a1), .val (.int (0 : Int32)), .val (.ref a2), .val (.int (0 : Int32)), .val (.int (3 : Int32)), .val (.int (0 : Int32)), .val (.int c0)] [(.int (c0.toInt8.toInt32)), (.int (0 : Int32)), (.ref a2)])
  obtain ⟨T1, hp1, X1, e1, W1, Va1, st1⟩ := own_stB X0 hx hZ e0 V2 (by decide) 0 (by decide) (Nat.le_of_ble_eq_true rfl) (g := (mkF m 31 #[.val (.ref a1), .val (.int (0 : Int32)), .val (.ref a2), .val (.int (0 : Int32)), .val (.int (3 : Int32)), .val (.int (0 : Int32)), .val (.int c0)] [(.int (c0.toInt8.toInt32)), (.int (0 : Int32)), (.ref a2)])) rfl rfl (hb hby own_d11_31)
  have K1 := Keep.wr K0 W1 (Or.inl (List.mem_of_getElem? (i := 0) rfl))
  have V_a1_1 := V1.other W1 n12
  have Va1 : Arv Z hp1 a2 k2 .byte (3 : Int32) [(.int (nar .byte (c0.toInt8.toInt32))), (.int (0 : Int32)), (.int (0 : Int32))] (.int (0 : Int32)) := Va1
  have N1 := Fr.snoc X1 N0 g_a2
  refine own_st st1 ?_
  show own_Go _ _ _ _ T1 (mkF m 32 #[.val (.ref a1), .val (.int (0 : Int32)), .val (.ref a2), .val (.int (0 : Int32)), .val (.int (3 : Int32)), .val (.int (0 : Int32)), .val (.int c0)] [])
  refine own_st (fun _ k => XS.iinc X1.here hx rfl (hb hby own_d11_32) rfl (l' := #[.val (.ref a1), .val (.int ((0 : Int32) + (1 : Int32))), .val (.ref a2), .val (.int (0 : Int32)), .val (.int (3 : Int32)), .val (.int (0 : Int32)), .val (.int c0)]) rfl k) ?_
  show own_Go _ _ _ _ T1 (mkF m 35 #[.val (.ref a1), .val (.int ((0 : Int32) + (1 : Int32))), .val (.ref a2), .val (.int (0 : Int32)), .val (.int (3 : Int32)), .val (.int (0 : Int32)), .val (.int c0)] [])
  rw [show ((0 : Int32) + (1 : Int32)) = (1 : Int32) from by decide]
  show own_Go _ _ _ _ T1 (mkF m 35 #[.val (.ref a1), .val (.int (1 : Int32)), .val (.ref a2), .val (.int (0 : Int32)), .val (.int (3 : Int32)), .val (.int (0 : Int32)), .val (.int c0)] [])
  refine own_st (fun _ k => XS.iinc X1.here hx rfl (hb hby own_d11_35) rfl (l' := #[.val (.ref a1), .val (.int (1 : Int32)), .val (.ref a2), .val (.int ((0 : Int32) + (1 : Int32))), .val (.int (3 : Int32)), .val (.int (0 : Int32)), .val (.int c0)]) rfl k) ?_
  show own_Go _ _ _ _ T1 (mkF m 38 #[.val (.ref a1), .val (.int (1 : Int32)), .val (.ref a2), .val (.int ((0 : Int32) + (1 : Int32))), .val (.int (3 : Int32)), .val (.int (0 : Int32)), .val (.int c0)] [])
  rw [show ((0 : Int32) + (1 : Int32)) = (1 : Int32) from by decide]
  show own_Go _ _ _ _ T1 (mkF m 38 #[.val (.ref a1), .val (.int (1 : Int32)), .val (.ref a2), .val (.int (1 : Int32)), .val (.int (3 : Int32)), .val (.int (0 : Int32)), .val (.int c0)] [])
  refine own_st (fun _ k => XS.iinc X1.here hx rfl (hb hby own_d11_38) rfl (l' := #[.val (.ref a1), .val (.int (1 : Int32)), .val (.ref a2), .val (.int (1 : Int32)), .val (.int (3 : Int32)), .val (.int ((0 : Int32) + (1 : Int32))), .val (.int c0)]) rfl k) ?_
  show own_Go _ _ _ _ T1 (mkF m 41 #[.val (.ref a1), .val (.int (1 : Int32)), .val (.ref a2), .val (.int (1 : Int32)), .val (.int (3 : Int32)), .val (.int ((0 : Int32) + (1 : Int32))), .val (.int c0)] [])
  rw [show ((0 : Int32) + (1 : Int32)) = (1 : Int32) from by decide]
  show own_Go _ _ _ _ T1 (mkF m 41 #[.val (.ref a1), .val (.int (1 : Int32)), .val (.ref a2), .val (.int (1 : Int32)), .val (.int (3 : Int32)), .val (.int (1 : Int32)), .val (.int c0)] [])
  refine own_st (fun _ k => XS.goto X1.here hx rfl (pc0 := 41) (pc' := 3) rfl (hb hby own_d11_41) (by decide) (by decide) k) ?_
  show own_Go _ _ _ _ T1 (mkF m 3 #[.val (.ref a1), .val (.int (1 : Int32)), .val (.ref a2), .val (.int (1 : Int32)), .val (.int (3 : Int32)), .val (.int (1 : Int32)), .val (.int c0)] [])
  refine own_st (fun _ k => XS.iload X1.here hx rfl (hb hby own_d11_3) rfl k) ?_
  show own_Go _ _ _ _ T1 (mkF m 5 #[.val (.ref a1), .val (.int (1 : Int32)), .val (.ref a2), .val (.int (1 : Int32)), .val (.int (3 : Int32)), .val (.int (1 : Int32)), .val (.int c0)] [(.int (1 : Int32))])
  refine own_st (fun _ k => XS.iload X1.here hx rfl (hb hby own_d11_5) rfl k) ?_
  show own_Go _ _ _ _ T1 (mkF m 7 #[.val (.ref a1), .val (.int (1 : Int32)), .val (.ref a2), .val (.int (1 : Int32)), .val (.int (3 : Int32)), .val (.int (1 : Int32)), .val (.int c0)] [(.int (3 : Int32)), (.int (1 : Int32))])
  refine own_st (fun _ k => XS.icmpNo X1.here hx rfl (hb hby own_d11_7) rfl (tlt (by decide : (1 : Int32) < (3 : Int32))).2.1 k) ?_
  show own_Go _ _ _ _ T1 (mkF m 10 #[.val (.ref a1), .val (.int (1 : Int32)), .val (.ref a2), .val (.int (1 : Int32)), .val (.int (3 : Int32)), .val (.int (1 : Int32)), .val (.int c0)] [])
  refine own_st (fun _ k => XS.aloadN X1.here hx rfl (hb hby own_d11_10) rfl rfl k) ?_
  show own_Go _ _ _ _ T1 (mkF m 11 #[.val (.ref a1), .val (.int (1 : Int32)), .val (.ref a2), .val (.int (1 : Int32)), .val (.int (3 : Int32)), .val (.int (1 : Int32)), .val (.int c0)] [(.ref a1)])
  refine own_st (fun _ k => XS.iloadN X1.here hx rfl (hb hby own_d11_11) rfl k) ?_
  show own_Go _ _ _ _ T1 (mkF m 12 #[.val (.ref a1), .val (.int (1 : Int32)), .val (.ref a2), .val (.int (1 : Int32)), .val (.int (3 : Int32)), .val (.int (1 : Int32)), .val (.int c0)] [(.int (1 : Int32)), (.ref a1)])
  refine own_st (own_ldC X1 hx hZ e1 V_a1_1 (j := (1 : Int32)) (by decide) (v := (.int c1)) rfl (g := (mkF m 12 #[.val (.ref a1), .val (.int (1 : Int32)), .val (.ref a2), .val (.int (1 : Int32)), .val (.int (3 : Int32)), .val (.int (1 : Int32)), .val (.int c0)] [(.int (1 : Int32)), (.ref a1)])) rfl rfl (hb hby own_d11_12)) ?_
  show own_Go _ _ _ _ T1 (mkF m 13 #[.val (.ref a1), .val (.int (1 : Int32)), .val (.ref a2), .val (.int (1 : Int32)), .val (.int (3 : Int32)), .val (.int (1 : Int32)), .val (.int c0)] [(.int c1)])
  refine own_st (fun _ k => XS.istore X1.here hx rfl (hb hby own_d11_13) rfl (l' := #[.val (.ref a1), .val (.int (1 : Int32)), .val (.ref a2), .val (.int (1 : Int32)), .val (.int (3 : Int32)), .val (.int (1 : Int32)), .val (.int c1)]) rfl k) ?_
  show own_Go _ _ _ _ T1 (mkF m 15 #[.val (.ref a1), .val (.int (1 : Int32)), .val (.ref a2), .val (.int (1 : Int32)), .val (.int (3 : Int32)), .val (.int (1 : Int32)), .val (.int c1)] [])
  refine own_st (fun _ k => XS.iload X1.here hx rfl (hb hby own_d11_15) rfl k) ?_
  show own_Go _ _ _ _ T1 (mkF m 17 #[.val (.ref a1), .val (.int (1 : Int32)), .val (.ref a2), .val (.int (1 : Int32)), .val (.int (3 : Int32)), .val (.int (1 : Int32)), .val (.int c1)] [(.int c1)])
  refine own_st (fun _ k => XS.sipush X1.here hx rfl (hb hby own_d11_17) k) ?_
  show own_Go _ _ _ _ T1 (mkF m 20 #[.val (.ref a1), .val (.int (1 : Int32)), .val (.ref a2), .val (.int (1 : Int32)), .val (.int (3 : Int32)), .val (.int (1 : Int32)), .val (.int c1)] [(.int (255 : Int32)), (.int c1)])
  refine own_st (fun _ k => XS.icmpYes X1.here hx rfl (pc0 := 20) (pc' := 26) rfl (hb hby own_d11_20) rfl (flt (own_le255 hc1 : ¬ ((255 : Int32) < c1))).2.2.2 (by decide) (by decide) k) ?_
  show own_Go _ _ _ _ T1 (mkF m 26 #[.val (.ref a1), .val (.int (1 : Int32)), .val (.ref a2), .val (.int (1 : Int32)), .val (.int (3 : Int32)), .val (.int (1 : Int32)), .val (.int c1)] [])
  refine own_st (fun _ k => XS.aloadN X1.here hx rfl (hb hby own_d11_26) rfl rfl k) ?_
  show own_Go _ _ _ _ T1 (mkF m 27 #[.val (.ref a1), .val (.int (1 : Int32)), .val (.ref a2), .val (.int (1 : Int32)), .val (.int (3 : Int32)), .val (.int (1 : Int32)), .val (.int c1)] [(.ref a2)])
  refine own_st (fun _ k => XS.iloadN X1.here hx rfl (hb hby own_d11_27) rfl k) ?_
  show own_Go _ _ _ _ T1 (mkF m 28 #[.val (.ref a1), .val (.int (1 : Int32)), .val (.ref a2), .val (.int (1 : Int32)), .val (.int (3 : Int32)), .val (.int (1 : Int32)), .val (.int c1)] [(.int (1 : Int32)), (.ref a2)])
  refine own_st (fun _ k => XS.iload X1.here hx rfl (hb hby own_d11_28) rfl k) ?_
  show own_Go _ _ _ _ T1 (mkF m 30 #[.val (.ref a1), .val (.int (1 : Int32)), .val (.ref a2), .val (.int (1 : Int32)), .val (.int (3 : Int32)), .val (.int (1 : Int32)), .val (.int c1)] [(.int c1), (.int (1 : Int32)), (.ref a2)])
  refine own_st (fun _ k => XS.i2b X1.here hx rfl (hb hby own_d11_30) rfl k) ?_
  show own_Go _ _ _ _ T1 (mkF m 31 #[.val (.ref a1), .val (.int (1 : Int32)), .val (.ref a2), .val (.int (1 : Int32)), .val (.int (3 : Int32)), .val (.int (1 : Int32)), .val (.int c1)] [(.int (c1.toInt8.toInt32)), (.int (1 : Int32)), (.ref a2)])
  obtain ⟨T2, hp2, X2, e2, W2, Va2, st2⟩ := own_stB X1 hx hZ e1 Va1 (by decide) 1 (by decide) (Nat.le_of_ble_eq_true rfl) (g := (mkF m 31 #[.val (.ref a1), .val (.int (1 : Int32)), .val (.ref a2), .val (.int (1 : Int32)), .val (.int (3 : Int32)), .val (.int (1 : Int32)), .val (.int c1)] [(.int (c1.toInt8.toInt32)), (.int (1 : Int32)), (.ref a2)])) rfl rfl (hb hby own_d11_31)
  have K2 := Keep.wr K1 W2 (Or.inl (List.mem_of_getElem? (i := 0) rfl))
  have V_a1_2 := V_a1_1.other W2 n12
  have Va2 : Arv Z hp2 a2 k2 .byte (3 : Int32) [(.int (nar .byte (c0.toInt8.toInt32))), (.int (nar .byte (c1.toInt8.toInt32))), (.int (0 : Int32))] (.int (0 : Int32)) := Va2
  have N2 := Fr.snoc X2 N1 g_a2
  refine own_st st2 ?_
  show own_Go _ _ _ _ T2 (mkF m 32 #[.val (.ref a1), .val (.int (1 : Int32)), .val (.ref a2), .val (.int (1 : Int32)), .val (.int (3 : Int32)), .val (.int (1 : Int32)), .val (.int c1)] [])
  refine own_st (fun _ k => XS.iinc X2.here hx rfl (hb hby own_d11_32) rfl (l' := #[.val (.ref a1), .val (.int ((1 : Int32) + (1 : Int32))), .val (.ref a2), .val (.int (1 : Int32)), .val (.int (3 : Int32)), .val (.int (1 : Int32)), .val (.int c1)]) rfl k) ?_
  show own_Go _ _ _ _ T2 (mkF m 35 #[.val (.ref a1), .val (.int ((1 : Int32) + (1 : Int32))), .val (.ref a2), .val (.int (1 : Int32)), .val (.int (3 : Int32)), .val (.int (1 : Int32)), .val (.int c1)] [])
  rw [show ((1 : Int32) + (1 : Int32)) = (2 : Int32) from by decide]
  show own_Go _ _ _ _ T2 (mkF m 35 #[.val (.ref a1), .val (.int (2 : Int32)), .val (.ref a2), .val (.int (1 : Int32)), .val (.int (3 : Int32)), .val (.int (1 : Int32)), .val (.int c1)] [])
  refine own_st (fun _ k => XS.iinc X2.here hx rfl (hb hby own_d11_35) rfl (l' := #[.val (.ref a1), .val (.int (2 : Int32)), .val (.ref a2), .val (.int ((1 : Int32) + (1 : Int32))), .val (.int (3 : Int32)), .val (.int (1 : Int32)), .val (.int c1)]) rfl k) ?_
  show own_Go _ _ _ _ T2 (mkF m 38 #[.val (.ref a1), .val (.int (2 : Int32)), .val (.ref a2), .val (.int ((1 : Int32) + (1 : Int32))), .val (.int (3 : Int32)), .val (.int (1 : Int32)), .val (.int c1)] [])
  rw [show ((1 : Int32) + (1 : Int32)) = (2 : Int32) from by decide]
  show own_Go _ _ _ _ T2 (mkF m 38 #[.val (.ref a1), .val (.int (2 : Int32)), .val (.ref a2), .val (.int (2 : Int32)), .val (.int (3 : Int32)), .val (.int (1 : Int32)), .val (.int c1)] [])
  refine own_st (fun _ k => XS.iinc X2.here hx rfl (hb hby own_d11_38) rfl (l' := #[.val (.ref a1), .val (.int (2 : Int32)), .val (.ref a2), .val (.int (2 : Int32)), .val (.int (3 : Int32)), .val (.int ((1 : Int32) + (1 : Int32))), .val (.int c1)]) rfl k) ?_
  show own_Go _ _ _ _ T2 (mkF m 41 #[.val (.ref a1), .val (.int (2 : Int32)), .val (.ref a2), .val (.int (2 : Int32)), .val (.int (3 : Int32)), .val (.int ((1 : Int32) + (1 : Int32))), .val (.int c1)] [])
  rw [show ((1 : Int32) + (1 : Int32)) = (2 : Int32) from by decide]
  show own_Go _ _ _ _ T2 (mkF m 41 #[.val (.ref a1), .val (.int (2 : Int32)), .val (.ref a2), .val (.int (2 : Int32)), .val (.int (3 : Int32)), .val (.int (2 : Int32)), .val (.int c1)] [])
  refine own_st (fun _ k => XS.goto X2.here hx rfl (pc0 := 41) (pc' := 3) rfl (hb hby own_d11_41) (by decide) (by decide) k) ?_
  show own_Go _ _ _ _ T2 (mkF m 3 #[.val (.ref a1), .val (.int (2 : Int32)), .val (.ref a2), .val (.int (2 : Int32)), .val (.int (3 : Int32)), .val (.int (2 : Int32)), .val (.int c1)] [])
  refine own_st (fun _ k => XS.iload X2.here hx rfl (hb hby own_d11_3) rfl k) ?_
  show own_Go _ _ _ _ T2 (mkF m 5 #[.val (.ref a1), .val (.int (2 : Int32)), .val (.ref a2), .val (.int (2 : Int32)), .val (.int (3 : Int32)), .val (.int (2 : Int32)), .val (.int c1)] [(.int (2 : Int32))])
  refine own_st (fun _ k => XS.iload X2.here hx rfl (hb hby own_d11_5) rfl k) ?_
  show own_Go _ _ _ _ T2 (mkF m 7 #[.val (.ref a1), .val (.int (2 : Int32)), .val (.ref a2), .val (.int (2 : Int32)), .val (.int (3 : Int32)), .val (.int (2 : Int32)), .val (.int c1)] [(.int (3 : Int32)), (.int (2 : Int32))])
  refine own_st (fun _ k => XS.icmpNo X2.here hx rfl (hb hby own_d11_7) rfl (tlt (by decide : (2 : Int32) < (3 : Int32))).2.1 k) ?_
  show own_Go _ _ _ _ T2 (mkF m 10 #[.val (.ref a1), .val (.int (2 : Int32)), .val (.ref a2), .val (.int (2 : Int32)), .val (.int (3 : Int32)), .val (.int (2 : Int32)), .val (.int c1)] [])
  refine own_st (fun _ k => XS.aloadN X2.here hx rfl (hb hby own_d11_10) rfl rfl k) ?_
  show own_Go _ _ _ _ T2 (mkF m 11 #[.val (.ref a1), .val (.int (2 : Int32)), .val (.ref a2), .val (.int (2 : Int32)), .val (.int (3 : Int32)), .val (.int (2 : Int32)), .val (.int c1)] [(.ref a1)])
  refine own_st (fun _ k => XS.iloadN X2.here hx rfl (hb hby own_d11_11) rfl k) ?_
  show own_Go _ _ _ _ T2 (mkF m 12 #[.val (.ref a1), .val (.int (2 : Int32)), .val (.ref a2), .val (.int (2 : Int32)), .val (.int (3 : Int32)), .val (.int (2 : Int32)), .val (.int c1)] [(.int (2 : Int32)), (.ref a1)])
  refine own_st (own_ldC X2 hx hZ e2 V_a1_2 (j := (2 : Int32)) (by decide) (v := (.int c2)) rfl (g := (mkF m 12 #[.val (.ref a1), .val (.int (2 : Int32)), .val (.ref a2), .val (.int (2 : Int32)), .val (.int (3 : Int32)), .val (.int (2 : Int32)), .val (.int c1)] [(.int (2 : Int32)), (.ref a1)])) rfl rfl (hb hby own_d11_12)) ?_
  show own_Go _ _ _ _ T2 (mkF m 13 #[.val (.ref a1), .val (.int (2 : Int32)), .val (.ref a2), .val (.int (2 : Int32)), .val (.int (3 : Int32)), .val (.int (2 : Int32)), .val (.int c1)] [(.int c2)])
  refine own_st (fun _ k => XS.istore X2.here hx rfl (hb hby own_d11_13) rfl (l' := #[.val (.ref a1), .val (.int (2 : Int32)), .val (.ref a2), .val (.int (2 : Int32)), .val (.int (3 : Int32)), .val (.int (2 : Int32)), .val (.int c2)]) rfl k) ?_
  show own_Go _ _ _ _ T2 (mkF m 15 #[.val (.ref a1), .val (.int (2 : Int32)), .val (.ref a2), .val (.int (2 : Int32)), .val (.int (3 : Int32)), .val (.int (2 : Int32)), .val (.int c2)] [])
  refine own_st (fun _ k => XS.iload X2.here hx rfl (hb hby own_d11_15) rfl k) ?_
  show own_Go _ _ _ _ T2 (mkF m 17 #[.val (.ref a1), .val (.int (2 : Int32)), .val (.ref a2), .val (.int (2 : Int32)), .val (.int (3 : Int32)), .val (.int (2 : Int32)), .val (.int c2)] [(.int c2)])
  refine own_st (fun _ k => XS.sipush X2.here hx rfl (hb hby own_d11_17) k) ?_
  show own_Go _ _ _ _ T2 (mkF m 20 #[.val (.ref a1), .val (.int (2 : Int32)), .val (.ref a2), .val (.int (2 : Int32)), .val (.int (3 : Int32)), .val (.int (2 : Int32)), .val (.int c2)] [(.int (255 : Int32)), (.int c2)])
  refine own_st (fun _ k => XS.icmpYes X2.here hx rfl (pc0 := 20) (pc' := 26) rfl (hb hby own_d11_20) rfl (flt (own_le255 hc2 : ¬ ((255 : Int32) < c2))).2.2.2 (by decide) (by decide) k) ?_
  show own_Go _ _ _ _ T2 (mkF m 26 #[.val (.ref a1), .val (.int (2 : Int32)), .val (.ref a2), .val (.int (2 : Int32)), .val (.int (3 : Int32)), .val (.int (2 : Int32)), .val (.int c2)] [])
  refine own_st (fun _ k => XS.aloadN X2.here hx rfl (hb hby own_d11_26) rfl rfl k) ?_
  show own_Go _ _ _ _ T2 (mkF m 27 #[.val (.ref a1), .val (.int (2 : Int32)), .val (.ref a2), .val (.int (2 : Int32)), .val (.int (3 : Int32)), .val (.int (2 : Int32)), .val (.int c2)] [(.ref a2)])
  refine own_st (fun _ k => XS.iloadN X2.here hx rfl (hb hby own_d11_27) rfl k) ?_
  show own_Go _ _ _ _ T2 (mkF m 28 #[.val (.ref a1), .val (.int (2 : Int32)), .val (.ref a2), .val (.int (2 : Int32)), .val (.int (3 : Int32)), .val (.int (2 : Int32)), .val (.int c2)] [(.int (2 : Int32)), (.ref a2)])
  refine own_st (fun _ k => XS.iload X2.here hx rfl (hb hby own_d11_28) rfl k) ?_
  show own_Go _ _ _ _ T2 (mkF m 30 #[.val (.ref a1), .val (.int (2 : Int32)), .val (.ref a2), .val (.int (2 : Int32)), .val (.int (3 : Int32)), .val (.int (2 : Int32)), .val (.int c2)] [(.int c2), (.int (2 : Int32)), (.ref a2)])
  refine own_st (fun _ k => XS.i2b X2.here hx rfl (hb hby own_d11_30) rfl k) ?_
  show own_Go _ _ _ _ T2 (mkF m 31 #[.val (.ref a1), .val (.int (2 : Int32)), .val (.ref a2), .val (.int (2 : Int32)), .val (.int (3 : Int32)), .val (.int (2 : Int32)), .val (.int c2)] [(.int (c2.toInt8.toInt32)), (.int (2 : Int32)), (.ref a2)])
  obtain ⟨T3, hp3, X3, e3, W3, Va3, st3⟩ := own_stB X2 hx hZ e2 Va2 (by decide) 2 (by decide) (Nat.le_of_ble_eq_true rfl) (g := (mkF m 31 #[.val (.ref a1), .val (.int (2 : Int32)), .val (.ref a2), .val (.int (2 : Int32)), .val (.int (3 : Int32)), .val (.int (2 : Int32)), .val (.int c2)] [(.int (c2.toInt8.toInt32)), (.int (2 : Int32)), (.ref a2)])) rfl rfl (hb hby own_d11_31)
  have K3 := Keep.wr K2 W3 (Or.inl (List.mem_of_getElem? (i := 0) rfl))
  have V_a1_3 := V_a1_2.other W3 n12
  have Va3 : Arv Z hp3 a2 k2 .byte (3 : Int32) [(.int (nar .byte (c0.toInt8.toInt32))), (.int (nar .byte (c1.toInt8.toInt32))), (.int (nar .byte (c2.toInt8.toInt32)))] (.int (0 : Int32)) := Va3
  have N3 := Fr.snoc X3 N2 g_a2
  refine own_st st3 ?_
  show own_Go _ _ _ _ T3 (mkF m 32 #[.val (.ref a1), .val (.int (2 : Int32)), .val (.ref a2), .val (.int (2 : Int32)), .val (.int (3 : Int32)), .val (.int (2 : Int32)), .val (.int c2)] [])
  refine own_st (fun _ k => XS.iinc X3.here hx rfl (hb hby own_d11_32) rfl (l' := #[.val (.ref a1), .val (.int ((2 : Int32) + (1 : Int32))), .val (.ref a2), .val (.int (2 : Int32)), .val (.int (3 : Int32)), .val (.int (2 : Int32)), .val (.int c2)]) rfl k) ?_
  show own_Go _ _ _ _ T3 (mkF m 35 #[.val (.ref a1), .val (.int ((2 : Int32) + (1 : Int32))), .val (.ref a2), .val (.int (2 : Int32)), .val (.int (3 : Int32)), .val (.int (2 : Int32)), .val (.int c2)] [])
  rw [show ((2 : Int32) + (1 : Int32)) = (3 : Int32) from by decide]
  show own_Go _ _ _ _ T3 (mkF m 35 #[.val (.ref a1), .val (.int (3 : Int32)), .val (.ref a2), .val (.int (2 : Int32)), .val (.int (3 : Int32)), .val (.int (2 : Int32)), .val (.int c2)] [])
  refine own_st (fun _ k => XS.iinc X3.here hx rfl (hb hby own_d11_35) rfl (l' := #[.val (.ref a1), .val (.int (3 : Int32)), .val (.ref a2), .val (.int ((2 : Int32) + (1 : Int32))), .val (.int (3 : Int32)), .val (.int (2 : Int32)), .val (.int c2)]) rfl k) ?_
  show own_Go _ _ _ _ T3 (mkF m 38 #[.val (.ref a1), .val (.int (3 : Int32)), .val (.ref a2), .val (.int ((2 : Int32) + (1 : Int32))), .val (.int (3 : Int32)), .val (.int (2 : Int32)), .val (.int c2)] [])
  rw [show ((2 : Int32) + (1 : Int32)) = (3 : Int32) from by decide]
  show own_Go _ _ _ _ T3 (mkF m 38 #[.val (.ref a1), .val (.int (3 : Int32)), .val (.ref a2), .val (.int (3 : Int32)), .val (.int (3 : Int32)), .val (.int (2 : Int32)), .val (.int c2)] [])
  refine own_st (fun _ k => XS.iinc X3.here hx rfl (hb hby own_d11_38) rfl (l' := #[.val (.ref a1), .val (.int (3 : Int32)), .val (.ref a2), .val (.int (3 : Int32)), .val (.int (3 : Int32)), .val (.int ((2 : Int32) + (1 : Int32))), .val (.int c2)]) rfl k) ?_
  show own_Go _ _ _ _ T3 (mkF m 41 #[.val (.ref a1), .val (.int (3 : Int32)), .val (.ref a2), .val (.int (3 : Int32)), .val (.int (3 : Int32)), .val (.int ((2 : Int32) + (1 : Int32))), .val (.int c2)] [])
  rw [show ((2 : Int32) + (1 : Int32)) = (3 : Int32) from by decide]
  show own_Go _ _ _ _ T3 (mkF m 41 #[.val (.ref a1), .val (.int (3 : Int32)), .val (.ref a2), .val (.int (3 : Int32)), .val (.int (3 : Int32)), .val (.int (3 : Int32)), .val (.int c2)] [])
  refine own_st (fun _ k => XS.goto X3.here hx rfl (pc0 := 41) (pc' := 3) rfl (hb hby own_d11_41) (by decide) (by decide) k) ?_
  show own_Go _ _ _ _ T3 (mkF m 3 #[.val (.ref a1), .val (.int (3 : Int32)), .val (.ref a2), .val (.int (3 : Int32)), .val (.int (3 : Int32)), .val (.int (3 : Int32)), .val (.int c2)] [])
  refine own_st (fun _ k => XS.iload X3.here hx rfl (hb hby own_d11_3) rfl k) ?_
  show own_Go _ _ _ _ T3 (mkF m 5 #[.val (.ref a1), .val (.int (3 : Int32)), .val (.ref a2), .val (.int (3 : Int32)), .val (.int (3 : Int32)), .val (.int (3 : Int32)), .val (.int c2)] [(.int (3 : Int32))])
  refine own_st (fun _ k => XS.iload X3.here hx rfl (hb hby own_d11_5) rfl k) ?_
  show own_Go _ _ _ _ T3 (mkF m 7 #[.val (.ref a1), .val (.int (3 : Int32)), .val (.ref a2), .val (.int (3 : Int32)), .val (.int (3 : Int32)), .val (.int (3 : Int32)), .val (.int c2)] [(.int (3 : Int32)), (.int (3 : Int32))])
  refine own_st (fun _ k => XS.icmpYes X3.here hx rfl (pc0 := 7) (pc' := 44) rfl (hb hby own_d11_7) rfl (flt (by decide : ¬ ((3 : Int32) < (3 : Int32)))).2.1 (by decide) (by decide) k) ?_
  show own_Go _ _ _ _ T3 (mkF m 44 #[.val (.ref a1), .val (.int (3 : Int32)), .val (.ref a2), .val (.int (3 : Int32)), .val (.int (3 : Int32)), .val (.int (3 : Int32)), .val (.int c2)] [])
  refine own_st (fun _ k => XS.iload X3.here hx rfl (hb hby own_d11_44) rfl k) ?_
  show own_Go _ _ _ _ T3 (mkF m 46 #[.val (.ref a1), .val (.int (3 : Int32)), .val (.ref a2), .val (.int (3 : Int32)), .val (.int (3 : Int32)), .val (.int (3 : Int32)), .val (.int c2)] [(.int (3 : Int32))])
  exact own_retI X3 hx hret hlk (hb hby own_d11_46) ⟨rfl, N3, by rw [e3]; exact K3, by rw [e3]; exact Va3⟩ (by decide) (by decide)
def own_cq3_Q (Z : State) (a1 : Addr) (p1 p2 : Int32) (k1 : ClassId) (c0 c1 c2 : Int32) (h0 : Heap) (n0 : Nat) (v : Option Value) (h : Heap) (L : List Loc) : Prop := ∃ b k, v = some (.ref b) ∧ Fr n0 L ∧ Ext h0 h ∧ n0 ≤ b ∧ h0.size ≤ b ∧ Arv Z h b k .byte (3 : Int32) [(.int (nar .byte (c0.toInt8.toInt32))), (.int (nar .byte (c1.toInt8.toInt32))), (.int (nar .byte (c2.toInt8.toInt32)))] (.int (0 : Int32))
set_option maxRecDepth 65536 in
set_option maxHeartbeats 40000000 in
theorem own_cq3 (l : Launch) {Z : State} {a0 : Array Value} (hw : own_W Z a0) (ws : List Jvm.Cond) (a1 : Addr) (p1 p2 : Int32) (k1 : ClassId) (c0 c1 c2 : Int32) (h0 : Heap) (n0 : Nat) (Z0 : n0 ≤ h0.size) (hp1 : p1 = 0) (hp2 : p2 = (3 : Int32)) (hc0 : own_ch c0) (hc1 : own_ch c1) (hc2 : own_ch c2) (V1 : Arv Z h0 a1 k1 .char (3 : Int32) [(.int c0), (.int c1), (.int c2)] (.int (0 : Int32))) :
    MetFree l (⟨"java/lang/StringUTF16", "compress", "([CII)[B"⟩ : MethodName) (head1 (Jvm.Cond.code (⟨"java/lang/StringUTF16", "compress", "([CII)[B"⟩ : MethodName) jdk_52_method_16_code 6 (some (.array .byte)) :: ws) ({ frames := 1, cells := 1, slots := 3, locals := 18 } : Room)) (fun a U => a = #[(.ref a1), (.int p1), (.int p2)] ∧ Z.Warmed39 U.vm ∧ U.heap = h0) (fun _ _ _ _ _ => True) (fun _ U o U' => ∃ v L, o = .returned v ∧ own_cq3_Q Z a1 p1 p2 k1 c0 c1 c2 h0 n0 v U'.heap L ∧ FrameEnd U o U' L ({ frames := 1, cells := 1, slots := 3, locals := 18 } : Room).cells ({ frames := 1, cells := 1, slots := 3, locals := 18 } : Room).slots) := by
  refine own_enter (C := ({ frames := 1, cells := 1, slots := 3, locals := 18 } : Room).cells) (S := ({ frames := 1, cells := 1, slots := 3, locals := 18 } : Room).slots) (plainFor_of_name own_pn3) ?_
  intro p e s m below meth c T0 X0 I e0
  obtain ⟨hx, hby, hml, hown, hnm, hret, hlk, hZ⟩ := I
  have N0 := Fr.nil n0
  have O0 := own_extr h0
  refine own_cast (own_ef10 m a1 p1 p2) ?_
  show own_Go _ _ _ _ T0 (mkF m 0 #[.val (.ref a1), .val (.int p1), .val (.int p2), .unset, .unset, .unset] [])
  rw [hp1, hp2]
  show own_Go _ _ _ _ T0 (mkF m 0 #[.val (.ref a1), .val (.int (0 : Int32)), .val (.int (3 : Int32)), .unset, .unset, .unset] [])
  refine own_st (fun _ k => XS.iloadN X0.here hx rfl (hb hby own_d10_0) rfl k) ?_
  show own_Go _ _ _ _ T0 (mkF m 1 #[.val (.ref a1), .val (.int (0 : Int32)), .val (.int (3 : Int32)), .unset, .unset, .unset] [(.int (3 : Int32))])
  obtain ⟨T1, hp1, kk1, X1, e1, Et1, A1, st1⟩ := newP X0 hx hZ (aty := .byte) (own_w19 hw) e0 (g := (mkF m 1 #[.val (.ref a1), .val (.int (0 : Int32)), .val (.int (3 : Int32)), .unset, .unset, .unset] [(.int (3 : Int32))])) rfl (hb hby own_d10_1) rfl (by decide) (cap := 3) (by decide) (by decide) (by decide) (by decide)
  obtain ⟨b1, g1⟩ : ∃ z, z = h0.size := ⟨_, rfl⟩
  rw [← g1] at A1 st1
  have s_b1 : h0.size ≤ b1 := Nat.le_trans O0.1 (Nat.le_of_eq g1.symm)
  have g_b1 : n0 ≤ b1 := Nat.le_trans Z0 s_b1
  have O1 := own_extt O0 Et1
  have Va1 : Arv Z hp1 b1 kk1 .byte (3 : Int32) [(.int (0 : Int32)), (.int (0 : Int32)), (.int (0 : Int32))] (.int (0 : Int32)) := (Arv.new A1 (by decide)).pad (pad_rep [] (.int (0 : Int32)) 3)
  refine own_st st1 ?_
  show own_Go _ _ _ _ T1 (mkF m 3 #[.val (.ref a1), .val (.int (0 : Int32)), .val (.int (3 : Int32)), .unset, .unset, .unset] [(.ref b1)])
  refine own_st (fun _ k => XS.astoreN X1.here hx rfl (hb hby own_d10_3) rfl rfl (l' := #[.val (.ref a1), .val (.int (0 : Int32)), .val (.int (3 : Int32)), .val (.ref b1), .unset, .unset]) rfl k) ?_
  show own_Go _ _ _ _ T1 (mkF m 4 #[.val (.ref a1), .val (.int (0 : Int32)), .val (.int (3 : Int32)), .val (.ref b1), .unset, .unset] [])
  refine own_st (fun _ k => XS.aloadN X1.here hx rfl (hb hby own_d10_4) rfl rfl k) ?_
  show own_Go _ _ _ _ T1 (mkF m 5 #[.val (.ref a1), .val (.int (0 : Int32)), .val (.int (3 : Int32)), .val (.ref b1), .unset, .unset] [(.ref a1)])
  refine own_st (fun _ k => XS.iloadN X1.here hx rfl (hb hby own_d10_5) rfl k) ?_
  show own_Go _ _ _ _ T1 (mkF m 6 #[.val (.ref a1), .val (.int (0 : Int32)), .val (.int (3 : Int32)), .val (.ref b1), .unset, .unset] [(.int (0 : Int32)), (.ref a1)])
  refine own_st (fun _ k => XS.aloadN X1.here hx rfl (hb hby own_d10_6) rfl rfl k) ?_
  show own_Go _ _ _ _ T1 (mkF m 7 #[.val (.ref a1), .val (.int (0 : Int32)), .val (.int (3 : Int32)), .val (.ref b1), .unset, .unset] [(.ref b1), (.int (0 : Int32)), (.ref a1)])
  refine own_st (fun _ k => XS.iconst X1.here hx rfl (hb hby own_d10_7) k) ?_
  show own_Go _ _ _ _ T1 (mkF m 8 #[.val (.ref a1), .val (.int (0 : Int32)), .val (.int (3 : Int32)), .val (.ref b1), .unset, .unset] [(.int (0 : Int32)), (.ref b1), (.int (0 : Int32)), (.ref a1)])
  refine own_st (fun _ k => XS.iloadN X1.here hx rfl (hb hby own_d10_8) rfl k) ?_
  show own_Go _ _ _ _ T1 (mkF m 9 #[.val (.ref a1), .val (.int (0 : Int32)), .val (.int (3 : Int32)), .val (.ref b1), .unset, .unset] [(.int (3 : Int32)), (.int (0 : Int32)), (.ref b1), (.int (0 : Int32)), (.ref a1)])
  obtain ⟨v2, T2, L2, hQ2, X2, st2⟩ := own_callS X1 hx hZ (y := (⟨"java/lang/StringUTF16", "compress", "([CI[BII)I"⟩ : MethodName)) hown (own_w71 hw) (own_w72 hw) (own_w69 hw) (own_w73 hw) (by decide) (own_cp3 l hw [] a1 b1 (0 : Int32) (0 : Int32) (3 : Int32) k1 kk1 c0 c1 c2 hp1 n0 (Nat.le_trans Z0 O1.1) rfl rfl rfl hc0 hc1 hc2 (Nat.ne_of_lt (Nat.lt_of_lt_of_le V1.lt s_b1)) g_b1 (V1.ext O1) Va1) e1 (g := (mkF m 9 #[.val (.ref a1), .val (.int (0 : Int32)), .val (.int (3 : Int32)), .val (.ref b1), .unset, .unset] [(.int (3 : Int32)), (.int (0 : Int32)), (.ref b1), (.int (0 : Int32)), (.ref a1)])) rfl (by rw [hml]; rfl) (argsL := [(.ref a1), (.int (0 : Int32)), (.ref b1), (.int (0 : Int32)), (.int (3 : Int32))]) (rest := []) (lenOf own_pd3 rfl) rfl rfl (W := 0) (Nat.le_of_eq rfl) (hb hby own_d10_9) (by decide) (by decide) (by decide) (by decide)
  obtain ⟨rfl, N2, K2, Vb2⟩ := hQ2
  have O2 : Ext h0 T2.heap := ⟨Nat.le_trans O1.1 K2.1, fun x c r => K2.2.1 x c (O1.2 x c r) (fun z => by
    have q := (Array.getElem?_eq_some_iff.mp r).1
    simp only [List.mem_cons, List.not_mem_nil, or_false] at z
    rcases z with rfl
    exact absurd q (Nat.not_lt.mpr s_b1))⟩
  have N2' := Fr.app N0 N2
  refine own_st st2 ?_
  show own_Go _ _ _ _ T2 (mkF m 12 #[.val (.ref a1), .val (.int (0 : Int32)), .val (.int (3 : Int32)), .val (.ref b1), .unset, .unset] [(.int (3 : Int32))])
  refine own_st (fun _ k => XS.istore X2.here hx rfl (hb hby own_d10_12) rfl (l' := #[.val (.ref a1), .val (.int (0 : Int32)), .val (.int (3 : Int32)), .val (.ref b1), .val (.int (3 : Int32)), .unset]) rfl k) ?_
  show own_Go _ _ _ _ T2 (mkF m 14 #[.val (.ref a1), .val (.int (0 : Int32)), .val (.int (3 : Int32)), .val (.ref b1), .val (.int (3 : Int32)), .unset] [])
  refine own_st (fun _ k => XS.iload X2.here hx rfl (hb hby own_d10_14) rfl k) ?_
  show own_Go _ _ _ _ T2 (mkF m 16 #[.val (.ref a1), .val (.int (0 : Int32)), .val (.int (3 : Int32)), .val (.ref b1), .val (.int (3 : Int32)), .unset] [(.int (3 : Int32))])
  refine own_st (fun _ k => XS.iloadN X2.here hx rfl (hb hby own_d10_16) rfl k) ?_
  show own_Go _ _ _ _ T2 (mkF m 17 #[.val (.ref a1), .val (.int (0 : Int32)), .val (.int (3 : Int32)), .val (.ref b1), .val (.int (3 : Int32)), .unset] [(.int (3 : Int32)), (.int (3 : Int32))])
  refine own_st (fun _ k => XS.icmpYes X2.here hx rfl (pc0 := 17) (pc' := 57) rfl (hb hby own_d10_17) rfl (teq (by decide : (3 : Int32) = (3 : Int32))).1 (by decide) (by decide) k) ?_
  show own_Go _ _ _ _ T2 (mkF m 57 #[.val (.ref a1), .val (.int (0 : Int32)), .val (.int (3 : Int32)), .val (.ref b1), .val (.int (3 : Int32)), .unset] [])
  refine own_st (fun _ k => XS.aloadN X2.here hx rfl (hb hby own_d10_57) rfl rfl k) ?_
  show own_Go _ _ _ _ T2 (mkF m 58 #[.val (.ref a1), .val (.int (0 : Int32)), .val (.int (3 : Int32)), .val (.ref b1), .val (.int (3 : Int32)), .unset] [(.ref b1)])
  exact own_retA X2 hx hret rfl hlk rfl (hb hby own_d10_58) ⟨b1, _, rfl, N2', O2, g_b1, s_b1, Vb2⟩ (by decide) (by decide)
def own_cd3_Q (Z : State) (a1 : Addr) (p1 : Int32) (k1 : ClassId) (c0 c1 c2 : Int32) (h0 : Heap) (n0 : Nat) (v : Option Value) (h : Heap) (L : List Loc) : Prop := v = some (.int 0) ∧ Fr n0 L ∧ h = h0
set_option maxRecDepth 65536 in
set_option maxHeartbeats 40000000 in
theorem own_cd3 (l : Launch) {Z : State} {a0 : Array Value} (hw : own_W Z a0) (ws : List Jvm.Cond) (a1 : Addr) (p1 : Int32) (k1 : ClassId) (c0 c1 c2 : Int32) (h0 : Heap) (n0 : Nat) (Z0 : n0 ≤ h0.size) (hp1 : p1 = (3 : Int32)) (V1 : Arv Z h0 a1 k1 .byte (3 : Int32) [(.int (nar .byte (c0.toInt8.toInt32))), (.int (nar .byte (c1.toInt8.toInt32))), (.int (nar .byte (c2.toInt8.toInt32)))] (.int (0 : Int32))) :
    MetFree l (⟨"java/lang/StringUTF16", "coderFromArrayLen", "([BI)B"⟩ : MethodName) (head1 (Jvm.Cond.code (⟨"java/lang/StringUTF16", "coderFromArrayLen", "([BI)B"⟩ : MethodName) jdk_52_method_15_code 2 (some .byte) :: ws) ({ frames := 0, cells := 0, slots := 0, locals := 0 } : Room)) (fun a U => a = #[(.ref a1), (.int p1)] ∧ Z.Warmed39 U.vm ∧ U.heap = h0) (fun _ _ _ _ _ => True) (fun _ U o U' => ∃ v L, o = .returned v ∧ own_cd3_Q Z a1 p1 k1 c0 c1 c2 h0 n0 v U'.heap L ∧ FrameEnd U o U' L ({ frames := 0, cells := 0, slots := 0, locals := 0 } : Room).cells ({ frames := 0, cells := 0, slots := 0, locals := 0 } : Room).slots) := by
  refine own_enter (C := ({ frames := 0, cells := 0, slots := 0, locals := 0 } : Room).cells) (S := ({ frames := 0, cells := 0, slots := 0, locals := 0 } : Room).slots) (plainFor_of_name own_pn3) ?_
  intro p e s m below meth c T0 X0 I e0
  obtain ⟨hx, hby, hml, hown, hnm, hret, hlk, hZ⟩ := I
  have N0 := Fr.nil n0
  have O0 := own_extr h0
  refine own_cast (own_ef12 m a1 p1) ?_
  show own_Go _ _ _ _ T0 (mkF m 0 #[.val (.ref a1), .val (.int p1)] [])
  rw [hp1]
  show own_Go _ _ _ _ T0 (mkF m 0 #[.val (.ref a1), .val (.int (3 : Int32))] [])
  refine own_st (fun _ k => XS.iloadN X0.here hx rfl (hb hby own_d12_0) rfl k) ?_
  show own_Go _ _ _ _ T0 (mkF m 1 #[.val (.ref a1), .val (.int (3 : Int32))] [(.int (3 : Int32))])
  refine own_st (fun _ k => XS.aloadN X0.here hx rfl (hb hby own_d12_1) rfl rfl k) ?_
  show own_Go _ _ _ _ T0 (mkF m 2 #[.val (.ref a1), .val (.int (3 : Int32))] [(.ref a1), (.int (3 : Int32))])
  refine own_st (own_len X0 hx hZ e0 (V1.ext O0) (g := (mkF m 2 #[.val (.ref a1), .val (.int (3 : Int32))] [(.ref a1), (.int (3 : Int32))])) rfl rfl (hb hby own_d12_2)) ?_
  show own_Go _ _ _ _ T0 (mkF m 3 #[.val (.ref a1), .val (.int (3 : Int32))] [(.int (3 : Int32)), (.int (3 : Int32))])
  refine own_st (fun _ k => XS.isub X0.here hx rfl (hb hby own_d12_3) rfl k) ?_
  show own_Go _ _ _ _ T0 (mkF m 4 #[.val (.ref a1), .val (.int (3 : Int32))] [(.int ((3 : Int32) - (3 : Int32)))])
  rw [show ((3 : Int32) - (3 : Int32)) = (0 : Int32) from by decide]
  show own_Go _ _ _ _ T0 (mkF m 4 #[.val (.ref a1), .val (.int (3 : Int32))] [(.int (0 : Int32))])
  refine own_st (fun _ k => XS.bipush X0.here hx rfl (hb hby own_d12_4) k) ?_
  show own_Go _ _ _ _ T0 (mkF m 6 #[.val (.ref a1), .val (.int (3 : Int32))] [(.int (31 : Int32)), (.int (0 : Int32))])
  refine own_st (fun _ k => XS.iushr X0.here hx rfl (hb hby own_d12_6) rfl k) ?_
  show own_Go _ _ _ _ T0 (mkF m 7 #[.val (.ref a1), .val (.int (3 : Int32))] [(.int (((0 : Int32).toUInt32 >>> ((31 : Int32) &&& 31).toUInt32).toInt32))])
  rw [show (((0 : Int32).toUInt32 >>> ((31 : Int32) &&& 31).toUInt32).toInt32) = (0 : Int32) from by decide]
  show own_Go _ _ _ _ T0 (mkF m 7 #[.val (.ref a1), .val (.int (3 : Int32))] [(.int (0 : Int32))])
  refine own_st (fun _ k => XS.i2b X0.here hx rfl (hb hby own_d12_7) rfl k) ?_
  show own_Go _ _ _ _ T0 (mkF m 8 #[.val (.ref a1), .val (.int (3 : Int32))] [(.int ((0 : Int32).toInt8.toInt32))])
  rw [show ((0 : Int32).toInt8.toInt32) = (0 : Int32) from by decide]
  show own_Go _ _ _ _ T0 (mkF m 8 #[.val (.ref a1), .val (.int (3 : Int32))] [(.int (0 : Int32))])
  exact own_retN X0 hx hret (by simp) hlk (hb hby own_d12_8) ⟨rfl, N0, e0⟩ (by decide) (by decide)
def own_vd3_Q (Z : State) (a1 a2 : Addr) (p1 p2 cs : Int32) (k1 : ClassId) (c0 c1 c2 : Int32) (h0 : Heap) (n0 : Nat) (v : Option Value) (h : Heap) (L : List Loc) : Prop := v = none ∧ Fr n0 L ∧ Keep h0 h [a1] ∧ ∃ b k, Fld Z h a1 "java/lang/String" "value" "[B" (.ref b) ∧ Fld Z h a1 "java/lang/String" "coder" "B" (.int (0 : Int32)) ∧ Arv Z h b k .byte (3 : Int32) [(.int (nar .byte (c0.toInt8.toInt32))), (.int (nar .byte (c1.toInt8.toInt32))), (.int (nar .byte (c2.toInt8.toInt32)))] (.int (0 : Int32))
set_option maxRecDepth 65536 in
set_option maxHeartbeats 40000000 in
theorem own_vd3 (l : Launch) {Z : State} {a0 : Array Value} (hw : own_W Z a0) (ws : List Jvm.Cond) (a1 a2 : Addr) (p1 p2 cs : Int32) (k1 : ClassId) (c0 c1 c2 : Int32) (h0 : Heap) (n0 : Nat) (Z0 : n0 ≤ h0.size) (hp1 : p1 = 0) (hp2 : p2 = (3 : Int32)) (hc0 : own_ch c0) (hc1 : own_ch c1) (hc2 : own_ch c2) (Scs : Sta Z h0 "java/lang/String" "COMPACT_STRINGS" "Z" (.int cs)) (hcs : ¬ cs = 0) (g_a1 : n0 ≤ a1) (Ea : Exa Z h0 a1 "java/lang/String") (Fv : Fld Z h0 a1 "java/lang/String" "value" "[B" .null) (Fc : Fld Z h0 a1 "java/lang/String" "coder" "B" (.int (0 : Int32))) (V1 : Arv Z h0 a2 k1 .char (3 : Int32) [(.int c0), (.int c1), (.int c2)] (.int (0 : Int32))) :
    MetFree l (⟨"java/lang/String", "<init>", "([CIILjava/lang/Void;)V"⟩ : MethodName) (head1 (Jvm.Cond.code (⟨"java/lang/String", "<init>", "([CIILjava/lang/Void;)V"⟩ : MethodName) jdk_42_method_149_code 6 none :: ws) ({ frames := 2, cells := 1, slots := 3, locals := 40 } : Room)) (fun a U => a = #[(.ref a1), (.ref a2), (.int p1), (.int p2), .null] ∧ Z.Warmed39 U.vm ∧ U.heap = h0) (fun _ _ _ _ _ => True) (fun _ U o U' => ∃ v L, o = .returned v ∧ own_vd3_Q Z a1 a2 p1 p2 cs k1 c0 c1 c2 h0 n0 v U'.heap L ∧ FrameEnd U o U' L ({ frames := 2, cells := 1, slots := 3, locals := 40 } : Room).cells ({ frames := 2, cells := 1, slots := 3, locals := 40 } : Room).slots) := by
  refine own_enter (C := ({ frames := 2, cells := 1, slots := 3, locals := 40 } : Room).cells) (S := ({ frames := 2, cells := 1, slots := 3, locals := 40 } : Room).slots) (plainFor_of_name own_pn2) ?_
  intro p e s m below meth c T0 X0 I e0
  obtain ⟨hx, hby, hml, hown, hnm, hret, hlk, hZ⟩ := I
  have N0 := Fr.nil n0
  have O0 := own_extr h0
  refine own_cast (own_ef3n m a1 a2 p1 p2) ?_
  show own_Go _ _ _ _ T0 (mkF m 0 #[.val (.ref a1), .val (.ref a2), .val (.int p1), .val (.int p2), .val .null, .unset] [])
  rw [hp1, hp2]
  show own_Go _ _ _ _ T0 (mkF m 0 #[.val (.ref a1), .val (.ref a2), .val (.int (0 : Int32)), .val (.int (3 : Int32)), .val .null, .unset] [])
  have K0 := Keep.refl h0 [a1]
  refine own_st (fun _ k => XS.aloadN X0.here hx rfl (hb hby own_d3_0) rfl rfl k) ?_
  show own_Go _ _ _ _ T0 (mkF m 1 #[.val (.ref a1), .val (.ref a2), .val (.int (0 : Int32)), .val (.int (3 : Int32)), .val .null, .unset] [(.ref a1)])
  obtain ⟨T1, X1, e1, st1⟩ := initO X0 hx hZ hown (own_w15 hw) (own_w16 hw) (own_w17 hw) e0 (g := (mkF m 1 #[.val (.ref a1), .val (.ref a2), .val (.int (0 : Int32)), .val (.int (3 : Int32)), .val .null, .unset] [(.ref a1)])) rfl (by rw [hml]; rfl) rfl (hb hby own_d3_1) (by decide) (W := 0) (Nat.le_of_eq rfl) (by decide)
  refine own_st st1 ?_
  show own_Go _ _ _ _ T1 (mkF m 4 #[.val (.ref a1), .val (.ref a2), .val (.int (0 : Int32)), .val (.int (3 : Int32)), .val .null, .unset] [])
  refine own_st (fun _ k => XS.iloadN X1.here hx rfl (hb hby own_d3_4) rfl k) ?_
  show own_Go _ _ _ _ T1 (mkF m 5 #[.val (.ref a1), .val (.ref a2), .val (.int (0 : Int32)), .val (.int (3 : Int32)), .val .null, .unset] [(.int (3 : Int32))])
  refine own_st (fun _ k => XS.ifYes X1.here hx rfl (pc0 := 5) (pc' := 27) rfl (hb hby own_d3_5) rfl ((if0 _ _).trans (feq (by decide : ¬ ((3 : Int32) = (0 : Int32)))).2) (by decide) (by decide) k) ?_
  show own_Go _ _ _ _ T1 (mkF m 27 #[.val (.ref a1), .val (.ref a2), .val (.int (0 : Int32)), .val (.int (3 : Int32)), .val .null, .unset] [])
  obtain ⟨T2, X2, e2, st2⟩ := getS2 X1 hx hZ hown (host := "") (Or.inl (own_w62 hw)) Via.refl e1 Scs (g := (mkF m 27 #[.val (.ref a1), .val (.ref a2), .val (.int (0 : Int32)), .val (.int (3 : Int32)), .val .null, .unset] [])) rfl (hb hby own_d3_27)
  refine own_st st2 ?_
  show own_Go _ _ _ _ T2 (mkF m 30 #[.val (.ref a1), .val (.ref a2), .val (.int (0 : Int32)), .val (.int (3 : Int32)), .val .null, .unset] [(.int cs)])
  refine own_st (fun _ k => XS.ifNo X2.here hx rfl (hb hby own_d3_30) rfl ((if0 _ _).trans (feq (hcs : ¬ (cs = (0 : Int32)))).1) k) ?_
  show own_Go _ _ _ _ T2 (mkF m 33 #[.val (.ref a1), .val (.ref a2), .val (.int (0 : Int32)), .val (.int (3 : Int32)), .val .null, .unset] [])
  refine own_st (fun _ k => XS.aloadN X2.here hx rfl (hb hby own_d3_33) rfl rfl k) ?_
  show own_Go _ _ _ _ T2 (mkF m 34 #[.val (.ref a1), .val (.ref a2), .val (.int (0 : Int32)), .val (.int (3 : Int32)), .val .null, .unset] [(.ref a2)])
  refine own_st (fun _ k => XS.iloadN X2.here hx rfl (hb hby own_d3_34) rfl k) ?_
  show own_Go _ _ _ _ T2 (mkF m 35 #[.val (.ref a1), .val (.ref a2), .val (.int (0 : Int32)), .val (.int (3 : Int32)), .val .null, .unset] [(.int (0 : Int32)), (.ref a2)])
  refine own_st (fun _ k => XS.iloadN X2.here hx rfl (hb hby own_d3_35) rfl k) ?_
  show own_Go _ _ _ _ T2 (mkF m 36 #[.val (.ref a1), .val (.ref a2), .val (.int (0 : Int32)), .val (.int (3 : Int32)), .val .null, .unset] [(.int (3 : Int32)), (.int (0 : Int32)), (.ref a2)])
  obtain ⟨v3, T3, L3, hQ3, X3, st3⟩ := own_callS X2 hx hZ (y := (⟨"java/lang/StringUTF16", "compress", "([CII)[B"⟩ : MethodName)) hown (own_w67 hw) (own_w68 hw) (own_w69 hw) (own_w70 hw) (by decide) (own_cq3 l hw [] a2 (0 : Int32) (3 : Int32) k1 c0 c1 c2 h0 n0 Z0 rfl rfl hc0 hc1 hc2 V1) e2 (g := (mkF m 36 #[.val (.ref a1), .val (.ref a2), .val (.int (0 : Int32)), .val (.int (3 : Int32)), .val .null, .unset] [(.int (3 : Int32)), (.int (0 : Int32)), (.ref a2)])) rfl (by rw [hml]; rfl) (argsL := [(.ref a2), (.int (0 : Int32)), (.int (3 : Int32))]) (rest := []) (lenOf own_pd4 rfl) rfl rfl (W := 0) (Nat.le_of_eq rfl) (hb hby own_d3_36) (by decide) (by decide) (by decide) (by decide)
  obtain ⟨b, kb, rfl, N3, Et3, gb, sb, Vb⟩ := hQ3
  have nab : a1 ≠ b := Nat.ne_of_lt (Nat.lt_of_lt_of_le Ea.lt sb)
  have K3x := Keep.ext K0 Et3
  have Scs_3 := Scs.ext Et3
  have Ex_a1_3 := Ea.ext Et3
  have F_value_a1_3 := Fv.ext Et3
  have F_coder_a1_3 := Fc.ext Et3
  have N3' := Fr.app N0 N3
  refine own_st st3 ?_
  show own_Go _ _ _ _ T3 (mkF m 39 #[.val (.ref a1), .val (.ref a2), .val (.int (0 : Int32)), .val (.int (3 : Int32)), .val .null, .unset] [(.ref b)])
  refine own_st (fun _ k => XS.astore X3.here hx rfl (hb hby own_d3_39) rfl rfl (l' := #[.val (.ref a1), .val (.ref a2), .val (.int (0 : Int32)), .val (.int (3 : Int32)), .val .null, .val (.ref b)]) rfl k) ?_
  show own_Go _ _ _ _ T3 (mkF m 41 #[.val (.ref a1), .val (.ref a2), .val (.int (0 : Int32)), .val (.int (3 : Int32)), .val .null, .val (.ref b)] [])
  refine own_st (fun _ k => XS.aloadN X3.here hx rfl (hb hby own_d3_41) rfl rfl k) ?_
  show own_Go _ _ _ _ T3 (mkF m 42 #[.val (.ref a1), .val (.ref a2), .val (.int (0 : Int32)), .val (.int (3 : Int32)), .val .null, .val (.ref b)] [(.ref a1)])
  refine own_st (fun _ k => XS.aload X3.here hx rfl (hb hby own_d3_42) rfl rfl k) ?_
  show own_Go _ _ _ _ T3 (mkF m 44 #[.val (.ref a1), .val (.ref a2), .val (.int (0 : Int32)), .val (.int (3 : Int32)), .val .null, .val (.ref b)] [(.ref b), (.ref a1)])
  refine own_st (fun _ k => XS.iloadN X3.here hx rfl (hb hby own_d3_44) rfl k) ?_
  show own_Go _ _ _ _ T3 (mkF m 45 #[.val (.ref a1), .val (.ref a2), .val (.int (0 : Int32)), .val (.int (3 : Int32)), .val .null, .val (.ref b)] [(.int (3 : Int32)), (.ref b), (.ref a1)])
  obtain ⟨v4, T4, L4, hQ4, X4, st4⟩ := own_callS X3 hx hZ (y := (⟨"java/lang/StringUTF16", "coderFromArrayLen", "([BI)B"⟩ : MethodName)) hown (own_w74 hw) (own_w75 hw) (own_w69 hw) (own_w76 hw) (by decide) (own_cd3 l hw [] b (3 : Int32) kb c0 c1 c2 T3.heap n0 (Nat.le_trans Z0 Et3.1) rfl Vb) rfl (g := (mkF m 45 #[.val (.ref a1), .val (.ref a2), .val (.int (0 : Int32)), .val (.int (3 : Int32)), .val .null, .val (.ref b)] [(.int (3 : Int32)), (.ref b), (.ref a1)])) rfl (by rw [hml]; rfl) (argsL := [(.ref b), (.int (3 : Int32))]) (rest := [(.ref a1)]) (lenOf own_pd5 rfl) rfl rfl (W := 1) (Nat.le_of_eq rfl) (hb hby own_d3_45) (by decide) (by decide) (by decide) (by decide)
  obtain ⟨rfl, N4, e4⟩ := hQ4
  have N4' := Fr.app N3' N4
  refine own_st st4 ?_
  show own_Go _ _ _ _ T4 (mkF m 48 #[.val (.ref a1), .val (.ref a2), .val (.int (0 : Int32)), .val (.int (3 : Int32)), .val .null, .val (.ref b)] [(.int (0 : Int32)), (.ref a1)])
  obtain ⟨T5, hp5, X5, e5, W5, st5⟩ := putFN X4 hx hZ hown (own_w25 hw) Via.refl e4 F_coder_a1_3 Ex_a1_3 (Or.inr ⟨(own_w21 hw), rfl, hnm⟩) (own_w5 hw) (ty := .byte) (v' := (.int (0 : Int32))) (by decide) rfl (by decide) (g := (mkF m 48 #[.val (.ref a1), .val (.ref a2), .val (.int (0 : Int32)), .val (.int (3 : Int32)), .val .null, .val (.ref b)] [(.int (0 : Int32)), (.ref a1)])) rfl rfl (hb hby own_d3_48)
  have K5 := Keep.wr K3x W5 (Or.inl (List.mem_of_getElem? (i := 0) rfl))
  have Scs_5 := Scs_3.wr W5
  have V_b_5 := Vb.other W5 (Ne.symm nab)
  have Ex_a1_5 := Ex_a1_3.wr W5
  have F_value_a1_5 := F_value_a1_3.other W5 (Or.inr (slot_ne (Or.inr (own_w20 hw)) (Or.inr (own_w21 hw)) (by decide) (t := (.array .byte)) (t' := .byte) (by decide) (by decide)))
  have F_coder_a1_5 := F_coder_a1_3.same W5
  have N5 := Fr.snoc X5 N4' g_a1
  refine own_st st5 ?_
  show own_Go _ _ _ _ T5 (mkF m 51 #[.val (.ref a1), .val (.ref a2), .val (.int (0 : Int32)), .val (.int (3 : Int32)), .val .null, .val (.ref b)] [])
  refine own_st (fun _ k => XS.aloadN X5.here hx rfl (hb hby own_d3_51) rfl rfl k) ?_
  show own_Go _ _ _ _ T5 (mkF m 52 #[.val (.ref a1), .val (.ref a2), .val (.int (0 : Int32)), .val (.int (3 : Int32)), .val .null, .val (.ref b)] [(.ref a1)])
  refine own_st (fun _ k => XS.aload X5.here hx rfl (hb hby own_d3_52) rfl rfl k) ?_
  show own_Go _ _ _ _ T5 (mkF m 54 #[.val (.ref a1), .val (.ref a2), .val (.int (0 : Int32)), .val (.int (3 : Int32)), .val .null, .val (.ref b)] [(.ref b), (.ref a1)])
  obtain ⟨T6, hp6, X6, e6, W6, st6⟩ := putF X5 hx hZ hown (host := "") (Or.inl (own_w24 hw)) Via.refl e5 F_value_a1_5 Ex_a1_5 (Or.inr ⟨(own_w20 hw), rfl, hnm⟩) (own_w5 hw) (ty := (.array .byte)) (by decide) rfl rfl (g := (mkF m 54 #[.val (.ref a1), .val (.ref a2), .val (.int (0 : Int32)), .val (.int (3 : Int32)), .val .null, .val (.ref b)] [(.ref b), (.ref a1)])) rfl rfl (hb hby own_d3_54)
  have K6 := Keep.wr K5 W6 (Or.inl (List.mem_of_getElem? (i := 0) rfl))
  have Scs_6 := Scs_5.wr W6
  have V_b_6 := V_b_5.other W6 (Ne.symm nab)
  have Ex_a1_6 := Ex_a1_5.wr W6
  have F_coder_a1_6 := F_coder_a1_5.other W6 (Or.inr (slot_ne (Or.inr (own_w21 hw)) (Or.inr (own_w20 hw)) (by decide) (t := .byte) (t' := (.array .byte)) (by decide) (by decide)))
  have F_value_a1_6 := F_value_a1_5.same W6
  have N6 := Fr.snoc X6 N5 g_a1
  refine own_st st6 ?_
  show own_Go _ _ _ _ T6 (mkF m 57 #[.val (.ref a1), .val (.ref a2), .val (.int (0 : Int32)), .val (.int (3 : Int32)), .val .null, .val (.ref b)] [])
  exact own_retV X6 hx hret hlk (hb hby own_d3_57) ⟨rfl, N6, by rw [e6]; exact K6, b, kb, by rw [e6]; exact F_value_a1_6, by rw [e6]; exact F_coder_a1_6, by rw [e6]; exact V_b_6⟩ (by decide) (by decide)
def own_cc3_Q (Z : State) (a1 a2 : Addr) (cs : Int32) (k1 : ClassId) (c0 c1 c2 : Int32) (h0 : Heap) (n0 : Nat) (v : Option Value) (h : Heap) (L : List Loc) : Prop := v = none ∧ Fr n0 L ∧ Keep h0 h [a1] ∧ ∃ b k, Fld Z h a1 "java/lang/String" "value" "[B" (.ref b) ∧ Fld Z h a1 "java/lang/String" "coder" "B" (.int (0 : Int32)) ∧ Arv Z h b k .byte (3 : Int32) [(.int (nar .byte (c0.toInt8.toInt32))), (.int (nar .byte (c1.toInt8.toInt32))), (.int (nar .byte (c2.toInt8.toInt32)))] (.int (0 : Int32))
set_option maxRecDepth 65536 in
set_option maxHeartbeats 40000000 in
theorem own_cc3 (l : Launch) {Z : State} {a0 : Array Value} (hw : own_W Z a0) (ws : List Jvm.Cond) (a1 a2 : Addr) (cs : Int32) (k1 : ClassId) (c0 c1 c2 : Int32) (h0 : Heap) (n0 : Nat) (Z0 : n0 ≤ h0.size) (hc0 : own_ch c0) (hc1 : own_ch c1) (hc2 : own_ch c2) (Scs : Sta Z h0 "java/lang/String" "COMPACT_STRINGS" "Z" (.int cs)) (hcs : ¬ cs = 0) (g_a1 : n0 ≤ a1) (Ea : Exa Z h0 a1 "java/lang/String") (Fv : Fld Z h0 a1 "java/lang/String" "value" "[B" .null) (Fc : Fld Z h0 a1 "java/lang/String" "coder" "B" (.int (0 : Int32))) (V1 : Arv Z h0 a2 k1 .char (3 : Int32) [(.int c0), (.int c1), (.int c2)] (.int (0 : Int32))) :
    MetFree l (⟨"java/lang/String", "<init>", "([C)V"⟩ : MethodName) (head1 (Jvm.Cond.code (⟨"java/lang/String", "<init>", "([C)V"⟩ : MethodName) jdk_42_method_3_code 2 none :: ws) ({ frames := 3, cells := 1, slots := 3, locals := 57 } : Room)) (fun a U => a = #[(.ref a1), (.ref a2)] ∧ Z.Warmed39 U.vm ∧ U.heap = h0) (fun _ _ _ _ _ => True) (fun _ U o U' => ∃ v L, o = .returned v ∧ own_cc3_Q Z a1 a2 cs k1 c0 c1 c2 h0 n0 v U'.heap L ∧ FrameEnd U o U' L ({ frames := 3, cells := 1, slots := 3, locals := 57 } : Room).cells ({ frames := 3, cells := 1, slots := 3, locals := 57 } : Room).slots) := by
  refine own_enter (C := ({ frames := 3, cells := 1, slots := 3, locals := 57 } : Room).cells) (S := ({ frames := 3, cells := 1, slots := 3, locals := 57 } : Room).slots) (plainFor_of_name own_pn2) ?_
  intro p e s m below meth c T0 X0 I e0
  obtain ⟨hx, hby, hml, hown, hnm, hret, hlk, hZ⟩ := I
  have N0 := Fr.nil n0
  have O0 := own_extr h0
  refine own_cast (own_ef2 m a1 a2) ?_
  show own_Go _ _ _ _ T0 (mkF m 0 #[.val (.ref a1), .val (.ref a2)] [])
  have K0 := Keep.refl h0 [a1]
  refine own_st (fun _ k => XS.aloadN X0.here hx rfl (hb hby own_d2_0) rfl rfl k) ?_
  show own_Go _ _ _ _ T0 (mkF m 1 #[.val (.ref a1), .val (.ref a2)] [(.ref a1)])
  refine own_st (fun _ k => XS.aloadN X0.here hx rfl (hb hby own_d2_1) rfl rfl k) ?_
  show own_Go _ _ _ _ T0 (mkF m 2 #[.val (.ref a1), .val (.ref a2)] [(.ref a2), (.ref a1)])
  refine own_st (fun _ k => XS.iconst X0.here hx rfl (hb hby own_d2_2) k) ?_
  show own_Go _ _ _ _ T0 (mkF m 3 #[.val (.ref a1), .val (.ref a2)] [(.int (0 : Int32)), (.ref a2), (.ref a1)])
  refine own_st (fun _ k => XS.aloadN X0.here hx rfl (hb hby own_d2_3) rfl rfl k) ?_
  show own_Go _ _ _ _ T0 (mkF m 4 #[.val (.ref a1), .val (.ref a2)] [(.ref a2), (.int (0 : Int32)), (.ref a2), (.ref a1)])
  refine own_st (own_len X0 hx hZ e0 V1 (g := (mkF m 4 #[.val (.ref a1), .val (.ref a2)] [(.ref a2), (.int (0 : Int32)), (.ref a2), (.ref a1)])) rfl rfl (hb hby own_d2_4)) ?_
  show own_Go _ _ _ _ T0 (mkF m 5 #[.val (.ref a1), .val (.ref a2)] [(.int (3 : Int32)), (.int (0 : Int32)), (.ref a2), (.ref a1)])
  refine own_st (fun _ k => XS.aconstNull X0.here hx rfl (hb hby own_d2_5) k) ?_
  show own_Go _ _ _ _ T0 (mkF m 6 #[.val (.ref a1), .val (.ref a2)] [.null, (.int (3 : Int32)), (.int (0 : Int32)), (.ref a2), (.ref a1)])
  obtain ⟨v1, T1, L1, hQ1, X1, st1⟩ := own_callI X0 hx hZ (y := (⟨"java/lang/String", "<init>", "([CIILjava/lang/Void;)V"⟩ : MethodName)) rfl hown (own_w11 hw) (own_w12 hw) (own_w6 hw) (own_w14 hw) (by decide) (own_vd3 l hw [] a1 a2 (0 : Int32) (3 : Int32) cs k1 c0 c1 c2 h0 n0 Z0 rfl rfl hc0 hc1 hc2 Scs hcs g_a1 Ea Fv Fc V1) e0 (g := (mkF m 6 #[.val (.ref a1), .val (.ref a2)] [.null, (.int (3 : Int32)), (.int (0 : Int32)), (.ref a2), (.ref a1)])) rfl (by rw [hml]; rfl) (argsL := [(.ref a2), (.int (0 : Int32)), (.int (3 : Int32)), .null]) (rest := []) (lenOf own_pd6 rfl) rfl rfl (W := 0) (Nat.le_of_eq rfl) (hb hby own_d2_6) (by decide) (by decide) (by decide) (by decide)
  obtain ⟨rfl, N1, K1, b, kb, Gv, Gc, Vb⟩ := hQ1
  have N1' := Fr.app N0 N1
  refine own_st st1 ?_
  show own_Go _ _ _ _ T1 (mkF m 9 #[.val (.ref a1), .val (.ref a2)] [])
  exact own_retV X1 hx hret hlk (hb hby own_d2_9) ⟨rfl, N1', K1, b, kb, Gv, Gc, Vb⟩ (by decide) (by decide)
theorem own_wS {Z : State} {a0 : Array Value} (hw : own_W Z a0) : ∀ a ∈ Bundle.stringAtoms, a.before a0 Z = true := by
  intro d hd
  simp only [Bundle.stringAtoms, List.mem_cons, List.not_mem_nil, or_false] at hd
  rcases hd with rfl | rfl | rfl | rfl | rfl | rfl | rfl
  · exact (own_w6 hw)
  · exact (own_w5 hw)
  · exact (own_w19 hw)
  · exact (own_w20 hw)
  · exact (own_w21 hw)
  · exact (own_w22 hw)
  · exact (own_w23 hw)
def own_vd0_Q (Z : State) (a1 a2 : Addr) (p1 p2 : Int32) (h0 : Heap) (n0 : Nat) (v : Option Value) (h : Heap) (vm : Vm) (L : List Loc) : Prop := v = none ∧ Fr n0 L ∧ Keep h0 h [a1] ∧ ∃ b k, Fld Z h a1 "java/lang/String" "value" "[B" (.ref b) ∧ Fld Z h a1 "java/lang/String" "coder" "B" (.int (0 : Int32)) ∧ Arv Z h b k .byte (0 : Int32) [] (.int (0 : Int32))
set_option maxRecDepth 65536 in
set_option maxHeartbeats 40000000 in
theorem own_vd0 (l : Launch) {Z : State} {a0 : Array Value} (hw : own_W Z a0) (ws : List Jvm.Cond) (a1 a2 : Addr) (p1 p2 : Int32) (h0 : Heap) (n0 : Nat) (Z0 : n0 ≤ h0.size) (hp2 : p2 = 0) (hh : Jvm.Lit.constHeld Z "java/lang/String" 7) (hcw : Jvm.Lit.compactW.before a0 Z = true) (OZ : Ext Z.heap h0) (g_a1 : n0 ≤ a1) (Ea : Exa Z h0 a1 "java/lang/String") (Fv : Fld Z h0 a1 "java/lang/String" "value" "[B" .null) (Fc : Fld Z h0 a1 "java/lang/String" "coder" "B" (.int (0 : Int32))) :
    MetFree l (⟨"java/lang/String", "<init>", "([CIILjava/lang/Void;)V"⟩ : MethodName) (head1 (Jvm.Cond.code (⟨"java/lang/String", "<init>", "([CIILjava/lang/Void;)V"⟩ : MethodName) jdk_42_method_149_code 6 none :: ws) ({ frames := 1, cells := 2, slots := 4, locals := 12 } : Room)) (fun a U => a = #[(.ref a1), (.ref a2), (.int p1), (.int p2), .null] ∧ Z.Warmed39 U.vm ∧ U.heap = h0 ∧ (fun vm => IB Z vm []) U.vm) (fun _ _ _ _ _ => True) (fun _ U o U' => ∃ v L, o = .returned v ∧ own_vd0_Q Z a1 a2 p1 p2 h0 n0 v U'.heap U'.vm L ∧ ReturnedEndW U o U' L ({ frames := 1, cells := 2, slots := 4, locals := 12 } : Room).cells ({ frames := 1, cells := 2, slots := 4, locals := 12 } : Room).slots) := by
  refine own_enterW (J := fun vm => IB Z vm []) (C := ({ frames := 1, cells := 2, slots := 4, locals := 12 } : Room).cells) (S := ({ frames := 1, cells := 2, slots := 4, locals := 12 } : Room).slots) (plainFor_of_name own_pn2) ?_
  intro p e s m below meth c T0 X0 I e0 es hJ hS
  obtain ⟨hx, hby, hml, hown, hnm, hret, hlk, hZ⟩ := I
  have N0 := Fr.nil n0
  have O0 := own_extr h0
  have hk0 : 0 ≤ h0.size := Nat.zero_le _
  refine own_cast (own_ef3n m a1 a2 p1 p2) ?_
  show own_Go _ _ _ _ T0 (mkF m 0 #[.val (.ref a1), .val (.ref a2), .val (.int p1), .val (.int p2), .val .null, .unset] [])
  rw [hp2]
  show own_Go _ _ _ _ T0 (mkF m 0 #[.val (.ref a1), .val (.ref a2), .val (.int p1), .val (.int (0 : Int32)), .val .null, .unset] [])
  have K0 := Keep.refl h0 [a1]
  refine own_st (fun _ k => XS.aloadN X0.here hx rfl (hb hby own_d3_0) rfl rfl k) ?_
  show own_Go _ _ _ _ T0 (mkF m 1 #[.val (.ref a1), .val (.ref a2), .val (.int p1), .val (.int (0 : Int32)), .val .null, .unset] [(.ref a1)])
  obtain ⟨T1, X1, e1, st1⟩ := initO X0 hx hZ hown (own_w15 hw) (own_w16 hw) (own_w17 hw) e0 (g := (mkF m 1 #[.val (.ref a1), .val (.ref a2), .val (.int p1), .val (.int (0 : Int32)), .val .null, .unset] [(.ref a1)])) rfl (by rw [hml]; rfl) rfl (hb hby own_d3_1) (by decide) (W := 0) (Nat.le_of_eq rfl) (by decide)
  refine own_st st1 ?_
  show own_Go _ _ _ _ T1 (mkF m 4 #[.val (.ref a1), .val (.ref a2), .val (.int p1), .val (.int (0 : Int32)), .val .null, .unset] [])
  refine own_st (fun _ k => XS.iloadN X1.here hx rfl (hb hby own_d3_4) rfl k) ?_
  show own_Go _ _ _ _ T1 (mkF m 5 #[.val (.ref a1), .val (.ref a2), .val (.int p1), .val (.int (0 : Int32)), .val .null, .unset] [(.int (0 : Int32))])
  refine own_st (fun _ k => XS.ifNo X1.here hx rfl (hb hby own_d3_5) rfl ((if0 _ _).trans (teq (by decide : (0 : Int32) = (0 : Int32))).2) k) ?_
  show own_Go _ _ _ _ T1 (mkF m 8 #[.val (.ref a1), .val (.ref a2), .val (.int p1), .val (.int (0 : Int32)), .val .null, .unset] [])
  refine own_st (fun _ k => XS.aloadN X1.here hx rfl (hb hby own_d3_8) rfl rfl k) ?_
  show own_Go _ _ _ _ T1 (mkF m 9 #[.val (.ref a1), .val (.ref a2), .val (.int p1), .val (.int (0 : Int32)), .val .null, .unset] [(.ref a1)])
  obtain ⟨sa2, T2, hp2, ks2, sb2, kb2, X2, e2, Et2, hS, hkx2, hZ, hown, Es2, Fc2, Fv2, Vs2, la2, lb2, hI2, hL2, st2⟩ := ldcSVL X1 hx hZ hown (own_w18 hw) (own_wS hw) e1 hS hk0 (Fr.nil _) (fun b cl q => by rw [es]; exact OZ.2 b cl q) hJ (by decide) hh hcw (vs := []) (z := (0 : Int32)) (by decide) (by decide) (by decide) (g := (mkF m 9 #[.val (.ref a1), .val (.ref a2), .val (.int p1), .val (.int (0 : Int32)), .val .null, .unset] [(.ref a1)])) rfl (hb hby own_d3_9) (n := 0) (by decide) (by decide) (by decide) (by decide)
  have hk2 := Nat.le_trans hk0 Et2.1
  have K2x := Keep.ext K0 Et2
  have Ex_a1_2 := Ea.ext Et2
  have F_value_a1_2 := Fv.ext Et2
  have F_coder_a1_2 := Fc.ext Et2
  refine own_st st2 ?_
  show own_Go _ _ _ _ T2 (mkF m 11 #[.val (.ref a1), .val (.ref a2), .val (.int p1), .val (.int (0 : Int32)), .val .null, .unset] [(.ref sa2), (.ref a1)])
  have na : sa2 ≠ a1 := Fld.ne Fv2 F_value_a1_2 (by simp)
  have nb : a1 ≠ sb2 := Exa.neArv Ex_a1_2 Vs2 (own_w5 hw)
  obtain ⟨T3, X3, e3, st3⟩ := getF X2 hx hZ hown (host := "") (Or.inl (own_w24 hw)) Via.refl e2 Fv2 (g := (mkF m 11 #[.val (.ref a1), .val (.ref a2), .val (.int p1), .val (.int (0 : Int32)), .val .null, .unset] [(.ref sa2), (.ref a1)])) rfl rfl (hb hby own_d3_11)
  refine own_st st3 ?_
  show own_Go _ _ _ _ T3 (mkF m 14 #[.val (.ref a1), .val (.ref a2), .val (.int p1), .val (.int (0 : Int32)), .val .null, .unset] [(.ref sb2), (.ref a1)])
  obtain ⟨T4, hp4, X4, e4, W4, st4⟩ := putF X3 hx hZ hown (host := "") (Or.inl (own_w24 hw)) Via.refl e3 F_value_a1_2 Ex_a1_2 (Or.inr ⟨(own_w20 hw), rfl, hnm⟩) (own_w5 hw) (ty := (.array .byte)) (by decide) rfl rfl (g := (mkF m 14 #[.val (.ref a1), .val (.ref a2), .val (.int p1), .val (.int (0 : Int32)), .val .null, .unset] [(.ref sb2), (.ref a1)])) rfl rfl (hb hby own_d3_14)
  have hk4 := Nat.le_trans hkx2 (Keep.of_wr W4).1
  have K4 := Keep.wr K2x W4 (Or.inl (List.mem_of_getElem? (i := 0) rfl))
  have V_sb2_4 := Vs2.other W4 (Ne.symm nb)
  have Ex_a1_4 := Ex_a1_2.wr W4
  have F_coder_a1_4 := F_coder_a1_2.other W4 (Or.inr (slot_ne (Or.inr (own_w21 hw)) (Or.inr (own_w20 hw)) (by decide) (t := .byte) (t' := (.array .byte)) (by decide) (by decide)))
  have F_value_sa2_4 := Fv2.other W4 (Or.inl na)
  have F_coder_sa2_4 := Fc2.other W4 (Or.inl na)
  have F_value_a1_4 := F_value_a1_2.same W4
  have N4 := Fr.snoc X4 N0 g_a1
  refine own_st st4 ?_
  show own_Go _ _ _ _ T4 (mkF m 17 #[.val (.ref a1), .val (.ref a2), .val (.int p1), .val (.int (0 : Int32)), .val .null, .unset] [])
  refine own_st (fun _ k => XS.aloadN X4.here hx rfl (hb hby own_d3_17) rfl rfl k) ?_
  show own_Go _ _ _ _ T4 (mkF m 18 #[.val (.ref a1), .val (.ref a2), .val (.int p1), .val (.int (0 : Int32)), .val .null, .unset] [(.ref a1)])
  refine own_st (ldcAgain X4 hx hZ hown (own_w18 hw) hL2 (g := (mkF m 18 #[.val (.ref a1), .val (.ref a2), .val (.int p1), .val (.int (0 : Int32)), .val .null, .unset] [(.ref a1)])) rfl (hb hby own_d3_18)) ?_
  show own_Go _ _ _ _ T4 (mkF m 20 #[.val (.ref a1), .val (.ref a2), .val (.int p1), .val (.int (0 : Int32)), .val .null, .unset] [(.ref sa2), (.ref a1)])
  obtain ⟨T5, X5, e5, st5⟩ := getF X4 hx hZ hown (host := "") (Or.inl (own_w25 hw)) Via.refl e4 F_coder_sa2_4 (g := (mkF m 20 #[.val (.ref a1), .val (.ref a2), .val (.int p1), .val (.int (0 : Int32)), .val .null, .unset] [(.ref sa2), (.ref a1)])) rfl rfl (hb hby own_d3_20)
  refine own_st st5 ?_
  show own_Go _ _ _ _ T5 (mkF m 23 #[.val (.ref a1), .val (.ref a2), .val (.int p1), .val (.int (0 : Int32)), .val .null, .unset] [(.int (0 : Int32)), (.ref a1)])
  obtain ⟨T6, hp6, X6, e6, W6, st6⟩ := putFN X5 hx hZ hown (own_w25 hw) Via.refl e5 F_coder_a1_4 Ex_a1_4 (Or.inr ⟨(own_w21 hw), rfl, hnm⟩) (own_w5 hw) (ty := .byte) (v' := (.int (0 : Int32))) (by decide) rfl (by decide) (g := (mkF m 23 #[.val (.ref a1), .val (.ref a2), .val (.int p1), .val (.int (0 : Int32)), .val .null, .unset] [(.int (0 : Int32)), (.ref a1)])) rfl rfl (hb hby own_d3_23)
  have hk6 := Nat.le_trans hk4 (Keep.of_wr W6).1
  have K6 := Keep.wr K4 W6 (Or.inl (List.mem_of_getElem? (i := 0) rfl))
  have V_sb2_6 := V_sb2_4.other W6 (Ne.symm nb)
  have Ex_a1_6 := Ex_a1_4.wr W6
  have F_value_a1_6 := F_value_a1_4.other W6 (Or.inr (slot_ne (Or.inr (own_w20 hw)) (Or.inr (own_w21 hw)) (by decide) (t := (.array .byte)) (t' := .byte) (by decide) (by decide)))
  have F_value_sa2_6 := F_value_sa2_4.other W6 (Or.inl na)
  have F_coder_sa2_6 := F_coder_sa2_4.other W6 (Or.inl na)
  have F_coder_a1_6 := F_coder_a1_4.same W6
  have N6 := Fr.snoc X6 N4 g_a1
  refine own_st st6 ?_
  show own_Go _ _ _ _ T6 (mkF m 26 #[.val (.ref a1), .val (.ref a2), .val (.int p1), .val (.int (0 : Int32)), .val .null, .unset] [])
  exact own_retVW X6 hS (by rw [e6]; exact hk6) hx hret hlk (hb hby own_d3_26) ⟨rfl, N6, by rw [e6]; exact K6, _, _, by rw [e6]; exact F_value_a1_6, by rw [e6]; exact F_coder_a1_6, by rw [e6]; exact V_sb2_6⟩ (by decide) (by decide)
def own_cc0_Q (Z : State) (a1 a2 : Addr) (k1 : ClassId) (h0 : Heap) (n0 : Nat) (v : Option Value) (h : Heap) (vm : Vm) (L : List Loc) : Prop := v = none ∧ Fr n0 L ∧ Keep h0 h [a1] ∧ ∃ b k, Fld Z h a1 "java/lang/String" "value" "[B" (.ref b) ∧ Fld Z h a1 "java/lang/String" "coder" "B" (.int (0 : Int32)) ∧ Arv Z h b k .byte (0 : Int32) [] (.int (0 : Int32))
set_option maxRecDepth 65536 in
set_option maxHeartbeats 40000000 in
theorem own_cc0 (l : Launch) {Z : State} {a0 : Array Value} (hw : own_W Z a0) (ws : List Jvm.Cond) (a1 a2 : Addr) (k1 : ClassId) (h0 : Heap) (n0 : Nat) (Z0 : n0 ≤ h0.size) (hh : Jvm.Lit.constHeld Z "java/lang/String" 7) (hcw : Jvm.Lit.compactW.before a0 Z = true) (OZ : Ext Z.heap h0) (g_a1 : n0 ≤ a1) (Ea : Exa Z h0 a1 "java/lang/String") (Fv : Fld Z h0 a1 "java/lang/String" "value" "[B" .null) (Fc : Fld Z h0 a1 "java/lang/String" "coder" "B" (.int (0 : Int32))) (V1 : Arv Z h0 a2 k1 .char (0 : Int32) [] (.int (0 : Int32))) :
    MetFree l (⟨"java/lang/String", "<init>", "([C)V"⟩ : MethodName) (head1 (Jvm.Cond.code (⟨"java/lang/String", "<init>", "([C)V"⟩ : MethodName) jdk_42_method_3_code 2 none :: ws) ({ frames := 2, cells := 2, slots := 4, locals := 29 } : Room)) (fun a U => a = #[(.ref a1), (.ref a2)] ∧ Z.Warmed39 U.vm ∧ U.heap = h0 ∧ (fun vm => IB Z vm []) U.vm) (fun _ _ _ _ _ => True) (fun _ U o U' => ∃ v L, o = .returned v ∧ own_cc0_Q Z a1 a2 k1 h0 n0 v U'.heap U'.vm L ∧ ReturnedEndW U o U' L ({ frames := 2, cells := 2, slots := 4, locals := 29 } : Room).cells ({ frames := 2, cells := 2, slots := 4, locals := 29 } : Room).slots) := by
  refine own_enterW (J := fun vm => IB Z vm []) (C := ({ frames := 2, cells := 2, slots := 4, locals := 29 } : Room).cells) (S := ({ frames := 2, cells := 2, slots := 4, locals := 29 } : Room).slots) (plainFor_of_name own_pn2) ?_
  intro p e s m below meth c T0 X0 I e0 es hJ hS
  obtain ⟨hx, hby, hml, hown, hnm, hret, hlk, hZ⟩ := I
  have N0 := Fr.nil n0
  have O0 := own_extr h0
  have hk0 : 0 ≤ h0.size := Nat.zero_le _
  refine own_cast (own_ef2 m a1 a2) ?_
  show own_Go _ _ _ _ T0 (mkF m 0 #[.val (.ref a1), .val (.ref a2)] [])
  have K0 := Keep.refl h0 [a1]
  refine own_st (fun _ k => XS.aloadN X0.here hx rfl (hb hby own_d2_0) rfl rfl k) ?_
  show own_Go _ _ _ _ T0 (mkF m 1 #[.val (.ref a1), .val (.ref a2)] [(.ref a1)])
  refine own_st (fun _ k => XS.aloadN X0.here hx rfl (hb hby own_d2_1) rfl rfl k) ?_
  show own_Go _ _ _ _ T0 (mkF m 2 #[.val (.ref a1), .val (.ref a2)] [(.ref a2), (.ref a1)])
  refine own_st (fun _ k => XS.iconst X0.here hx rfl (hb hby own_d2_2) k) ?_
  show own_Go _ _ _ _ T0 (mkF m 3 #[.val (.ref a1), .val (.ref a2)] [(.int (0 : Int32)), (.ref a2), (.ref a1)])
  refine own_st (fun _ k => XS.aloadN X0.here hx rfl (hb hby own_d2_3) rfl rfl k) ?_
  show own_Go _ _ _ _ T0 (mkF m 4 #[.val (.ref a1), .val (.ref a2)] [(.ref a2), (.int (0 : Int32)), (.ref a2), (.ref a1)])
  refine own_st (own_len X0 hx hZ e0 V1 (g := (mkF m 4 #[.val (.ref a1), .val (.ref a2)] [(.ref a2), (.int (0 : Int32)), (.ref a2), (.ref a1)])) rfl rfl (hb hby own_d2_4)) ?_
  show own_Go _ _ _ _ T0 (mkF m 5 #[.val (.ref a1), .val (.ref a2)] [(.int (0 : Int32)), (.int (0 : Int32)), (.ref a2), (.ref a1)])
  refine own_st (fun _ k => XS.aconstNull X0.here hx rfl (hb hby own_d2_5) k) ?_
  show own_Go _ _ _ _ T0 (mkF m 6 #[.val (.ref a1), .val (.ref a2)] [.null, (.int (0 : Int32)), (.int (0 : Int32)), (.ref a2), (.ref a1)])
  obtain ⟨v1, T1, L1, hQ1, X1, hS, hZ, hown, st1⟩ := own_callIW (J := fun vm => IB Z vm []) X0 hS (by rw [e0]; exact hk0) hx hZ (y := (⟨"java/lang/String", "<init>", "([CIILjava/lang/Void;)V"⟩ : MethodName)) rfl hown (own_w11 hw) (own_w12 hw) (own_w6 hw) (own_w14 hw) (by decide) (own_vd0 l hw [] a1 a2 (0 : Int32) (0 : Int32) h0 n0 Z0 rfl hh hcw OZ g_a1 Ea Fv Fc) (fun vm q => own_ibw hJ q) e0 (g := (mkF m 6 #[.val (.ref a1), .val (.ref a2)] [.null, (.int (0 : Int32)), (.int (0 : Int32)), (.ref a2), (.ref a1)])) rfl (by rw [hml]; rfl) (argsL := [(.ref a2), (.int (0 : Int32)), (.int (0 : Int32)), .null]) (rest := []) (lenOf own_pd6 rfl) rfl rfl (W := 0) (Nat.le_of_eq rfl) (hb hby own_d2_6) (by decide) (by decide) (by decide) (by decide)
  obtain ⟨rfl, N1, K1, b, kb, Gv, Gc, Vb⟩ := hQ1
  have hk1 : T1.heap.size ≤ T1.heap.size := Nat.le_refl _
  have N1' := Fr.app N0 N1
  refine own_st st1 ?_
  show own_Go _ _ _ _ T1 (mkF m 9 #[.val (.ref a1), .val (.ref a2)] [])
  exact own_retVW X1 hS hk1 hx hret hlk (hb hby own_d2_9) ⟨rfl, N1', K1, b, kb, Gv, Gc, Vb⟩ (by decide) (by decide)
def own_le10_Q (Z : State) (a1 a2 : Addr) (k1 k2 : ClassId) (x0 : Int32) (h0 : Heap) (n0 : Nat) (v : Option Value) (h : Heap) (L : List Loc) : Prop := v = some (.int (0 : Int32)) ∧ Fr n0 L ∧ h = h0
set_option maxRecDepth 65536 in
set_option maxHeartbeats 40000000 in
theorem own_le10 (l : Launch) {Z : State} {a0 : Array Value} (hw : own_W Z a0) (ws : List Jvm.Cond) (a1 a2 : Addr) (k1 k2 : ClassId) (x0 : Int32) (h0 : Heap) (n0 : Nat) (Z0 : n0 ≤ h0.size) (V1 : Arv Z h0 a1 k1 .byte (1 : Int32) [(.int x0)] (.int (0 : Int32))) (V2 : Arv Z h0 a2 k2 .byte (0 : Int32) [] (.int (0 : Int32))) :
    MetFree l (⟨"java/lang/StringLatin1", "equals", "([B[B)Z"⟩ : MethodName) (head1 (Jvm.Cond.code (⟨"java/lang/StringLatin1", "equals", "([B[B)Z"⟩ : MethodName) jdk_43_method_13_code 3 (some .boolean) :: ws) ({ frames := 0, cells := 0, slots := 0, locals := 0 } : Room)) (fun a U => a = #[(.ref a1), (.ref a2)] ∧ Z.Warmed39 U.vm ∧ U.heap = h0) (fun _ _ _ _ _ => True) (fun _ U o U' => ∃ v L, o = .returned v ∧ own_le10_Q Z a1 a2 k1 k2 x0 h0 n0 v U'.heap L ∧ FrameEnd U o U' L ({ frames := 0, cells := 0, slots := 0, locals := 0 } : Room).cells ({ frames := 0, cells := 0, slots := 0, locals := 0 } : Room).slots) := by
  refine own_enter (C := ({ frames := 0, cells := 0, slots := 0, locals := 0 } : Room).cells) (S := ({ frames := 0, cells := 0, slots := 0, locals := 0 } : Room).slots) (plainFor_of_name own_pn1) ?_
  intro p e s m below meth c T0 X0 I e0
  obtain ⟨hx, hby, hml, hown, hnm, hret, hlk, hZ⟩ := I
  have N0 := Fr.nil n0
  have O0 := own_extr h0
  refine own_cast (own_ef9 m a1 a2) ?_
  show own_Go _ _ _ _ T0 (mkF m 0 #[.val (.ref a1), .val (.ref a2), .unset] [])
  refine own_st (fun _ k => XS.aloadN X0.here hx rfl (hb hby own_d9_0) rfl rfl k) ?_
  show own_Go _ _ _ _ T0 (mkF m 1 #[.val (.ref a1), .val (.ref a2), .unset] [(.ref a1)])
  refine own_st (own_len X0 hx hZ e0 (V1.ext O0) (g := (mkF m 1 #[.val (.ref a1), .val (.ref a2), .unset] [(.ref a1)])) rfl rfl (hb hby own_d9_1)) ?_
  show own_Go _ _ _ _ T0 (mkF m 2 #[.val (.ref a1), .val (.ref a2), .unset] [(.int (1 : Int32))])
  refine own_st (fun _ k => XS.aloadN X0.here hx rfl (hb hby own_d9_2) rfl rfl k) ?_
  show own_Go _ _ _ _ T0 (mkF m 3 #[.val (.ref a1), .val (.ref a2), .unset] [(.ref a2), (.int (1 : Int32))])
  refine own_st (own_len X0 hx hZ e0 (V2.ext O0) (g := (mkF m 3 #[.val (.ref a1), .val (.ref a2), .unset] [(.ref a2), (.int (1 : Int32))])) rfl rfl (hb hby own_d9_3)) ?_
  show own_Go _ _ _ _ T0 (mkF m 4 #[.val (.ref a1), .val (.ref a2), .unset] [(.int (0 : Int32)), (.int (1 : Int32))])
  refine own_st (fun _ k => XS.icmpYes X0.here hx rfl (pc0 := 4) (pc' := 34) rfl (hb hby own_d9_4) rfl (feq (by decide : ¬ ((1 : Int32) = (0 : Int32)))).2 (by decide) (by decide) k) ?_
  show own_Go _ _ _ _ T0 (mkF m 34 #[.val (.ref a1), .val (.ref a2), .unset] [])
  refine own_st (fun _ k => XS.iconst X0.here hx rfl (hb hby own_d9_34) k) ?_
  show own_Go _ _ _ _ T0 (mkF m 35 #[.val (.ref a1), .val (.ref a2), .unset] [(.int (0 : Int32))])
  exact own_retN X0 hx hret (by simp) hlk (hb hby own_d9_35) ⟨rfl, N0, e0⟩ (by decide) (by decide)
def own_se10_Q (Z : State) (a1 a2 b1 b2 : Addr) (k1 k2 : ClassId) (cs : Int32) (x0 : Int32) (h0 : Heap) (n0 : Nat) (v : Option Value) (h : Heap) (L : List Loc) : Prop := v = some (.int (0 : Int32)) ∧ Fr n0 L ∧ h = h0
set_option maxRecDepth 65536 in
set_option maxHeartbeats 40000000 in
theorem own_se10 (l : Launch) {Z : State} {a0 : Array Value} (hw : own_W Z a0) (ws : List Jvm.Cond) (a1 a2 b1 b2 : Addr) (k1 k2 : ClassId) (cs : Int32) (x0 : Int32) (h0 : Heap) (n0 : Nat) (Z0 : n0 ≤ h0.size) (Scs : Sta Z h0 "java/lang/String" "COMPACT_STRINGS" "Z" (.int cs)) (hcs : ¬ cs = 0) (hne : ¬ a1 = a2) (E2 : Exa Z h0 a2 "java/lang/String") (Fv1 : Fld Z h0 a1 "java/lang/String" "value" "[B" (.ref b1)) (Fc1 : Fld Z h0 a1 "java/lang/String" "coder" "B" (.int (0 : Int32))) (V1 : Arv Z h0 b1 k1 .byte (1 : Int32) [(.int x0)] (.int (0 : Int32))) (Fv2 : Fld Z h0 a2 "java/lang/String" "value" "[B" (.ref b2)) (Fc2 : Fld Z h0 a2 "java/lang/String" "coder" "B" (.int (0 : Int32))) (V2 : Arv Z h0 b2 k2 .byte (0 : Int32) [] (.int (0 : Int32))) :
    MetFree l (⟨"java/lang/String", "equals", "(Ljava/lang/Object;)Z"⟩ : MethodName) (head1 (Jvm.Cond.code (⟨"java/lang/String", "equals", "(Ljava/lang/Object;)Z"⟩ : MethodName) jdk_42_method_66_code 3 (some .boolean) :: ws) ({ frames := 1, cells := 0, slots := 0, locals := 14 } : Room)) (fun a U => a = #[(.ref a1), (.ref a2)] ∧ Z.Warmed39 U.vm ∧ U.heap = h0) (fun _ _ _ _ _ => True) (fun _ U o U' => ∃ v L, o = .returned v ∧ own_se10_Q Z a1 a2 b1 b2 k1 k2 cs x0 h0 n0 v U'.heap L ∧ FrameEnd U o U' L ({ frames := 1, cells := 0, slots := 0, locals := 14 } : Room).cells ({ frames := 1, cells := 0, slots := 0, locals := 14 } : Room).slots) := by
  refine own_enter (C := ({ frames := 1, cells := 0, slots := 0, locals := 14 } : Room).cells) (S := ({ frames := 1, cells := 0, slots := 0, locals := 14 } : Room).slots) (plainFor_of_name own_pn2) ?_
  intro p e s m below meth c T0 X0 I e0
  obtain ⟨hx, hby, hml, hown, hnm, hret, hlk, hZ⟩ := I
  have N0 := Fr.nil n0
  have O0 := own_extr h0
  refine own_cast (own_ef8 m a1 a2) ?_
  show own_Go _ _ _ _ T0 (mkF m 0 #[.val (.ref a1), .val (.ref a2), .unset] [])
  refine own_st (fun _ k => XS.aloadN X0.here hx rfl (hb hby own_d8_0) rfl rfl k) ?_
  show own_Go _ _ _ _ T0 (mkF m 1 #[.val (.ref a1), .val (.ref a2), .unset] [(.ref a1)])
  refine own_st (fun _ k => XS.aloadN X0.here hx rfl (hb hby own_d8_1) rfl rfl k) ?_
  show own_Go _ _ _ _ T0 (mkF m 2 #[.val (.ref a1), .val (.ref a2), .unset] [(.ref a2), (.ref a1)])
  refine own_st (fun _ k => Jvm.RoadKit.acmp (g := (mkF m 2 #[.val (.ref a1), .val (.ref a2), .unset] [(.ref a2), (.ref a1)])) X0 hx rfl rfl rfl (pc0 := 2) (pc' := 7) (same := false) rfl (hb hby own_d8_2) rfl (decide_eq_false fun q => hne (Value.ref.inj q)) (by decide) (by decide) k) ?_
  show own_Go _ _ _ _ T0 (mkF m 7 #[.val (.ref a1), .val (.ref a2), .unset] [])
  refine own_st (fun _ k => XS.aloadN X0.here hx rfl (hb hby own_d8_7) rfl rfl k) ?_
  show own_Go _ _ _ _ T0 (mkF m 8 #[.val (.ref a1), .val (.ref a2), .unset] [(.ref a2)])
  obtain ⟨T1, X1, e1, st1⟩ := instY X0 hx hZ hown (own_w61 hw) e0 (Ins.self (E2.ext O0)) (g := (mkF m 8 #[.val (.ref a1), .val (.ref a2), .unset] [(.ref a2)])) rfl rfl (hb hby own_d8_8)
  refine own_st st1 ?_
  show own_Go _ _ _ _ T1 (mkF m 11 #[.val (.ref a1), .val (.ref a2), .unset] [(.int (1 : Int32))])
  refine own_st (fun _ k => XS.ifNo X1.here hx rfl (hb hby own_d8_11) rfl ((if0 _ _).trans (feq (by decide : ¬ ((1 : Int32) = (0 : Int32)))).1) k) ?_
  show own_Go _ _ _ _ T1 (mkF m 14 #[.val (.ref a1), .val (.ref a2), .unset] [])
  refine own_st (fun _ k => XS.aloadN X1.here hx rfl (hb hby own_d8_14) rfl rfl k) ?_
  show own_Go _ _ _ _ T1 (mkF m 15 #[.val (.ref a1), .val (.ref a2), .unset] [(.ref a2)])
  obtain ⟨T2, X2, e2, st2⟩ := castY X1 hx hZ hown (own_w61 hw) e1 (Ins.self (E2.ext O0)) (g := (mkF m 15 #[.val (.ref a1), .val (.ref a2), .unset] [(.ref a2)])) rfl rfl (hb hby own_d8_15)
  refine own_st st2 ?_
  show own_Go _ _ _ _ T2 (mkF m 18 #[.val (.ref a1), .val (.ref a2), .unset] [(.ref a2)])
  refine own_st (fun _ k => XS.astoreN X2.here hx rfl (hb hby own_d8_18) rfl rfl (l' := #[.val (.ref a1), .val (.ref a2), .val (.ref a2)]) rfl k) ?_
  show own_Go _ _ _ _ T2 (mkF m 19 #[.val (.ref a1), .val (.ref a2), .val (.ref a2)] [])
  obtain ⟨T3, X3, e3, st3⟩ := getS2 X2 hx hZ hown (host := "") (Or.inl (own_w62 hw)) Via.refl e2 (Scs.ext O0) (g := (mkF m 19 #[.val (.ref a1), .val (.ref a2), .val (.ref a2)] [])) rfl (hb hby own_d8_19)
  refine own_st st3 ?_
  show own_Go _ _ _ _ T3 (mkF m 22 #[.val (.ref a1), .val (.ref a2), .val (.ref a2)] [(.int cs)])
  refine own_st (fun _ k => XS.ifNo X3.here hx rfl (hb hby own_d8_22) rfl ((if0 _ _).trans (feq (hcs : ¬ (cs = (0 : Int32)))).1) k) ?_
  show own_Go _ _ _ _ T3 (mkF m 25 #[.val (.ref a1), .val (.ref a2), .val (.ref a2)] [])
  refine own_st (fun _ k => XS.aloadN X3.here hx rfl (hb hby own_d8_25) rfl rfl k) ?_
  show own_Go _ _ _ _ T3 (mkF m 26 #[.val (.ref a1), .val (.ref a2), .val (.ref a2)] [(.ref a1)])
  obtain ⟨T4, X4, e4, st4⟩ := getF X3 hx hZ hown (host := "") (Or.inl (own_w25 hw)) Via.refl e3 (Fc1.ext O0) (g := (mkF m 26 #[.val (.ref a1), .val (.ref a2), .val (.ref a2)] [(.ref a1)])) rfl rfl (hb hby own_d8_26)
  refine own_st st4 ?_
  show own_Go _ _ _ _ T4 (mkF m 29 #[.val (.ref a1), .val (.ref a2), .val (.ref a2)] [(.int (0 : Int32))])
  refine own_st (fun _ k => XS.aloadN X4.here hx rfl (hb hby own_d8_29) rfl rfl k) ?_
  show own_Go _ _ _ _ T4 (mkF m 30 #[.val (.ref a1), .val (.ref a2), .val (.ref a2)] [(.ref a2), (.int (0 : Int32))])
  obtain ⟨T5, X5, e5, st5⟩ := getF X4 hx hZ hown (host := "") (Or.inl (own_w25 hw)) Via.refl e4 (Fc2.ext O0) (g := (mkF m 30 #[.val (.ref a1), .val (.ref a2), .val (.ref a2)] [(.ref a2), (.int (0 : Int32))])) rfl rfl (hb hby own_d8_30)
  refine own_st st5 ?_
  show own_Go _ _ _ _ T5 (mkF m 33 #[.val (.ref a1), .val (.ref a2), .val (.ref a2)] [(.int (0 : Int32)), (.int (0 : Int32))])
  refine own_st (fun _ k => XS.icmpNo X5.here hx rfl (hb hby own_d8_33) rfl (teq (by decide : (0 : Int32) = (0 : Int32))).2 k) ?_
  show own_Go _ _ _ _ T5 (mkF m 36 #[.val (.ref a1), .val (.ref a2), .val (.ref a2)] [])
  refine own_st (fun _ k => XS.aloadN X5.here hx rfl (hb hby own_d8_36) rfl rfl k) ?_
  show own_Go _ _ _ _ T5 (mkF m 37 #[.val (.ref a1), .val (.ref a2), .val (.ref a2)] [(.ref a1)])
  obtain ⟨T6, X6, e6, st6⟩ := getF X5 hx hZ hown (host := "") (Or.inl (own_w24 hw)) Via.refl e5 (Fv1.ext O0) (g := (mkF m 37 #[.val (.ref a1), .val (.ref a2), .val (.ref a2)] [(.ref a1)])) rfl rfl (hb hby own_d8_37)
  refine own_st st6 ?_
  show own_Go _ _ _ _ T6 (mkF m 40 #[.val (.ref a1), .val (.ref a2), .val (.ref a2)] [(.ref b1)])
  refine own_st (fun _ k => XS.aloadN X6.here hx rfl (hb hby own_d8_40) rfl rfl k) ?_
  show own_Go _ _ _ _ T6 (mkF m 41 #[.val (.ref a1), .val (.ref a2), .val (.ref a2)] [(.ref a2), (.ref b1)])
  obtain ⟨T7, X7, e7, st7⟩ := getF X6 hx hZ hown (host := "") (Or.inl (own_w24 hw)) Via.refl e6 (Fv2.ext O0) (g := (mkF m 41 #[.val (.ref a1), .val (.ref a2), .val (.ref a2)] [(.ref a2), (.ref b1)])) rfl rfl (hb hby own_d8_41)
  refine own_st st7 ?_
  show own_Go _ _ _ _ T7 (mkF m 44 #[.val (.ref a1), .val (.ref a2), .val (.ref a2)] [(.ref b2), (.ref b1)])
  obtain ⟨v8, T8, L8, hQ8, X8, st8⟩ := own_callS X7 hx hZ (y := (⟨"java/lang/StringLatin1", "equals", "([B[B)Z"⟩ : MethodName)) hown (own_w63 hw) (own_w64 hw) (own_w65 hw) (own_w66 hw) (by decide) (own_le10 l hw [] b1 b2 k1 k2 x0 h0 n0 (Nat.le_trans Z0 O0.1) (V1.ext O0) (V2.ext O0)) e7 (g := (mkF m 44 #[.val (.ref a1), .val (.ref a2), .val (.ref a2)] [(.ref b2), (.ref b1)])) rfl (by rw [hml]; rfl) (argsL := [(.ref b1), (.ref b2)]) (rest := []) (lenOf own_pd7 rfl) rfl rfl (W := 0) (Nat.le_of_eq rfl) (hb hby own_d8_44) (by decide) (by decide) (by decide) (by decide)
  obtain ⟨rfl, N8, e8⟩ := hQ8
  have N8' := Fr.app N0 N8
  refine own_st st8 ?_
  show own_Go _ _ _ _ T8 (mkF m 47 #[.val (.ref a1), .val (.ref a2), .val (.ref a2)] [(.int (0 : Int32))])
  refine own_st (fun _ k => XS.ifYes X8.here hx rfl (pc0 := 47) (pc' := 54) rfl (hb hby own_d8_47) rfl ((if0 _ _).trans (teq (by decide : (0 : Int32) = (0 : Int32))).1) (by decide) (by decide) k) ?_
  show own_Go _ _ _ _ T8 (mkF m 54 #[.val (.ref a1), .val (.ref a2), .val (.ref a2)] [])
  refine own_st (fun _ k => XS.iconst X8.here hx rfl (hb hby own_d8_54) k) ?_
  show own_Go _ _ _ _ T8 (mkF m 55 #[.val (.ref a1), .val (.ref a2), .val (.ref a2)] [(.int (0 : Int32))])
  exact own_retN X8 hx hret (by simp) hlk (hb hby own_d8_55) ⟨rfl, N8', e8⟩ (by decide) (by decide)
def own_le11_Q (Z : State) (a1 a2 : Addr) (k1 k2 : ClassId) (x0 y0 : Int32) (h0 : Heap) (n0 : Nat) (v : Option Value) (h : Heap) (L : List Loc) : Prop := v = some (.int (own_eq1 x0 y0)) ∧ Fr n0 L ∧ h = h0
set_option maxRecDepth 65536 in
set_option maxHeartbeats 40000000 in
theorem own_le11 (l : Launch) {Z : State} {a0 : Array Value} (hw : own_W Z a0) (ws : List Jvm.Cond) (a1 a2 : Addr) (k1 k2 : ClassId) (x0 y0 : Int32) (h0 : Heap) (n0 : Nat) (Z0 : n0 ≤ h0.size) (V1 : Arv Z h0 a1 k1 .byte (1 : Int32) [(.int x0)] (.int (0 : Int32))) (V2 : Arv Z h0 a2 k2 .byte (1 : Int32) [(.int y0)] (.int (0 : Int32))) :
    MetFree l (⟨"java/lang/StringLatin1", "equals", "([B[B)Z"⟩ : MethodName) (head1 (Jvm.Cond.code (⟨"java/lang/StringLatin1", "equals", "([B[B)Z"⟩ : MethodName) jdk_43_method_13_code 3 (some .boolean) :: ws) ({ frames := 0, cells := 0, slots := 0, locals := 0 } : Room)) (fun a U => a = #[(.ref a1), (.ref a2)] ∧ Z.Warmed39 U.vm ∧ U.heap = h0) (fun _ _ _ _ _ => True) (fun _ U o U' => ∃ v L, o = .returned v ∧ own_le11_Q Z a1 a2 k1 k2 x0 y0 h0 n0 v U'.heap L ∧ FrameEnd U o U' L ({ frames := 0, cells := 0, slots := 0, locals := 0 } : Room).cells ({ frames := 0, cells := 0, slots := 0, locals := 0 } : Room).slots) := by
  refine own_enter (C := ({ frames := 0, cells := 0, slots := 0, locals := 0 } : Room).cells) (S := ({ frames := 0, cells := 0, slots := 0, locals := 0 } : Room).slots) (plainFor_of_name own_pn1) ?_
  intro p e s m below meth c T0 X0 I e0
  obtain ⟨hx, hby, hml, hown, hnm, hret, hlk, hZ⟩ := I
  have N0 := Fr.nil n0
  have O0 := own_extr h0
  refine own_cast (own_ef9 m a1 a2) ?_
  show own_Go _ _ _ _ T0 (mkF m 0 #[.val (.ref a1), .val (.ref a2), .unset] [])
  refine own_st (fun _ k => XS.aloadN X0.here hx rfl (hb hby own_d9_0) rfl rfl k) ?_
  show own_Go _ _ _ _ T0 (mkF m 1 #[.val (.ref a1), .val (.ref a2), .unset] [(.ref a1)])
  refine own_st (own_len X0 hx hZ e0 (V1.ext O0) (g := (mkF m 1 #[.val (.ref a1), .val (.ref a2), .unset] [(.ref a1)])) rfl rfl (hb hby own_d9_1)) ?_
  show own_Go _ _ _ _ T0 (mkF m 2 #[.val (.ref a1), .val (.ref a2), .unset] [(.int (1 : Int32))])
  refine own_st (fun _ k => XS.aloadN X0.here hx rfl (hb hby own_d9_2) rfl rfl k) ?_
  show own_Go _ _ _ _ T0 (mkF m 3 #[.val (.ref a1), .val (.ref a2), .unset] [(.ref a2), (.int (1 : Int32))])
  refine own_st (own_len X0 hx hZ e0 (V2.ext O0) (g := (mkF m 3 #[.val (.ref a1), .val (.ref a2), .unset] [(.ref a2), (.int (1 : Int32))])) rfl rfl (hb hby own_d9_3)) ?_
  show own_Go _ _ _ _ T0 (mkF m 4 #[.val (.ref a1), .val (.ref a2), .unset] [(.int (1 : Int32)), (.int (1 : Int32))])
  refine own_st (fun _ k => XS.icmpNo X0.here hx rfl (hb hby own_d9_4) rfl (teq (by decide : (1 : Int32) = (1 : Int32))).2 k) ?_
  show own_Go _ _ _ _ T0 (mkF m 7 #[.val (.ref a1), .val (.ref a2), .unset] [])
  refine own_st (fun _ k => XS.iconst X0.here hx rfl (hb hby own_d9_7) k) ?_
  show own_Go _ _ _ _ T0 (mkF m 8 #[.val (.ref a1), .val (.ref a2), .unset] [(.int (0 : Int32))])
  refine own_st (fun _ k => XS.istoreN X0.here hx rfl (hb hby own_d9_8) rfl (l' := #[.val (.ref a1), .val (.ref a2), .val (.int (0 : Int32))]) rfl k) ?_
  show own_Go _ _ _ _ T0 (mkF m 9 #[.val (.ref a1), .val (.ref a2), .val (.int (0 : Int32))] [])
  refine own_st (fun _ k => XS.iloadN X0.here hx rfl (hb hby own_d9_9) rfl k) ?_
  show own_Go _ _ _ _ T0 (mkF m 10 #[.val (.ref a1), .val (.ref a2), .val (.int (0 : Int32))] [(.int (0 : Int32))])
  refine own_st (fun _ k => XS.aloadN X0.here hx rfl (hb hby own_d9_10) rfl rfl k) ?_
  show own_Go _ _ _ _ T0 (mkF m 11 #[.val (.ref a1), .val (.ref a2), .val (.int (0 : Int32))] [(.ref a1), (.int (0 : Int32))])
  refine own_st (own_len X0 hx hZ e0 (V1.ext O0) (g := (mkF m 11 #[.val (.ref a1), .val (.ref a2), .val (.int (0 : Int32))] [(.ref a1), (.int (0 : Int32))])) rfl rfl (hb hby own_d9_11)) ?_
  show own_Go _ _ _ _ T0 (mkF m 12 #[.val (.ref a1), .val (.ref a2), .val (.int (0 : Int32))] [(.int (1 : Int32)), (.int (0 : Int32))])
  refine own_st (fun _ k => XS.icmpNo X0.here hx rfl (hb hby own_d9_12) rfl (tlt (by decide : (0 : Int32) < (1 : Int32))).2.1 k) ?_
  show own_Go _ _ _ _ T0 (mkF m 15 #[.val (.ref a1), .val (.ref a2), .val (.int (0 : Int32))] [])
  refine own_st (fun _ k => XS.aloadN X0.here hx rfl (hb hby own_d9_15) rfl rfl k) ?_
  show own_Go _ _ _ _ T0 (mkF m 16 #[.val (.ref a1), .val (.ref a2), .val (.int (0 : Int32))] [(.ref a1)])
  refine own_st (fun _ k => XS.iloadN X0.here hx rfl (hb hby own_d9_16) rfl k) ?_
  show own_Go _ _ _ _ T0 (mkF m 17 #[.val (.ref a1), .val (.ref a2), .val (.int (0 : Int32))] [(.int (0 : Int32)), (.ref a1)])
  refine own_st (own_ldB X0 hx hZ e0 (V1.ext O0) (j := (0 : Int32)) (by decide) (v := (.int x0)) rfl (g := (mkF m 17 #[.val (.ref a1), .val (.ref a2), .val (.int (0 : Int32))] [(.int (0 : Int32)), (.ref a1)])) rfl rfl (hb hby own_d9_17)) ?_
  show own_Go _ _ _ _ T0 (mkF m 18 #[.val (.ref a1), .val (.ref a2), .val (.int (0 : Int32))] [(.int x0)])
  refine own_st (fun _ k => XS.aloadN X0.here hx rfl (hb hby own_d9_18) rfl rfl k) ?_
  show own_Go _ _ _ _ T0 (mkF m 19 #[.val (.ref a1), .val (.ref a2), .val (.int (0 : Int32))] [(.ref a2), (.int x0)])
  refine own_st (fun _ k => XS.iloadN X0.here hx rfl (hb hby own_d9_19) rfl k) ?_
  show own_Go _ _ _ _ T0 (mkF m 20 #[.val (.ref a1), .val (.ref a2), .val (.int (0 : Int32))] [(.int (0 : Int32)), (.ref a2), (.int x0)])
  refine own_st (own_ldB X0 hx hZ e0 (V2.ext O0) (j := (0 : Int32)) (by decide) (v := (.int y0)) rfl (g := (mkF m 20 #[.val (.ref a1), .val (.ref a2), .val (.int (0 : Int32))] [(.int (0 : Int32)), (.ref a2), (.int x0)])) rfl rfl (hb hby own_d9_20)) ?_
  show own_Go _ _ _ _ T0 (mkF m 21 #[.val (.ref a1), .val (.ref a2), .val (.int (0 : Int32))] [(.int y0), (.int x0)])
  by_cases hc0 : x0 = y0
  · refine own_st (fun _ k => XS.icmpYes X0.here hx rfl (pc0 := 21) (pc' := 26) rfl (hb hby own_d9_21) rfl (teq (hc0 : x0 = y0)).1 (by decide) (by decide) k) ?_
    show own_Go _ _ _ _ T0 (mkF m 26 #[.val (.ref a1), .val (.ref a2), .val (.int (0 : Int32))] [])
    refine own_st (fun _ k => XS.iinc X0.here hx rfl (hb hby own_d9_26) rfl (l' := #[.val (.ref a1), .val (.ref a2), .val (.int ((0 : Int32) + (1 : Int32)))]) rfl k) ?_
    show own_Go _ _ _ _ T0 (mkF m 29 #[.val (.ref a1), .val (.ref a2), .val (.int ((0 : Int32) + (1 : Int32)))] [])
    rw [show ((0 : Int32) + (1 : Int32)) = (1 : Int32) from by decide]
    show own_Go _ _ _ _ T0 (mkF m 29 #[.val (.ref a1), .val (.ref a2), .val (.int (1 : Int32))] [])
    refine own_st (fun _ k => XS.goto X0.here hx rfl (pc0 := 29) (pc' := 9) rfl (hb hby own_d9_29) (by decide) (by decide) k) ?_
    show own_Go _ _ _ _ T0 (mkF m 9 #[.val (.ref a1), .val (.ref a2), .val (.int (1 : Int32))] [])
    refine own_st (fun _ k => XS.iloadN X0.here hx rfl (hb hby own_d9_9) rfl k) ?_
    show own_Go _ _ _ _ T0 (mkF m 10 #[.val (.ref a1), .val (.ref a2), .val (.int (1 : Int32))] [(.int (1 : Int32))])
    refine own_st (fun _ k => XS.aloadN X0.here hx rfl (hb hby own_d9_10) rfl rfl k) ?_
    show own_Go _ _ _ _ T0 (mkF m 11 #[.val (.ref a1), .val (.ref a2), .val (.int (1 : Int32))] [(.ref a1), (.int (1 : Int32))])
    refine own_st (own_len X0 hx hZ e0 (V1.ext O0) (g := (mkF m 11 #[.val (.ref a1), .val (.ref a2), .val (.int (1 : Int32))] [(.ref a1), (.int (1 : Int32))])) rfl rfl (hb hby own_d9_11)) ?_
    show own_Go _ _ _ _ T0 (mkF m 12 #[.val (.ref a1), .val (.ref a2), .val (.int (1 : Int32))] [(.int (1 : Int32)), (.int (1 : Int32))])
    refine own_st (fun _ k => XS.icmpYes X0.here hx rfl (pc0 := 12) (pc' := 32) rfl (hb hby own_d9_12) rfl (flt (by decide : ¬ ((1 : Int32) < (1 : Int32)))).2.1 (by decide) (by decide) k) ?_
    show own_Go _ _ _ _ T0 (mkF m 32 #[.val (.ref a1), .val (.ref a2), .val (.int (1 : Int32))] [])
    refine own_st (fun _ k => XS.iconst X0.here hx rfl (hb hby own_d9_32) k) ?_
    show own_Go _ _ _ _ T0 (mkF m 33 #[.val (.ref a1), .val (.ref a2), .val (.int (1 : Int32))] [(.int (1 : Int32))])
    exact own_retN X0 hx hret (by simp) hlk (hb hby own_d9_33) ⟨by simp [own_eq1, nar, *], N0, e0⟩ (by decide) (by decide)
  · refine own_st (fun _ k => XS.icmpNo X0.here hx rfl (hb hby own_d9_21) rfl (feq (hc0 : ¬ (x0 = y0))).1 k) ?_
    show own_Go _ _ _ _ T0 (mkF m 24 #[.val (.ref a1), .val (.ref a2), .val (.int (0 : Int32))] [])
    refine own_st (fun _ k => XS.iconst X0.here hx rfl (hb hby own_d9_24) k) ?_
    show own_Go _ _ _ _ T0 (mkF m 25 #[.val (.ref a1), .val (.ref a2), .val (.int (0 : Int32))] [(.int (0 : Int32))])
    exact own_retN X0 hx hret (by simp) hlk (hb hby own_d9_25) ⟨by simp [own_eq1, nar, *], N0, e0⟩ (by decide) (by decide)
def own_se11_Q (Z : State) (a1 a2 b1 b2 : Addr) (k1 k2 : ClassId) (cs : Int32) (x0 y0 : Int32) (h0 : Heap) (n0 : Nat) (v : Option Value) (h : Heap) (L : List Loc) : Prop := v = some (.int (own_eq1 x0 y0)) ∧ Fr n0 L ∧ h = h0
set_option maxRecDepth 65536 in
set_option maxHeartbeats 40000000 in
theorem own_se11 (l : Launch) {Z : State} {a0 : Array Value} (hw : own_W Z a0) (ws : List Jvm.Cond) (a1 a2 b1 b2 : Addr) (k1 k2 : ClassId) (cs : Int32) (x0 y0 : Int32) (h0 : Heap) (n0 : Nat) (Z0 : n0 ≤ h0.size) (Scs : Sta Z h0 "java/lang/String" "COMPACT_STRINGS" "Z" (.int cs)) (hcs : ¬ cs = 0) (hne : ¬ a1 = a2) (E2 : Exa Z h0 a2 "java/lang/String") (Fv1 : Fld Z h0 a1 "java/lang/String" "value" "[B" (.ref b1)) (Fc1 : Fld Z h0 a1 "java/lang/String" "coder" "B" (.int (0 : Int32))) (V1 : Arv Z h0 b1 k1 .byte (1 : Int32) [(.int x0)] (.int (0 : Int32))) (Fv2 : Fld Z h0 a2 "java/lang/String" "value" "[B" (.ref b2)) (Fc2 : Fld Z h0 a2 "java/lang/String" "coder" "B" (.int (0 : Int32))) (V2 : Arv Z h0 b2 k2 .byte (1 : Int32) [(.int y0)] (.int (0 : Int32))) :
    MetFree l (⟨"java/lang/String", "equals", "(Ljava/lang/Object;)Z"⟩ : MethodName) (head1 (Jvm.Cond.code (⟨"java/lang/String", "equals", "(Ljava/lang/Object;)Z"⟩ : MethodName) jdk_42_method_66_code 3 (some .boolean) :: ws) ({ frames := 1, cells := 0, slots := 0, locals := 14 } : Room)) (fun a U => a = #[(.ref a1), (.ref a2)] ∧ Z.Warmed39 U.vm ∧ U.heap = h0) (fun _ _ _ _ _ => True) (fun _ U o U' => ∃ v L, o = .returned v ∧ own_se11_Q Z a1 a2 b1 b2 k1 k2 cs x0 y0 h0 n0 v U'.heap L ∧ FrameEnd U o U' L ({ frames := 1, cells := 0, slots := 0, locals := 14 } : Room).cells ({ frames := 1, cells := 0, slots := 0, locals := 14 } : Room).slots) := by
  refine own_enter (C := ({ frames := 1, cells := 0, slots := 0, locals := 14 } : Room).cells) (S := ({ frames := 1, cells := 0, slots := 0, locals := 14 } : Room).slots) (plainFor_of_name own_pn2) ?_
  intro p e s m below meth c T0 X0 I e0
  obtain ⟨hx, hby, hml, hown, hnm, hret, hlk, hZ⟩ := I
  have N0 := Fr.nil n0
  have O0 := own_extr h0
  refine own_cast (own_ef8 m a1 a2) ?_
  show own_Go _ _ _ _ T0 (mkF m 0 #[.val (.ref a1), .val (.ref a2), .unset] [])
  refine own_st (fun _ k => XS.aloadN X0.here hx rfl (hb hby own_d8_0) rfl rfl k) ?_
  show own_Go _ _ _ _ T0 (mkF m 1 #[.val (.ref a1), .val (.ref a2), .unset] [(.ref a1)])
  refine own_st (fun _ k => XS.aloadN X0.here hx rfl (hb hby own_d8_1) rfl rfl k) ?_
  show own_Go _ _ _ _ T0 (mkF m 2 #[.val (.ref a1), .val (.ref a2), .unset] [(.ref a2), (.ref a1)])
  refine own_st (fun _ k => Jvm.RoadKit.acmp (g := (mkF m 2 #[.val (.ref a1), .val (.ref a2), .unset] [(.ref a2), (.ref a1)])) X0 hx rfl rfl rfl (pc0 := 2) (pc' := 7) (same := false) rfl (hb hby own_d8_2) rfl (decide_eq_false fun q => hne (Value.ref.inj q)) (by decide) (by decide) k) ?_
  show own_Go _ _ _ _ T0 (mkF m 7 #[.val (.ref a1), .val (.ref a2), .unset] [])
  refine own_st (fun _ k => XS.aloadN X0.here hx rfl (hb hby own_d8_7) rfl rfl k) ?_
  show own_Go _ _ _ _ T0 (mkF m 8 #[.val (.ref a1), .val (.ref a2), .unset] [(.ref a2)])
  obtain ⟨T1, X1, e1, st1⟩ := instY X0 hx hZ hown (own_w61 hw) e0 (Ins.self (E2.ext O0)) (g := (mkF m 8 #[.val (.ref a1), .val (.ref a2), .unset] [(.ref a2)])) rfl rfl (hb hby own_d8_8)
  refine own_st st1 ?_
  show own_Go _ _ _ _ T1 (mkF m 11 #[.val (.ref a1), .val (.ref a2), .unset] [(.int (1 : Int32))])
  refine own_st (fun _ k => XS.ifNo X1.here hx rfl (hb hby own_d8_11) rfl ((if0 _ _).trans (feq (by decide : ¬ ((1 : Int32) = (0 : Int32)))).1) k) ?_
  show own_Go _ _ _ _ T1 (mkF m 14 #[.val (.ref a1), .val (.ref a2), .unset] [])
  refine own_st (fun _ k => XS.aloadN X1.here hx rfl (hb hby own_d8_14) rfl rfl k) ?_
  show own_Go _ _ _ _ T1 (mkF m 15 #[.val (.ref a1), .val (.ref a2), .unset] [(.ref a2)])
  obtain ⟨T2, X2, e2, st2⟩ := castY X1 hx hZ hown (own_w61 hw) e1 (Ins.self (E2.ext O0)) (g := (mkF m 15 #[.val (.ref a1), .val (.ref a2), .unset] [(.ref a2)])) rfl rfl (hb hby own_d8_15)
  refine own_st st2 ?_
  show own_Go _ _ _ _ T2 (mkF m 18 #[.val (.ref a1), .val (.ref a2), .unset] [(.ref a2)])
  refine own_st (fun _ k => XS.astoreN X2.here hx rfl (hb hby own_d8_18) rfl rfl (l' := #[.val (.ref a1), .val (.ref a2), .val (.ref a2)]) rfl k) ?_
  show own_Go _ _ _ _ T2 (mkF m 19 #[.val (.ref a1), .val (.ref a2), .val (.ref a2)] [])
  obtain ⟨T3, X3, e3, st3⟩ := getS2 X2 hx hZ hown (host := "") (Or.inl (own_w62 hw)) Via.refl e2 (Scs.ext O0) (g := (mkF m 19 #[.val (.ref a1), .val (.ref a2), .val (.ref a2)] [])) rfl (hb hby own_d8_19)
  refine own_st st3 ?_
  show own_Go _ _ _ _ T3 (mkF m 22 #[.val (.ref a1), .val (.ref a2), .val (.ref a2)] [(.int cs)])
  refine own_st (fun _ k => XS.ifNo X3.here hx rfl (hb hby own_d8_22) rfl ((if0 _ _).trans (feq (hcs : ¬ (cs = (0 : Int32)))).1) k) ?_
  show own_Go _ _ _ _ T3 (mkF m 25 #[.val (.ref a1), .val (.ref a2), .val (.ref a2)] [])
  refine own_st (fun _ k => XS.aloadN X3.here hx rfl (hb hby own_d8_25) rfl rfl k) ?_
  show own_Go _ _ _ _ T3 (mkF m 26 #[.val (.ref a1), .val (.ref a2), .val (.ref a2)] [(.ref a1)])
  obtain ⟨T4, X4, e4, st4⟩ := getF X3 hx hZ hown (host := "") (Or.inl (own_w25 hw)) Via.refl e3 (Fc1.ext O0) (g := (mkF m 26 #[.val (.ref a1), .val (.ref a2), .val (.ref a2)] [(.ref a1)])) rfl rfl (hb hby own_d8_26)
  refine own_st st4 ?_
  show own_Go _ _ _ _ T4 (mkF m 29 #[.val (.ref a1), .val (.ref a2), .val (.ref a2)] [(.int (0 : Int32))])
  refine own_st (fun _ k => XS.aloadN X4.here hx rfl (hb hby own_d8_29) rfl rfl k) ?_
  show own_Go _ _ _ _ T4 (mkF m 30 #[.val (.ref a1), .val (.ref a2), .val (.ref a2)] [(.ref a2), (.int (0 : Int32))])
  obtain ⟨T5, X5, e5, st5⟩ := getF X4 hx hZ hown (host := "") (Or.inl (own_w25 hw)) Via.refl e4 (Fc2.ext O0) (g := (mkF m 30 #[.val (.ref a1), .val (.ref a2), .val (.ref a2)] [(.ref a2), (.int (0 : Int32))])) rfl rfl (hb hby own_d8_30)
  refine own_st st5 ?_
  show own_Go _ _ _ _ T5 (mkF m 33 #[.val (.ref a1), .val (.ref a2), .val (.ref a2)] [(.int (0 : Int32)), (.int (0 : Int32))])
  refine own_st (fun _ k => XS.icmpNo X5.here hx rfl (hb hby own_d8_33) rfl (teq (by decide : (0 : Int32) = (0 : Int32))).2 k) ?_
  show own_Go _ _ _ _ T5 (mkF m 36 #[.val (.ref a1), .val (.ref a2), .val (.ref a2)] [])
  refine own_st (fun _ k => XS.aloadN X5.here hx rfl (hb hby own_d8_36) rfl rfl k) ?_
  show own_Go _ _ _ _ T5 (mkF m 37 #[.val (.ref a1), .val (.ref a2), .val (.ref a2)] [(.ref a1)])
  obtain ⟨T6, X6, e6, st6⟩ := getF X5 hx hZ hown (host := "") (Or.inl (own_w24 hw)) Via.refl e5 (Fv1.ext O0) (g := (mkF m 37 #[.val (.ref a1), .val (.ref a2), .val (.ref a2)] [(.ref a1)])) rfl rfl (hb hby own_d8_37)
  refine own_st st6 ?_
  show own_Go _ _ _ _ T6 (mkF m 40 #[.val (.ref a1), .val (.ref a2), .val (.ref a2)] [(.ref b1)])
  refine own_st (fun _ k => XS.aloadN X6.here hx rfl (hb hby own_d8_40) rfl rfl k) ?_
  show own_Go _ _ _ _ T6 (mkF m 41 #[.val (.ref a1), .val (.ref a2), .val (.ref a2)] [(.ref a2), (.ref b1)])
  obtain ⟨T7, X7, e7, st7⟩ := getF X6 hx hZ hown (host := "") (Or.inl (own_w24 hw)) Via.refl e6 (Fv2.ext O0) (g := (mkF m 41 #[.val (.ref a1), .val (.ref a2), .val (.ref a2)] [(.ref a2), (.ref b1)])) rfl rfl (hb hby own_d8_41)
  refine own_st st7 ?_
  show own_Go _ _ _ _ T7 (mkF m 44 #[.val (.ref a1), .val (.ref a2), .val (.ref a2)] [(.ref b2), (.ref b1)])
  obtain ⟨v8, T8, L8, hQ8, X8, st8⟩ := own_callS X7 hx hZ (y := (⟨"java/lang/StringLatin1", "equals", "([B[B)Z"⟩ : MethodName)) hown (own_w63 hw) (own_w64 hw) (own_w65 hw) (own_w66 hw) (by decide) (own_le11 l hw [] b1 b2 k1 k2 x0 y0 h0 n0 (Nat.le_trans Z0 O0.1) (V1.ext O0) (V2.ext O0)) e7 (g := (mkF m 44 #[.val (.ref a1), .val (.ref a2), .val (.ref a2)] [(.ref b2), (.ref b1)])) rfl (by rw [hml]; rfl) (argsL := [(.ref b1), (.ref b2)]) (rest := []) (lenOf own_pd7 rfl) rfl rfl (W := 0) (Nat.le_of_eq rfl) (hb hby own_d8_44) (by decide) (by decide) (by decide) (by decide)
  obtain ⟨rfl, N8, e8⟩ := hQ8
  have N8' := Fr.app N0 N8
  refine own_st st8 ?_
  show own_Go _ _ _ _ T8 (mkF m 47 #[.val (.ref a1), .val (.ref a2), .val (.ref a2)] [(.int (own_eq1 x0 y0))])
  by_cases hc : (own_eq1 x0 y0) = (0 : Int32)
  · refine own_st (fun _ k => XS.ifYes X8.here hx rfl (pc0 := 47) (pc' := 54) rfl (hb hby own_d8_47) rfl ((if0 _ _).trans (teq (hc : (own_eq1 x0 y0) = (0 : Int32))).1) (by decide) (by decide) k) ?_
    show own_Go _ _ _ _ T8 (mkF m 54 #[.val (.ref a1), .val (.ref a2), .val (.ref a2)] [])
    refine own_st (fun _ k => XS.iconst X8.here hx rfl (hb hby own_d8_54) k) ?_
    show own_Go _ _ _ _ T8 (mkF m 55 #[.val (.ref a1), .val (.ref a2), .val (.ref a2)] [(.int (0 : Int32))])
    exact own_retN X8 hx hret (by simp) hlk (hb hby own_d8_55) ⟨by rw [hc]; rfl, N8', e8⟩ (by decide) (by decide)
  · refine own_st (fun _ k => XS.ifNo X8.here hx rfl (hb hby own_d8_47) rfl ((if0 _ _).trans (feq (hc : ¬ ((own_eq1 x0 y0) = (0 : Int32)))).1) k) ?_
    show own_Go _ _ _ _ T8 (mkF m 50 #[.val (.ref a1), .val (.ref a2), .val (.ref a2)] [])
    refine own_st (fun _ k => XS.iconst X8.here hx rfl (hb hby own_d8_50) k) ?_
    show own_Go _ _ _ _ T8 (mkF m 51 #[.val (.ref a1), .val (.ref a2), .val (.ref a2)] [(.int (1 : Int32))])
    refine own_st (fun _ k => XS.goto X8.here hx rfl (pc0 := 51) (pc' := 55) rfl (hb hby own_d8_51) (by decide) (by decide) k) ?_
    show own_Go _ _ _ _ T8 (mkF m 55 #[.val (.ref a1), .val (.ref a2), .val (.ref a2)] [(.int (1 : Int32))])
    exact own_retN X8 hx hret (by simp) hlk (hb hby own_d8_55) ⟨by rw [(own_eq01 x0 y0).resolve_left hc]; rfl, N8', e8⟩ (by decide) (by decide)
def own_le12_Q (Z : State) (a1 a2 : Addr) (k1 k2 : ClassId) (x0 y0 y1 : Int32) (h0 : Heap) (n0 : Nat) (v : Option Value) (h : Heap) (L : List Loc) : Prop := v = some (.int (0 : Int32)) ∧ Fr n0 L ∧ h = h0
set_option maxRecDepth 65536 in
set_option maxHeartbeats 40000000 in
theorem own_le12 (l : Launch) {Z : State} {a0 : Array Value} (hw : own_W Z a0) (ws : List Jvm.Cond) (a1 a2 : Addr) (k1 k2 : ClassId) (x0 y0 y1 : Int32) (h0 : Heap) (n0 : Nat) (Z0 : n0 ≤ h0.size) (V1 : Arv Z h0 a1 k1 .byte (1 : Int32) [(.int x0)] (.int (0 : Int32))) (V2 : Arv Z h0 a2 k2 .byte (2 : Int32) [(.int y0), (.int y1)] (.int (0 : Int32))) :
    MetFree l (⟨"java/lang/StringLatin1", "equals", "([B[B)Z"⟩ : MethodName) (head1 (Jvm.Cond.code (⟨"java/lang/StringLatin1", "equals", "([B[B)Z"⟩ : MethodName) jdk_43_method_13_code 3 (some .boolean) :: ws) ({ frames := 0, cells := 0, slots := 0, locals := 0 } : Room)) (fun a U => a = #[(.ref a1), (.ref a2)] ∧ Z.Warmed39 U.vm ∧ U.heap = h0) (fun _ _ _ _ _ => True) (fun _ U o U' => ∃ v L, o = .returned v ∧ own_le12_Q Z a1 a2 k1 k2 x0 y0 y1 h0 n0 v U'.heap L ∧ FrameEnd U o U' L ({ frames := 0, cells := 0, slots := 0, locals := 0 } : Room).cells ({ frames := 0, cells := 0, slots := 0, locals := 0 } : Room).slots) := by
  refine own_enter (C := ({ frames := 0, cells := 0, slots := 0, locals := 0 } : Room).cells) (S := ({ frames := 0, cells := 0, slots := 0, locals := 0 } : Room).slots) (plainFor_of_name own_pn1) ?_
  intro p e s m below meth c T0 X0 I e0
  obtain ⟨hx, hby, hml, hown, hnm, hret, hlk, hZ⟩ := I
  have N0 := Fr.nil n0
  have O0 := own_extr h0
  refine own_cast (own_ef9 m a1 a2) ?_
  show own_Go _ _ _ _ T0 (mkF m 0 #[.val (.ref a1), .val (.ref a2), .unset] [])
  refine own_st (fun _ k => XS.aloadN X0.here hx rfl (hb hby own_d9_0) rfl rfl k) ?_
  show own_Go _ _ _ _ T0 (mkF m 1 #[.val (.ref a1), .val (.ref a2), .unset] [(.ref a1)])
  refine own_st (own_len X0 hx hZ e0 (V1.ext O0) (g := (mkF m 1 #[.val (.ref a1), .val (.ref a2), .unset] [(.ref a1)])) rfl rfl (hb hby own_d9_1)) ?_
  show own_Go _ _ _ _ T0 (mkF m 2 #[.val (.ref a1), .val (.ref a2), .unset] [(.int (1 : Int32))])
  refine own_st (fun _ k => XS.aloadN X0.here hx rfl (hb hby own_d9_2) rfl rfl k) ?_
  show own_Go _ _ _ _ T0 (mkF m 3 #[.val (.ref a1), .val (.ref a2), .unset] [(.ref a2), (.int (1 : Int32))])
  refine own_st (own_len X0 hx hZ e0 (V2.ext O0) (g := (mkF m 3 #[.val (.ref a1), .val (.ref a2), .unset] [(.ref a2), (.int (1 : Int32))])) rfl rfl (hb hby own_d9_3)) ?_
  show own_Go _ _ _ _ T0 (mkF m 4 #[.val (.ref a1), .val (.ref a2), .unset] [(.int (2 : Int32)), (.int (1 : Int32))])
  refine own_st (fun _ k => XS.icmpYes X0.here hx rfl (pc0 := 4) (pc' := 34) rfl (hb hby own_d9_4) rfl (feq (by decide : ¬ ((1 : Int32) = (2 : Int32)))).2 (by decide) (by decide) k) ?_
  show own_Go _ _ _ _ T0 (mkF m 34 #[.val (.ref a1), .val (.ref a2), .unset] [])
  refine own_st (fun _ k => XS.iconst X0.here hx rfl (hb hby own_d9_34) k) ?_
  show own_Go _ _ _ _ T0 (mkF m 35 #[.val (.ref a1), .val (.ref a2), .unset] [(.int (0 : Int32))])
  exact own_retN X0 hx hret (by simp) hlk (hb hby own_d9_35) ⟨rfl, N0, e0⟩ (by decide) (by decide)
def own_se12_Q (Z : State) (a1 a2 b1 b2 : Addr) (k1 k2 : ClassId) (cs : Int32) (x0 y0 y1 : Int32) (h0 : Heap) (n0 : Nat) (v : Option Value) (h : Heap) (L : List Loc) : Prop := v = some (.int (0 : Int32)) ∧ Fr n0 L ∧ h = h0
set_option maxRecDepth 65536 in
set_option maxHeartbeats 40000000 in
theorem own_se12 (l : Launch) {Z : State} {a0 : Array Value} (hw : own_W Z a0) (ws : List Jvm.Cond) (a1 a2 b1 b2 : Addr) (k1 k2 : ClassId) (cs : Int32) (x0 y0 y1 : Int32) (h0 : Heap) (n0 : Nat) (Z0 : n0 ≤ h0.size) (Scs : Sta Z h0 "java/lang/String" "COMPACT_STRINGS" "Z" (.int cs)) (hcs : ¬ cs = 0) (hne : ¬ a1 = a2) (E2 : Exa Z h0 a2 "java/lang/String") (Fv1 : Fld Z h0 a1 "java/lang/String" "value" "[B" (.ref b1)) (Fc1 : Fld Z h0 a1 "java/lang/String" "coder" "B" (.int (0 : Int32))) (V1 : Arv Z h0 b1 k1 .byte (1 : Int32) [(.int x0)] (.int (0 : Int32))) (Fv2 : Fld Z h0 a2 "java/lang/String" "value" "[B" (.ref b2)) (Fc2 : Fld Z h0 a2 "java/lang/String" "coder" "B" (.int (0 : Int32))) (V2 : Arv Z h0 b2 k2 .byte (2 : Int32) [(.int y0), (.int y1)] (.int (0 : Int32))) :
    MetFree l (⟨"java/lang/String", "equals", "(Ljava/lang/Object;)Z"⟩ : MethodName) (head1 (Jvm.Cond.code (⟨"java/lang/String", "equals", "(Ljava/lang/Object;)Z"⟩ : MethodName) jdk_42_method_66_code 3 (some .boolean) :: ws) ({ frames := 1, cells := 0, slots := 0, locals := 14 } : Room)) (fun a U => a = #[(.ref a1), (.ref a2)] ∧ Z.Warmed39 U.vm ∧ U.heap = h0) (fun _ _ _ _ _ => True) (fun _ U o U' => ∃ v L, o = .returned v ∧ own_se12_Q Z a1 a2 b1 b2 k1 k2 cs x0 y0 y1 h0 n0 v U'.heap L ∧ FrameEnd U o U' L ({ frames := 1, cells := 0, slots := 0, locals := 14 } : Room).cells ({ frames := 1, cells := 0, slots := 0, locals := 14 } : Room).slots) := by
  refine own_enter (C := ({ frames := 1, cells := 0, slots := 0, locals := 14 } : Room).cells) (S := ({ frames := 1, cells := 0, slots := 0, locals := 14 } : Room).slots) (plainFor_of_name own_pn2) ?_
  intro p e s m below meth c T0 X0 I e0
  obtain ⟨hx, hby, hml, hown, hnm, hret, hlk, hZ⟩ := I
  have N0 := Fr.nil n0
  have O0 := own_extr h0
  refine own_cast (own_ef8 m a1 a2) ?_
  show own_Go _ _ _ _ T0 (mkF m 0 #[.val (.ref a1), .val (.ref a2), .unset] [])
  refine own_st (fun _ k => XS.aloadN X0.here hx rfl (hb hby own_d8_0) rfl rfl k) ?_
  show own_Go _ _ _ _ T0 (mkF m 1 #[.val (.ref a1), .val (.ref a2), .unset] [(.ref a1)])
  refine own_st (fun _ k => XS.aloadN X0.here hx rfl (hb hby own_d8_1) rfl rfl k) ?_
  show own_Go _ _ _ _ T0 (mkF m 2 #[.val (.ref a1), .val (.ref a2), .unset] [(.ref a2), (.ref a1)])
  refine own_st (fun _ k => Jvm.RoadKit.acmp (g := (mkF m 2 #[.val (.ref a1), .val (.ref a2), .unset] [(.ref a2), (.ref a1)])) X0 hx rfl rfl rfl (pc0 := 2) (pc' := 7) (same := false) rfl (hb hby own_d8_2) rfl (decide_eq_false fun q => hne (Value.ref.inj q)) (by decide) (by decide) k) ?_
  show own_Go _ _ _ _ T0 (mkF m 7 #[.val (.ref a1), .val (.ref a2), .unset] [])
  refine own_st (fun _ k => XS.aloadN X0.here hx rfl (hb hby own_d8_7) rfl rfl k) ?_
  show own_Go _ _ _ _ T0 (mkF m 8 #[.val (.ref a1), .val (.ref a2), .unset] [(.ref a2)])
  obtain ⟨T1, X1, e1, st1⟩ := instY X0 hx hZ hown (own_w61 hw) e0 (Ins.self (E2.ext O0)) (g := (mkF m 8 #[.val (.ref a1), .val (.ref a2), .unset] [(.ref a2)])) rfl rfl (hb hby own_d8_8)
  refine own_st st1 ?_
  show own_Go _ _ _ _ T1 (mkF m 11 #[.val (.ref a1), .val (.ref a2), .unset] [(.int (1 : Int32))])
  refine own_st (fun _ k => XS.ifNo X1.here hx rfl (hb hby own_d8_11) rfl ((if0 _ _).trans (feq (by decide : ¬ ((1 : Int32) = (0 : Int32)))).1) k) ?_
  show own_Go _ _ _ _ T1 (mkF m 14 #[.val (.ref a1), .val (.ref a2), .unset] [])
  refine own_st (fun _ k => XS.aloadN X1.here hx rfl (hb hby own_d8_14) rfl rfl k) ?_
  show own_Go _ _ _ _ T1 (mkF m 15 #[.val (.ref a1), .val (.ref a2), .unset] [(.ref a2)])
  obtain ⟨T2, X2, e2, st2⟩ := castY X1 hx hZ hown (own_w61 hw) e1 (Ins.self (E2.ext O0)) (g := (mkF m 15 #[.val (.ref a1), .val (.ref a2), .unset] [(.ref a2)])) rfl rfl (hb hby own_d8_15)
  refine own_st st2 ?_
  show own_Go _ _ _ _ T2 (mkF m 18 #[.val (.ref a1), .val (.ref a2), .unset] [(.ref a2)])
  refine own_st (fun _ k => XS.astoreN X2.here hx rfl (hb hby own_d8_18) rfl rfl (l' := #[.val (.ref a1), .val (.ref a2), .val (.ref a2)]) rfl k) ?_
  show own_Go _ _ _ _ T2 (mkF m 19 #[.val (.ref a1), .val (.ref a2), .val (.ref a2)] [])
  obtain ⟨T3, X3, e3, st3⟩ := getS2 X2 hx hZ hown (host := "") (Or.inl (own_w62 hw)) Via.refl e2 (Scs.ext O0) (g := (mkF m 19 #[.val (.ref a1), .val (.ref a2), .val (.ref a2)] [])) rfl (hb hby own_d8_19)
  refine own_st st3 ?_
  show own_Go _ _ _ _ T3 (mkF m 22 #[.val (.ref a1), .val (.ref a2), .val (.ref a2)] [(.int cs)])
  refine own_st (fun _ k => XS.ifNo X3.here hx rfl (hb hby own_d8_22) rfl ((if0 _ _).trans (feq (hcs : ¬ (cs = (0 : Int32)))).1) k) ?_
  show own_Go _ _ _ _ T3 (mkF m 25 #[.val (.ref a1), .val (.ref a2), .val (.ref a2)] [])
  refine own_st (fun _ k => XS.aloadN X3.here hx rfl (hb hby own_d8_25) rfl rfl k) ?_
  show own_Go _ _ _ _ T3 (mkF m 26 #[.val (.ref a1), .val (.ref a2), .val (.ref a2)] [(.ref a1)])
  obtain ⟨T4, X4, e4, st4⟩ := getF X3 hx hZ hown (host := "") (Or.inl (own_w25 hw)) Via.refl e3 (Fc1.ext O0) (g := (mkF m 26 #[.val (.ref a1), .val (.ref a2), .val (.ref a2)] [(.ref a1)])) rfl rfl (hb hby own_d8_26)
  refine own_st st4 ?_
  show own_Go _ _ _ _ T4 (mkF m 29 #[.val (.ref a1), .val (.ref a2), .val (.ref a2)] [(.int (0 : Int32))])
  refine own_st (fun _ k => XS.aloadN X4.here hx rfl (hb hby own_d8_29) rfl rfl k) ?_
  show own_Go _ _ _ _ T4 (mkF m 30 #[.val (.ref a1), .val (.ref a2), .val (.ref a2)] [(.ref a2), (.int (0 : Int32))])
  obtain ⟨T5, X5, e5, st5⟩ := getF X4 hx hZ hown (host := "") (Or.inl (own_w25 hw)) Via.refl e4 (Fc2.ext O0) (g := (mkF m 30 #[.val (.ref a1), .val (.ref a2), .val (.ref a2)] [(.ref a2), (.int (0 : Int32))])) rfl rfl (hb hby own_d8_30)
  refine own_st st5 ?_
  show own_Go _ _ _ _ T5 (mkF m 33 #[.val (.ref a1), .val (.ref a2), .val (.ref a2)] [(.int (0 : Int32)), (.int (0 : Int32))])
  refine own_st (fun _ k => XS.icmpNo X5.here hx rfl (hb hby own_d8_33) rfl (teq (by decide : (0 : Int32) = (0 : Int32))).2 k) ?_
  show own_Go _ _ _ _ T5 (mkF m 36 #[.val (.ref a1), .val (.ref a2), .val (.ref a2)] [])
  refine own_st (fun _ k => XS.aloadN X5.here hx rfl (hb hby own_d8_36) rfl rfl k) ?_
  show own_Go _ _ _ _ T5 (mkF m 37 #[.val (.ref a1), .val (.ref a2), .val (.ref a2)] [(.ref a1)])
  obtain ⟨T6, X6, e6, st6⟩ := getF X5 hx hZ hown (host := "") (Or.inl (own_w24 hw)) Via.refl e5 (Fv1.ext O0) (g := (mkF m 37 #[.val (.ref a1), .val (.ref a2), .val (.ref a2)] [(.ref a1)])) rfl rfl (hb hby own_d8_37)
  refine own_st st6 ?_
  show own_Go _ _ _ _ T6 (mkF m 40 #[.val (.ref a1), .val (.ref a2), .val (.ref a2)] [(.ref b1)])
  refine own_st (fun _ k => XS.aloadN X6.here hx rfl (hb hby own_d8_40) rfl rfl k) ?_
  show own_Go _ _ _ _ T6 (mkF m 41 #[.val (.ref a1), .val (.ref a2), .val (.ref a2)] [(.ref a2), (.ref b1)])
  obtain ⟨T7, X7, e7, st7⟩ := getF X6 hx hZ hown (host := "") (Or.inl (own_w24 hw)) Via.refl e6 (Fv2.ext O0) (g := (mkF m 41 #[.val (.ref a1), .val (.ref a2), .val (.ref a2)] [(.ref a2), (.ref b1)])) rfl rfl (hb hby own_d8_41)
  refine own_st st7 ?_
  show own_Go _ _ _ _ T7 (mkF m 44 #[.val (.ref a1), .val (.ref a2), .val (.ref a2)] [(.ref b2), (.ref b1)])
  obtain ⟨v8, T8, L8, hQ8, X8, st8⟩ := own_callS X7 hx hZ (y := (⟨"java/lang/StringLatin1", "equals", "([B[B)Z"⟩ : MethodName)) hown (own_w63 hw) (own_w64 hw) (own_w65 hw) (own_w66 hw) (by decide) (own_le12 l hw [] b1 b2 k1 k2 x0 y0 y1 h0 n0 (Nat.le_trans Z0 O0.1) (V1.ext O0) (V2.ext O0)) e7 (g := (mkF m 44 #[.val (.ref a1), .val (.ref a2), .val (.ref a2)] [(.ref b2), (.ref b1)])) rfl (by rw [hml]; rfl) (argsL := [(.ref b1), (.ref b2)]) (rest := []) (lenOf own_pd7 rfl) rfl rfl (W := 0) (Nat.le_of_eq rfl) (hb hby own_d8_44) (by decide) (by decide) (by decide) (by decide)
  obtain ⟨rfl, N8, e8⟩ := hQ8
  have N8' := Fr.app N0 N8
  refine own_st st8 ?_
  show own_Go _ _ _ _ T8 (mkF m 47 #[.val (.ref a1), .val (.ref a2), .val (.ref a2)] [(.int (0 : Int32))])
  refine own_st (fun _ k => XS.ifYes X8.here hx rfl (pc0 := 47) (pc' := 54) rfl (hb hby own_d8_47) rfl ((if0 _ _).trans (teq (by decide : (0 : Int32) = (0 : Int32))).1) (by decide) (by decide) k) ?_
  show own_Go _ _ _ _ T8 (mkF m 54 #[.val (.ref a1), .val (.ref a2), .val (.ref a2)] [])
  refine own_st (fun _ k => XS.iconst X8.here hx rfl (hb hby own_d8_54) k) ?_
  show own_Go _ _ _ _ T8 (mkF m 55 #[.val (.ref a1), .val (.ref a2), .val (.ref a2)] [(.int (0 : Int32))])
  exact own_retN X8 hx hret (by simp) hlk (hb hby own_d8_55) ⟨rfl, N8', e8⟩ (by decide) (by decide)
def own_le13_Q (Z : State) (a1 a2 : Addr) (k1 k2 : ClassId) (x0 y0 y1 y2 : Int32) (h0 : Heap) (n0 : Nat) (v : Option Value) (h : Heap) (L : List Loc) : Prop := v = some (.int (0 : Int32)) ∧ Fr n0 L ∧ h = h0
set_option maxRecDepth 65536 in
set_option maxHeartbeats 40000000 in
theorem own_le13 (l : Launch) {Z : State} {a0 : Array Value} (hw : own_W Z a0) (ws : List Jvm.Cond) (a1 a2 : Addr) (k1 k2 : ClassId) (x0 y0 y1 y2 : Int32) (h0 : Heap) (n0 : Nat) (Z0 : n0 ≤ h0.size) (V1 : Arv Z h0 a1 k1 .byte (1 : Int32) [(.int x0)] (.int (0 : Int32))) (V2 : Arv Z h0 a2 k2 .byte (3 : Int32) [(.int y0), (.int y1), (.int y2)] (.int (0 : Int32))) :
    MetFree l (⟨"java/lang/StringLatin1", "equals", "([B[B)Z"⟩ : MethodName) (head1 (Jvm.Cond.code (⟨"java/lang/StringLatin1", "equals", "([B[B)Z"⟩ : MethodName) jdk_43_method_13_code 3 (some .boolean) :: ws) ({ frames := 0, cells := 0, slots := 0, locals := 0 } : Room)) (fun a U => a = #[(.ref a1), (.ref a2)] ∧ Z.Warmed39 U.vm ∧ U.heap = h0) (fun _ _ _ _ _ => True) (fun _ U o U' => ∃ v L, o = .returned v ∧ own_le13_Q Z a1 a2 k1 k2 x0 y0 y1 y2 h0 n0 v U'.heap L ∧ FrameEnd U o U' L ({ frames := 0, cells := 0, slots := 0, locals := 0 } : Room).cells ({ frames := 0, cells := 0, slots := 0, locals := 0 } : Room).slots) := by
  refine own_enter (C := ({ frames := 0, cells := 0, slots := 0, locals := 0 } : Room).cells) (S := ({ frames := 0, cells := 0, slots := 0, locals := 0 } : Room).slots) (plainFor_of_name own_pn1) ?_
  intro p e s m below meth c T0 X0 I e0
  obtain ⟨hx, hby, hml, hown, hnm, hret, hlk, hZ⟩ := I
  have N0 := Fr.nil n0
  have O0 := own_extr h0
  refine own_cast (own_ef9 m a1 a2) ?_
  show own_Go _ _ _ _ T0 (mkF m 0 #[.val (.ref a1), .val (.ref a2), .unset] [])
  refine own_st (fun _ k => XS.aloadN X0.here hx rfl (hb hby own_d9_0) rfl rfl k) ?_
  show own_Go _ _ _ _ T0 (mkF m 1 #[.val (.ref a1), .val (.ref a2), .unset] [(.ref a1)])
  refine own_st (own_len X0 hx hZ e0 (V1.ext O0) (g := (mkF m 1 #[.val (.ref a1), .val (.ref a2), .unset] [(.ref a1)])) rfl rfl (hb hby own_d9_1)) ?_
  show own_Go _ _ _ _ T0 (mkF m 2 #[.val (.ref a1), .val (.ref a2), .unset] [(.int (1 : Int32))])
  refine own_st (fun _ k => XS.aloadN X0.here hx rfl (hb hby own_d9_2) rfl rfl k) ?_
  show own_Go _ _ _ _ T0 (mkF m 3 #[.val (.ref a1), .val (.ref a2), .unset] [(.ref a2), (.int (1 : Int32))])
  refine own_st (own_len X0 hx hZ e0 (V2.ext O0) (g := (mkF m 3 #[.val (.ref a1), .val (.ref a2), .unset] [(.ref a2), (.int (1 : Int32))])) rfl rfl (hb hby own_d9_3)) ?_
  show own_Go _ _ _ _ T0 (mkF m 4 #[.val (.ref a1), .val (.ref a2), .unset] [(.int (3 : Int32)), (.int (1 : Int32))])
  refine own_st (fun _ k => XS.icmpYes X0.here hx rfl (pc0 := 4) (pc' := 34) rfl (hb hby own_d9_4) rfl (feq (by decide : ¬ ((1 : Int32) = (3 : Int32)))).2 (by decide) (by decide) k) ?_
  show own_Go _ _ _ _ T0 (mkF m 34 #[.val (.ref a1), .val (.ref a2), .unset] [])
  refine own_st (fun _ k => XS.iconst X0.here hx rfl (hb hby own_d9_34) k) ?_
  show own_Go _ _ _ _ T0 (mkF m 35 #[.val (.ref a1), .val (.ref a2), .unset] [(.int (0 : Int32))])
  exact own_retN X0 hx hret (by simp) hlk (hb hby own_d9_35) ⟨rfl, N0, e0⟩ (by decide) (by decide)
def own_se13_Q (Z : State) (a1 a2 b1 b2 : Addr) (k1 k2 : ClassId) (cs : Int32) (x0 y0 y1 y2 : Int32) (h0 : Heap) (n0 : Nat) (v : Option Value) (h : Heap) (L : List Loc) : Prop := v = some (.int (0 : Int32)) ∧ Fr n0 L ∧ h = h0
set_option maxRecDepth 65536 in
set_option maxHeartbeats 40000000 in
theorem own_se13 (l : Launch) {Z : State} {a0 : Array Value} (hw : own_W Z a0) (ws : List Jvm.Cond) (a1 a2 b1 b2 : Addr) (k1 k2 : ClassId) (cs : Int32) (x0 y0 y1 y2 : Int32) (h0 : Heap) (n0 : Nat) (Z0 : n0 ≤ h0.size) (Scs : Sta Z h0 "java/lang/String" "COMPACT_STRINGS" "Z" (.int cs)) (hcs : ¬ cs = 0) (hne : ¬ a1 = a2) (E2 : Exa Z h0 a2 "java/lang/String") (Fv1 : Fld Z h0 a1 "java/lang/String" "value" "[B" (.ref b1)) (Fc1 : Fld Z h0 a1 "java/lang/String" "coder" "B" (.int (0 : Int32))) (V1 : Arv Z h0 b1 k1 .byte (1 : Int32) [(.int x0)] (.int (0 : Int32))) (Fv2 : Fld Z h0 a2 "java/lang/String" "value" "[B" (.ref b2)) (Fc2 : Fld Z h0 a2 "java/lang/String" "coder" "B" (.int (0 : Int32))) (V2 : Arv Z h0 b2 k2 .byte (3 : Int32) [(.int y0), (.int y1), (.int y2)] (.int (0 : Int32))) :
    MetFree l (⟨"java/lang/String", "equals", "(Ljava/lang/Object;)Z"⟩ : MethodName) (head1 (Jvm.Cond.code (⟨"java/lang/String", "equals", "(Ljava/lang/Object;)Z"⟩ : MethodName) jdk_42_method_66_code 3 (some .boolean) :: ws) ({ frames := 1, cells := 0, slots := 0, locals := 14 } : Room)) (fun a U => a = #[(.ref a1), (.ref a2)] ∧ Z.Warmed39 U.vm ∧ U.heap = h0) (fun _ _ _ _ _ => True) (fun _ U o U' => ∃ v L, o = .returned v ∧ own_se13_Q Z a1 a2 b1 b2 k1 k2 cs x0 y0 y1 y2 h0 n0 v U'.heap L ∧ FrameEnd U o U' L ({ frames := 1, cells := 0, slots := 0, locals := 14 } : Room).cells ({ frames := 1, cells := 0, slots := 0, locals := 14 } : Room).slots) := by
  refine own_enter (C := ({ frames := 1, cells := 0, slots := 0, locals := 14 } : Room).cells) (S := ({ frames := 1, cells := 0, slots := 0, locals := 14 } : Room).slots) (plainFor_of_name own_pn2) ?_
  intro p e s m below meth c T0 X0 I e0
  obtain ⟨hx, hby, hml, hown, hnm, hret, hlk, hZ⟩ := I
  have N0 := Fr.nil n0
  have O0 := own_extr h0
  refine own_cast (own_ef8 m a1 a2) ?_
  show own_Go _ _ _ _ T0 (mkF m 0 #[.val (.ref a1), .val (.ref a2), .unset] [])
  refine own_st (fun _ k => XS.aloadN X0.here hx rfl (hb hby own_d8_0) rfl rfl k) ?_
  show own_Go _ _ _ _ T0 (mkF m 1 #[.val (.ref a1), .val (.ref a2), .unset] [(.ref a1)])
  refine own_st (fun _ k => XS.aloadN X0.here hx rfl (hb hby own_d8_1) rfl rfl k) ?_
  show own_Go _ _ _ _ T0 (mkF m 2 #[.val (.ref a1), .val (.ref a2), .unset] [(.ref a2), (.ref a1)])
  refine own_st (fun _ k => Jvm.RoadKit.acmp (g := (mkF m 2 #[.val (.ref a1), .val (.ref a2), .unset] [(.ref a2), (.ref a1)])) X0 hx rfl rfl rfl (pc0 := 2) (pc' := 7) (same := false) rfl (hb hby own_d8_2) rfl (decide_eq_false fun q => hne (Value.ref.inj q)) (by decide) (by decide) k) ?_
  show own_Go _ _ _ _ T0 (mkF m 7 #[.val (.ref a1), .val (.ref a2), .unset] [])
  refine own_st (fun _ k => XS.aloadN X0.here hx rfl (hb hby own_d8_7) rfl rfl k) ?_
  show own_Go _ _ _ _ T0 (mkF m 8 #[.val (.ref a1), .val (.ref a2), .unset] [(.ref a2)])
  obtain ⟨T1, X1, e1, st1⟩ := instY X0 hx hZ hown (own_w61 hw) e0 (Ins.self (E2.ext O0)) (g := (mkF m 8 #[.val (.ref a1), .val (.ref a2), .unset] [(.ref a2)])) rfl rfl (hb hby own_d8_8)
  refine own_st st1 ?_
  show own_Go _ _ _ _ T1 (mkF m 11 #[.val (.ref a1), .val (.ref a2), .unset] [(.int (1 : Int32))])
  refine own_st (fun _ k => XS.ifNo X1.here hx rfl (hb hby own_d8_11) rfl ((if0 _ _).trans (feq (by decide : ¬ ((1 : Int32) = (0 : Int32)))).1) k) ?_
  show own_Go _ _ _ _ T1 (mkF m 14 #[.val (.ref a1), .val (.ref a2), .unset] [])
  refine own_st (fun _ k => XS.aloadN X1.here hx rfl (hb hby own_d8_14) rfl rfl k) ?_
  show own_Go _ _ _ _ T1 (mkF m 15 #[.val (.ref a1), .val (.ref a2), .unset] [(.ref a2)])
  obtain ⟨T2, X2, e2, st2⟩ := castY X1 hx hZ hown (own_w61 hw) e1 (Ins.self (E2.ext O0)) (g := (mkF m 15 #[.val (.ref a1), .val (.ref a2), .unset] [(.ref a2)])) rfl rfl (hb hby own_d8_15)
  refine own_st st2 ?_
  show own_Go _ _ _ _ T2 (mkF m 18 #[.val (.ref a1), .val (.ref a2), .unset] [(.ref a2)])
  refine own_st (fun _ k => XS.astoreN X2.here hx rfl (hb hby own_d8_18) rfl rfl (l' := #[.val (.ref a1), .val (.ref a2), .val (.ref a2)]) rfl k) ?_
  show own_Go _ _ _ _ T2 (mkF m 19 #[.val (.ref a1), .val (.ref a2), .val (.ref a2)] [])
  obtain ⟨T3, X3, e3, st3⟩ := getS2 X2 hx hZ hown (host := "") (Or.inl (own_w62 hw)) Via.refl e2 (Scs.ext O0) (g := (mkF m 19 #[.val (.ref a1), .val (.ref a2), .val (.ref a2)] [])) rfl (hb hby own_d8_19)
  refine own_st st3 ?_
  show own_Go _ _ _ _ T3 (mkF m 22 #[.val (.ref a1), .val (.ref a2), .val (.ref a2)] [(.int cs)])
  refine own_st (fun _ k => XS.ifNo X3.here hx rfl (hb hby own_d8_22) rfl ((if0 _ _).trans (feq (hcs : ¬ (cs = (0 : Int32)))).1) k) ?_
  show own_Go _ _ _ _ T3 (mkF m 25 #[.val (.ref a1), .val (.ref a2), .val (.ref a2)] [])
  refine own_st (fun _ k => XS.aloadN X3.here hx rfl (hb hby own_d8_25) rfl rfl k) ?_
  show own_Go _ _ _ _ T3 (mkF m 26 #[.val (.ref a1), .val (.ref a2), .val (.ref a2)] [(.ref a1)])
  obtain ⟨T4, X4, e4, st4⟩ := getF X3 hx hZ hown (host := "") (Or.inl (own_w25 hw)) Via.refl e3 (Fc1.ext O0) (g := (mkF m 26 #[.val (.ref a1), .val (.ref a2), .val (.ref a2)] [(.ref a1)])) rfl rfl (hb hby own_d8_26)
  refine own_st st4 ?_
  show own_Go _ _ _ _ T4 (mkF m 29 #[.val (.ref a1), .val (.ref a2), .val (.ref a2)] [(.int (0 : Int32))])
  refine own_st (fun _ k => XS.aloadN X4.here hx rfl (hb hby own_d8_29) rfl rfl k) ?_
  show own_Go _ _ _ _ T4 (mkF m 30 #[.val (.ref a1), .val (.ref a2), .val (.ref a2)] [(.ref a2), (.int (0 : Int32))])
  obtain ⟨T5, X5, e5, st5⟩ := getF X4 hx hZ hown (host := "") (Or.inl (own_w25 hw)) Via.refl e4 (Fc2.ext O0) (g := (mkF m 30 #[.val (.ref a1), .val (.ref a2), .val (.ref a2)] [(.ref a2), (.int (0 : Int32))])) rfl rfl (hb hby own_d8_30)
  refine own_st st5 ?_
  show own_Go _ _ _ _ T5 (mkF m 33 #[.val (.ref a1), .val (.ref a2), .val (.ref a2)] [(.int (0 : Int32)), (.int (0 : Int32))])
  refine own_st (fun _ k => XS.icmpNo X5.here hx rfl (hb hby own_d8_33) rfl (teq (by decide : (0 : Int32) = (0 : Int32))).2 k) ?_
  show own_Go _ _ _ _ T5 (mkF m 36 #[.val (.ref a1), .val (.ref a2), .val (.ref a2)] [])
  refine own_st (fun _ k => XS.aloadN X5.here hx rfl (hb hby own_d8_36) rfl rfl k) ?_
  show own_Go _ _ _ _ T5 (mkF m 37 #[.val (.ref a1), .val (.ref a2), .val (.ref a2)] [(.ref a1)])
  obtain ⟨T6, X6, e6, st6⟩ := getF X5 hx hZ hown (host := "") (Or.inl (own_w24 hw)) Via.refl e5 (Fv1.ext O0) (g := (mkF m 37 #[.val (.ref a1), .val (.ref a2), .val (.ref a2)] [(.ref a1)])) rfl rfl (hb hby own_d8_37)
  refine own_st st6 ?_
  show own_Go _ _ _ _ T6 (mkF m 40 #[.val (.ref a1), .val (.ref a2), .val (.ref a2)] [(.ref b1)])
  refine own_st (fun _ k => XS.aloadN X6.here hx rfl (hb hby own_d8_40) rfl rfl k) ?_
  show own_Go _ _ _ _ T6 (mkF m 41 #[.val (.ref a1), .val (.ref a2), .val (.ref a2)] [(.ref a2), (.ref b1)])
  obtain ⟨T7, X7, e7, st7⟩ := getF X6 hx hZ hown (host := "") (Or.inl (own_w24 hw)) Via.refl e6 (Fv2.ext O0) (g := (mkF m 41 #[.val (.ref a1), .val (.ref a2), .val (.ref a2)] [(.ref a2), (.ref b1)])) rfl rfl (hb hby own_d8_41)
  refine own_st st7 ?_
  show own_Go _ _ _ _ T7 (mkF m 44 #[.val (.ref a1), .val (.ref a2), .val (.ref a2)] [(.ref b2), (.ref b1)])
  obtain ⟨v8, T8, L8, hQ8, X8, st8⟩ := own_callS X7 hx hZ (y := (⟨"java/lang/StringLatin1", "equals", "([B[B)Z"⟩ : MethodName)) hown (own_w63 hw) (own_w64 hw) (own_w65 hw) (own_w66 hw) (by decide) (own_le13 l hw [] b1 b2 k1 k2 x0 y0 y1 y2 h0 n0 (Nat.le_trans Z0 O0.1) (V1.ext O0) (V2.ext O0)) e7 (g := (mkF m 44 #[.val (.ref a1), .val (.ref a2), .val (.ref a2)] [(.ref b2), (.ref b1)])) rfl (by rw [hml]; rfl) (argsL := [(.ref b1), (.ref b2)]) (rest := []) (lenOf own_pd7 rfl) rfl rfl (W := 0) (Nat.le_of_eq rfl) (hb hby own_d8_44) (by decide) (by decide) (by decide) (by decide)
  obtain ⟨rfl, N8, e8⟩ := hQ8
  have N8' := Fr.app N0 N8
  refine own_st st8 ?_
  show own_Go _ _ _ _ T8 (mkF m 47 #[.val (.ref a1), .val (.ref a2), .val (.ref a2)] [(.int (0 : Int32))])
  refine own_st (fun _ k => XS.ifYes X8.here hx rfl (pc0 := 47) (pc' := 54) rfl (hb hby own_d8_47) rfl ((if0 _ _).trans (teq (by decide : (0 : Int32) = (0 : Int32))).1) (by decide) (by decide) k) ?_
  show own_Go _ _ _ _ T8 (mkF m 54 #[.val (.ref a1), .val (.ref a2), .val (.ref a2)] [])
  refine own_st (fun _ k => XS.iconst X8.here hx rfl (hb hby own_d8_54) k) ?_
  show own_Go _ _ _ _ T8 (mkF m 55 #[.val (.ref a1), .val (.ref a2), .val (.ref a2)] [(.int (0 : Int32))])
  exact own_retN X8 hx hret (by simp) hlk (hb hby own_d8_55) ⟨rfl, N8', e8⟩ (by decide) (by decide)
def own_le20_Q (Z : State) (a1 a2 : Addr) (k1 k2 : ClassId) (x0 x1 : Int32) (h0 : Heap) (n0 : Nat) (v : Option Value) (h : Heap) (L : List Loc) : Prop := v = some (.int (0 : Int32)) ∧ Fr n0 L ∧ h = h0
set_option maxRecDepth 65536 in
set_option maxHeartbeats 40000000 in
theorem own_le20 (l : Launch) {Z : State} {a0 : Array Value} (hw : own_W Z a0) (ws : List Jvm.Cond) (a1 a2 : Addr) (k1 k2 : ClassId) (x0 x1 : Int32) (h0 : Heap) (n0 : Nat) (Z0 : n0 ≤ h0.size) (V1 : Arv Z h0 a1 k1 .byte (2 : Int32) [(.int x0), (.int x1)] (.int (0 : Int32))) (V2 : Arv Z h0 a2 k2 .byte (0 : Int32) [] (.int (0 : Int32))) :
    MetFree l (⟨"java/lang/StringLatin1", "equals", "([B[B)Z"⟩ : MethodName) (head1 (Jvm.Cond.code (⟨"java/lang/StringLatin1", "equals", "([B[B)Z"⟩ : MethodName) jdk_43_method_13_code 3 (some .boolean) :: ws) ({ frames := 0, cells := 0, slots := 0, locals := 0 } : Room)) (fun a U => a = #[(.ref a1), (.ref a2)] ∧ Z.Warmed39 U.vm ∧ U.heap = h0) (fun _ _ _ _ _ => True) (fun _ U o U' => ∃ v L, o = .returned v ∧ own_le20_Q Z a1 a2 k1 k2 x0 x1 h0 n0 v U'.heap L ∧ FrameEnd U o U' L ({ frames := 0, cells := 0, slots := 0, locals := 0 } : Room).cells ({ frames := 0, cells := 0, slots := 0, locals := 0 } : Room).slots) := by
  refine own_enter (C := ({ frames := 0, cells := 0, slots := 0, locals := 0 } : Room).cells) (S := ({ frames := 0, cells := 0, slots := 0, locals := 0 } : Room).slots) (plainFor_of_name own_pn1) ?_
  intro p e s m below meth c T0 X0 I e0
  obtain ⟨hx, hby, hml, hown, hnm, hret, hlk, hZ⟩ := I
  have N0 := Fr.nil n0
  have O0 := own_extr h0
  refine own_cast (own_ef9 m a1 a2) ?_
  show own_Go _ _ _ _ T0 (mkF m 0 #[.val (.ref a1), .val (.ref a2), .unset] [])
  refine own_st (fun _ k => XS.aloadN X0.here hx rfl (hb hby own_d9_0) rfl rfl k) ?_
  show own_Go _ _ _ _ T0 (mkF m 1 #[.val (.ref a1), .val (.ref a2), .unset] [(.ref a1)])
  refine own_st (own_len X0 hx hZ e0 (V1.ext O0) (g := (mkF m 1 #[.val (.ref a1), .val (.ref a2), .unset] [(.ref a1)])) rfl rfl (hb hby own_d9_1)) ?_
  show own_Go _ _ _ _ T0 (mkF m 2 #[.val (.ref a1), .val (.ref a2), .unset] [(.int (2 : Int32))])
  refine own_st (fun _ k => XS.aloadN X0.here hx rfl (hb hby own_d9_2) rfl rfl k) ?_
  show own_Go _ _ _ _ T0 (mkF m 3 #[.val (.ref a1), .val (.ref a2), .unset] [(.ref a2), (.int (2 : Int32))])
  refine own_st (own_len X0 hx hZ e0 (V2.ext O0) (g := (mkF m 3 #[.val (.ref a1), .val (.ref a2), .unset] [(.ref a2), (.int (2 : Int32))])) rfl rfl (hb hby own_d9_3)) ?_
  show own_Go _ _ _ _ T0 (mkF m 4 #[.val (.ref a1), .val (.ref a2), .unset] [(.int (0 : Int32)), (.int (2 : Int32))])
  refine own_st (fun _ k => XS.icmpYes X0.here hx rfl (pc0 := 4) (pc' := 34) rfl (hb hby own_d9_4) rfl (feq (by decide : ¬ ((2 : Int32) = (0 : Int32)))).2 (by decide) (by decide) k) ?_
  show own_Go _ _ _ _ T0 (mkF m 34 #[.val (.ref a1), .val (.ref a2), .unset] [])
  refine own_st (fun _ k => XS.iconst X0.here hx rfl (hb hby own_d9_34) k) ?_
  show own_Go _ _ _ _ T0 (mkF m 35 #[.val (.ref a1), .val (.ref a2), .unset] [(.int (0 : Int32))])
  exact own_retN X0 hx hret (by simp) hlk (hb hby own_d9_35) ⟨rfl, N0, e0⟩ (by decide) (by decide)
def own_se20_Q (Z : State) (a1 a2 b1 b2 : Addr) (k1 k2 : ClassId) (cs : Int32) (x0 x1 : Int32) (h0 : Heap) (n0 : Nat) (v : Option Value) (h : Heap) (L : List Loc) : Prop := v = some (.int (0 : Int32)) ∧ Fr n0 L ∧ h = h0
set_option maxRecDepth 65536 in
set_option maxHeartbeats 40000000 in
theorem own_se20 (l : Launch) {Z : State} {a0 : Array Value} (hw : own_W Z a0) (ws : List Jvm.Cond) (a1 a2 b1 b2 : Addr) (k1 k2 : ClassId) (cs : Int32) (x0 x1 : Int32) (h0 : Heap) (n0 : Nat) (Z0 : n0 ≤ h0.size) (Scs : Sta Z h0 "java/lang/String" "COMPACT_STRINGS" "Z" (.int cs)) (hcs : ¬ cs = 0) (hne : ¬ a1 = a2) (E2 : Exa Z h0 a2 "java/lang/String") (Fv1 : Fld Z h0 a1 "java/lang/String" "value" "[B" (.ref b1)) (Fc1 : Fld Z h0 a1 "java/lang/String" "coder" "B" (.int (0 : Int32))) (V1 : Arv Z h0 b1 k1 .byte (2 : Int32) [(.int x0), (.int x1)] (.int (0 : Int32))) (Fv2 : Fld Z h0 a2 "java/lang/String" "value" "[B" (.ref b2)) (Fc2 : Fld Z h0 a2 "java/lang/String" "coder" "B" (.int (0 : Int32))) (V2 : Arv Z h0 b2 k2 .byte (0 : Int32) [] (.int (0 : Int32))) :
    MetFree l (⟨"java/lang/String", "equals", "(Ljava/lang/Object;)Z"⟩ : MethodName) (head1 (Jvm.Cond.code (⟨"java/lang/String", "equals", "(Ljava/lang/Object;)Z"⟩ : MethodName) jdk_42_method_66_code 3 (some .boolean) :: ws) ({ frames := 1, cells := 0, slots := 0, locals := 14 } : Room)) (fun a U => a = #[(.ref a1), (.ref a2)] ∧ Z.Warmed39 U.vm ∧ U.heap = h0) (fun _ _ _ _ _ => True) (fun _ U o U' => ∃ v L, o = .returned v ∧ own_se20_Q Z a1 a2 b1 b2 k1 k2 cs x0 x1 h0 n0 v U'.heap L ∧ FrameEnd U o U' L ({ frames := 1, cells := 0, slots := 0, locals := 14 } : Room).cells ({ frames := 1, cells := 0, slots := 0, locals := 14 } : Room).slots) := by
  refine own_enter (C := ({ frames := 1, cells := 0, slots := 0, locals := 14 } : Room).cells) (S := ({ frames := 1, cells := 0, slots := 0, locals := 14 } : Room).slots) (plainFor_of_name own_pn2) ?_
  intro p e s m below meth c T0 X0 I e0
  obtain ⟨hx, hby, hml, hown, hnm, hret, hlk, hZ⟩ := I
  have N0 := Fr.nil n0
  have O0 := own_extr h0
  refine own_cast (own_ef8 m a1 a2) ?_
  show own_Go _ _ _ _ T0 (mkF m 0 #[.val (.ref a1), .val (.ref a2), .unset] [])
  refine own_st (fun _ k => XS.aloadN X0.here hx rfl (hb hby own_d8_0) rfl rfl k) ?_
  show own_Go _ _ _ _ T0 (mkF m 1 #[.val (.ref a1), .val (.ref a2), .unset] [(.ref a1)])
  refine own_st (fun _ k => XS.aloadN X0.here hx rfl (hb hby own_d8_1) rfl rfl k) ?_
  show own_Go _ _ _ _ T0 (mkF m 2 #[.val (.ref a1), .val (.ref a2), .unset] [(.ref a2), (.ref a1)])
  refine own_st (fun _ k => Jvm.RoadKit.acmp (g := (mkF m 2 #[.val (.ref a1), .val (.ref a2), .unset] [(.ref a2), (.ref a1)])) X0 hx rfl rfl rfl (pc0 := 2) (pc' := 7) (same := false) rfl (hb hby own_d8_2) rfl (decide_eq_false fun q => hne (Value.ref.inj q)) (by decide) (by decide) k) ?_
  show own_Go _ _ _ _ T0 (mkF m 7 #[.val (.ref a1), .val (.ref a2), .unset] [])
  refine own_st (fun _ k => XS.aloadN X0.here hx rfl (hb hby own_d8_7) rfl rfl k) ?_
  show own_Go _ _ _ _ T0 (mkF m 8 #[.val (.ref a1), .val (.ref a2), .unset] [(.ref a2)])
  obtain ⟨T1, X1, e1, st1⟩ := instY X0 hx hZ hown (own_w61 hw) e0 (Ins.self (E2.ext O0)) (g := (mkF m 8 #[.val (.ref a1), .val (.ref a2), .unset] [(.ref a2)])) rfl rfl (hb hby own_d8_8)
  refine own_st st1 ?_
  show own_Go _ _ _ _ T1 (mkF m 11 #[.val (.ref a1), .val (.ref a2), .unset] [(.int (1 : Int32))])
  refine own_st (fun _ k => XS.ifNo X1.here hx rfl (hb hby own_d8_11) rfl ((if0 _ _).trans (feq (by decide : ¬ ((1 : Int32) = (0 : Int32)))).1) k) ?_
  show own_Go _ _ _ _ T1 (mkF m 14 #[.val (.ref a1), .val (.ref a2), .unset] [])
  refine own_st (fun _ k => XS.aloadN X1.here hx rfl (hb hby own_d8_14) rfl rfl k) ?_
  show own_Go _ _ _ _ T1 (mkF m 15 #[.val (.ref a1), .val (.ref a2), .unset] [(.ref a2)])
  obtain ⟨T2, X2, e2, st2⟩ := castY X1 hx hZ hown (own_w61 hw) e1 (Ins.self (E2.ext O0)) (g := (mkF m 15 #[.val (.ref a1), .val (.ref a2), .unset] [(.ref a2)])) rfl rfl (hb hby own_d8_15)
  refine own_st st2 ?_
  show own_Go _ _ _ _ T2 (mkF m 18 #[.val (.ref a1), .val (.ref a2), .unset] [(.ref a2)])
  refine own_st (fun _ k => XS.astoreN X2.here hx rfl (hb hby own_d8_18) rfl rfl (l' := #[.val (.ref a1), .val (.ref a2), .val (.ref a2)]) rfl k) ?_
  show own_Go _ _ _ _ T2 (mkF m 19 #[.val (.ref a1), .val (.ref a2), .val (.ref a2)] [])
  obtain ⟨T3, X3, e3, st3⟩ := getS2 X2 hx hZ hown (host := "") (Or.inl (own_w62 hw)) Via.refl e2 (Scs.ext O0) (g := (mkF m 19 #[.val (.ref a1), .val (.ref a2), .val (.ref a2)] [])) rfl (hb hby own_d8_19)
  refine own_st st3 ?_
  show own_Go _ _ _ _ T3 (mkF m 22 #[.val (.ref a1), .val (.ref a2), .val (.ref a2)] [(.int cs)])
  refine own_st (fun _ k => XS.ifNo X3.here hx rfl (hb hby own_d8_22) rfl ((if0 _ _).trans (feq (hcs : ¬ (cs = (0 : Int32)))).1) k) ?_
  show own_Go _ _ _ _ T3 (mkF m 25 #[.val (.ref a1), .val (.ref a2), .val (.ref a2)] [])
  refine own_st (fun _ k => XS.aloadN X3.here hx rfl (hb hby own_d8_25) rfl rfl k) ?_
  show own_Go _ _ _ _ T3 (mkF m 26 #[.val (.ref a1), .val (.ref a2), .val (.ref a2)] [(.ref a1)])
  obtain ⟨T4, X4, e4, st4⟩ := getF X3 hx hZ hown (host := "") (Or.inl (own_w25 hw)) Via.refl e3 (Fc1.ext O0) (g := (mkF m 26 #[.val (.ref a1), .val (.ref a2), .val (.ref a2)] [(.ref a1)])) rfl rfl (hb hby own_d8_26)
  refine own_st st4 ?_
  show own_Go _ _ _ _ T4 (mkF m 29 #[.val (.ref a1), .val (.ref a2), .val (.ref a2)] [(.int (0 : Int32))])
  refine own_st (fun _ k => XS.aloadN X4.here hx rfl (hb hby own_d8_29) rfl rfl k) ?_
  show own_Go _ _ _ _ T4 (mkF m 30 #[.val (.ref a1), .val (.ref a2), .val (.ref a2)] [(.ref a2), (.int (0 : Int32))])
  obtain ⟨T5, X5, e5, st5⟩ := getF X4 hx hZ hown (host := "") (Or.inl (own_w25 hw)) Via.refl e4 (Fc2.ext O0) (g := (mkF m 30 #[.val (.ref a1), .val (.ref a2), .val (.ref a2)] [(.ref a2), (.int (0 : Int32))])) rfl rfl (hb hby own_d8_30)
  refine own_st st5 ?_
  show own_Go _ _ _ _ T5 (mkF m 33 #[.val (.ref a1), .val (.ref a2), .val (.ref a2)] [(.int (0 : Int32)), (.int (0 : Int32))])
  refine own_st (fun _ k => XS.icmpNo X5.here hx rfl (hb hby own_d8_33) rfl (teq (by decide : (0 : Int32) = (0 : Int32))).2 k) ?_
  show own_Go _ _ _ _ T5 (mkF m 36 #[.val (.ref a1), .val (.ref a2), .val (.ref a2)] [])
  refine own_st (fun _ k => XS.aloadN X5.here hx rfl (hb hby own_d8_36) rfl rfl k) ?_
  show own_Go _ _ _ _ T5 (mkF m 37 #[.val (.ref a1), .val (.ref a2), .val (.ref a2)] [(.ref a1)])
  obtain ⟨T6, X6, e6, st6⟩ := getF X5 hx hZ hown (host := "") (Or.inl (own_w24 hw)) Via.refl e5 (Fv1.ext O0) (g := (mkF m 37 #[.val (.ref a1), .val (.ref a2), .val (.ref a2)] [(.ref a1)])) rfl rfl (hb hby own_d8_37)
  refine own_st st6 ?_
  show own_Go _ _ _ _ T6 (mkF m 40 #[.val (.ref a1), .val (.ref a2), .val (.ref a2)] [(.ref b1)])
  refine own_st (fun _ k => XS.aloadN X6.here hx rfl (hb hby own_d8_40) rfl rfl k) ?_
  show own_Go _ _ _ _ T6 (mkF m 41 #[.val (.ref a1), .val (.ref a2), .val (.ref a2)] [(.ref a2), (.ref b1)])
  obtain ⟨T7, X7, e7, st7⟩ := getF X6 hx hZ hown (host := "") (Or.inl (own_w24 hw)) Via.refl e6 (Fv2.ext O0) (g := (mkF m 41 #[.val (.ref a1), .val (.ref a2), .val (.ref a2)] [(.ref a2), (.ref b1)])) rfl rfl (hb hby own_d8_41)
  refine own_st st7 ?_
  show own_Go _ _ _ _ T7 (mkF m 44 #[.val (.ref a1), .val (.ref a2), .val (.ref a2)] [(.ref b2), (.ref b1)])
  obtain ⟨v8, T8, L8, hQ8, X8, st8⟩ := own_callS X7 hx hZ (y := (⟨"java/lang/StringLatin1", "equals", "([B[B)Z"⟩ : MethodName)) hown (own_w63 hw) (own_w64 hw) (own_w65 hw) (own_w66 hw) (by decide) (own_le20 l hw [] b1 b2 k1 k2 x0 x1 h0 n0 (Nat.le_trans Z0 O0.1) (V1.ext O0) (V2.ext O0)) e7 (g := (mkF m 44 #[.val (.ref a1), .val (.ref a2), .val (.ref a2)] [(.ref b2), (.ref b1)])) rfl (by rw [hml]; rfl) (argsL := [(.ref b1), (.ref b2)]) (rest := []) (lenOf own_pd7 rfl) rfl rfl (W := 0) (Nat.le_of_eq rfl) (hb hby own_d8_44) (by decide) (by decide) (by decide) (by decide)
  obtain ⟨rfl, N8, e8⟩ := hQ8
  have N8' := Fr.app N0 N8
  refine own_st st8 ?_
  show own_Go _ _ _ _ T8 (mkF m 47 #[.val (.ref a1), .val (.ref a2), .val (.ref a2)] [(.int (0 : Int32))])
  refine own_st (fun _ k => XS.ifYes X8.here hx rfl (pc0 := 47) (pc' := 54) rfl (hb hby own_d8_47) rfl ((if0 _ _).trans (teq (by decide : (0 : Int32) = (0 : Int32))).1) (by decide) (by decide) k) ?_
  show own_Go _ _ _ _ T8 (mkF m 54 #[.val (.ref a1), .val (.ref a2), .val (.ref a2)] [])
  refine own_st (fun _ k => XS.iconst X8.here hx rfl (hb hby own_d8_54) k) ?_
  show own_Go _ _ _ _ T8 (mkF m 55 #[.val (.ref a1), .val (.ref a2), .val (.ref a2)] [(.int (0 : Int32))])
  exact own_retN X8 hx hret (by simp) hlk (hb hby own_d8_55) ⟨rfl, N8', e8⟩ (by decide) (by decide)
def own_le21_Q (Z : State) (a1 a2 : Addr) (k1 k2 : ClassId) (x0 x1 y0 : Int32) (h0 : Heap) (n0 : Nat) (v : Option Value) (h : Heap) (L : List Loc) : Prop := v = some (.int (0 : Int32)) ∧ Fr n0 L ∧ h = h0
set_option maxRecDepth 65536 in
set_option maxHeartbeats 40000000 in
theorem own_le21 (l : Launch) {Z : State} {a0 : Array Value} (hw : own_W Z a0) (ws : List Jvm.Cond) (a1 a2 : Addr) (k1 k2 : ClassId) (x0 x1 y0 : Int32) (h0 : Heap) (n0 : Nat) (Z0 : n0 ≤ h0.size) (V1 : Arv Z h0 a1 k1 .byte (2 : Int32) [(.int x0), (.int x1)] (.int (0 : Int32))) (V2 : Arv Z h0 a2 k2 .byte (1 : Int32) [(.int y0)] (.int (0 : Int32))) :
    MetFree l (⟨"java/lang/StringLatin1", "equals", "([B[B)Z"⟩ : MethodName) (head1 (Jvm.Cond.code (⟨"java/lang/StringLatin1", "equals", "([B[B)Z"⟩ : MethodName) jdk_43_method_13_code 3 (some .boolean) :: ws) ({ frames := 0, cells := 0, slots := 0, locals := 0 } : Room)) (fun a U => a = #[(.ref a1), (.ref a2)] ∧ Z.Warmed39 U.vm ∧ U.heap = h0) (fun _ _ _ _ _ => True) (fun _ U o U' => ∃ v L, o = .returned v ∧ own_le21_Q Z a1 a2 k1 k2 x0 x1 y0 h0 n0 v U'.heap L ∧ FrameEnd U o U' L ({ frames := 0, cells := 0, slots := 0, locals := 0 } : Room).cells ({ frames := 0, cells := 0, slots := 0, locals := 0 } : Room).slots) := by
  refine own_enter (C := ({ frames := 0, cells := 0, slots := 0, locals := 0 } : Room).cells) (S := ({ frames := 0, cells := 0, slots := 0, locals := 0 } : Room).slots) (plainFor_of_name own_pn1) ?_
  intro p e s m below meth c T0 X0 I e0
  obtain ⟨hx, hby, hml, hown, hnm, hret, hlk, hZ⟩ := I
  have N0 := Fr.nil n0
  have O0 := own_extr h0
  refine own_cast (own_ef9 m a1 a2) ?_
  show own_Go _ _ _ _ T0 (mkF m 0 #[.val (.ref a1), .val (.ref a2), .unset] [])
  refine own_st (fun _ k => XS.aloadN X0.here hx rfl (hb hby own_d9_0) rfl rfl k) ?_
  show own_Go _ _ _ _ T0 (mkF m 1 #[.val (.ref a1), .val (.ref a2), .unset] [(.ref a1)])
  refine own_st (own_len X0 hx hZ e0 (V1.ext O0) (g := (mkF m 1 #[.val (.ref a1), .val (.ref a2), .unset] [(.ref a1)])) rfl rfl (hb hby own_d9_1)) ?_
  show own_Go _ _ _ _ T0 (mkF m 2 #[.val (.ref a1), .val (.ref a2), .unset] [(.int (2 : Int32))])
  refine own_st (fun _ k => XS.aloadN X0.here hx rfl (hb hby own_d9_2) rfl rfl k) ?_
  show own_Go _ _ _ _ T0 (mkF m 3 #[.val (.ref a1), .val (.ref a2), .unset] [(.ref a2), (.int (2 : Int32))])
  refine own_st (own_len X0 hx hZ e0 (V2.ext O0) (g := (mkF m 3 #[.val (.ref a1), .val (.ref a2), .unset] [(.ref a2), (.int (2 : Int32))])) rfl rfl (hb hby own_d9_3)) ?_
  show own_Go _ _ _ _ T0 (mkF m 4 #[.val (.ref a1), .val (.ref a2), .unset] [(.int (1 : Int32)), (.int (2 : Int32))])
  refine own_st (fun _ k => XS.icmpYes X0.here hx rfl (pc0 := 4) (pc' := 34) rfl (hb hby own_d9_4) rfl (feq (by decide : ¬ ((2 : Int32) = (1 : Int32)))).2 (by decide) (by decide) k) ?_
  show own_Go _ _ _ _ T0 (mkF m 34 #[.val (.ref a1), .val (.ref a2), .unset] [])
  refine own_st (fun _ k => XS.iconst X0.here hx rfl (hb hby own_d9_34) k) ?_
  show own_Go _ _ _ _ T0 (mkF m 35 #[.val (.ref a1), .val (.ref a2), .unset] [(.int (0 : Int32))])
  exact own_retN X0 hx hret (by simp) hlk (hb hby own_d9_35) ⟨rfl, N0, e0⟩ (by decide) (by decide)
def own_se21_Q (Z : State) (a1 a2 b1 b2 : Addr) (k1 k2 : ClassId) (cs : Int32) (x0 x1 y0 : Int32) (h0 : Heap) (n0 : Nat) (v : Option Value) (h : Heap) (L : List Loc) : Prop := v = some (.int (0 : Int32)) ∧ Fr n0 L ∧ h = h0
set_option maxRecDepth 65536 in
set_option maxHeartbeats 40000000 in
theorem own_se21 (l : Launch) {Z : State} {a0 : Array Value} (hw : own_W Z a0) (ws : List Jvm.Cond) (a1 a2 b1 b2 : Addr) (k1 k2 : ClassId) (cs : Int32) (x0 x1 y0 : Int32) (h0 : Heap) (n0 : Nat) (Z0 : n0 ≤ h0.size) (Scs : Sta Z h0 "java/lang/String" "COMPACT_STRINGS" "Z" (.int cs)) (hcs : ¬ cs = 0) (hne : ¬ a1 = a2) (E2 : Exa Z h0 a2 "java/lang/String") (Fv1 : Fld Z h0 a1 "java/lang/String" "value" "[B" (.ref b1)) (Fc1 : Fld Z h0 a1 "java/lang/String" "coder" "B" (.int (0 : Int32))) (V1 : Arv Z h0 b1 k1 .byte (2 : Int32) [(.int x0), (.int x1)] (.int (0 : Int32))) (Fv2 : Fld Z h0 a2 "java/lang/String" "value" "[B" (.ref b2)) (Fc2 : Fld Z h0 a2 "java/lang/String" "coder" "B" (.int (0 : Int32))) (V2 : Arv Z h0 b2 k2 .byte (1 : Int32) [(.int y0)] (.int (0 : Int32))) :
    MetFree l (⟨"java/lang/String", "equals", "(Ljava/lang/Object;)Z"⟩ : MethodName) (head1 (Jvm.Cond.code (⟨"java/lang/String", "equals", "(Ljava/lang/Object;)Z"⟩ : MethodName) jdk_42_method_66_code 3 (some .boolean) :: ws) ({ frames := 1, cells := 0, slots := 0, locals := 14 } : Room)) (fun a U => a = #[(.ref a1), (.ref a2)] ∧ Z.Warmed39 U.vm ∧ U.heap = h0) (fun _ _ _ _ _ => True) (fun _ U o U' => ∃ v L, o = .returned v ∧ own_se21_Q Z a1 a2 b1 b2 k1 k2 cs x0 x1 y0 h0 n0 v U'.heap L ∧ FrameEnd U o U' L ({ frames := 1, cells := 0, slots := 0, locals := 14 } : Room).cells ({ frames := 1, cells := 0, slots := 0, locals := 14 } : Room).slots) := by
  refine own_enter (C := ({ frames := 1, cells := 0, slots := 0, locals := 14 } : Room).cells) (S := ({ frames := 1, cells := 0, slots := 0, locals := 14 } : Room).slots) (plainFor_of_name own_pn2) ?_
  intro p e s m below meth c T0 X0 I e0
  obtain ⟨hx, hby, hml, hown, hnm, hret, hlk, hZ⟩ := I
  have N0 := Fr.nil n0
  have O0 := own_extr h0
  refine own_cast (own_ef8 m a1 a2) ?_
  show own_Go _ _ _ _ T0 (mkF m 0 #[.val (.ref a1), .val (.ref a2), .unset] [])
  refine own_st (fun _ k => XS.aloadN X0.here hx rfl (hb hby own_d8_0) rfl rfl k) ?_
  show own_Go _ _ _ _ T0 (mkF m 1 #[.val (.ref a1), .val (.ref a2), .unset] [(.ref a1)])
  refine own_st (fun _ k => XS.aloadN X0.here hx rfl (hb hby own_d8_1) rfl rfl k) ?_
  show own_Go _ _ _ _ T0 (mkF m 2 #[.val (.ref a1), .val (.ref a2), .unset] [(.ref a2), (.ref a1)])
  refine own_st (fun _ k => Jvm.RoadKit.acmp (g := (mkF m 2 #[.val (.ref a1), .val (.ref a2), .unset] [(.ref a2), (.ref a1)])) X0 hx rfl rfl rfl (pc0 := 2) (pc' := 7) (same := false) rfl (hb hby own_d8_2) rfl (decide_eq_false fun q => hne (Value.ref.inj q)) (by decide) (by decide) k) ?_
  show own_Go _ _ _ _ T0 (mkF m 7 #[.val (.ref a1), .val (.ref a2), .unset] [])
  refine own_st (fun _ k => XS.aloadN X0.here hx rfl (hb hby own_d8_7) rfl rfl k) ?_
  show own_Go _ _ _ _ T0 (mkF m 8 #[.val (.ref a1), .val (.ref a2), .unset] [(.ref a2)])
  obtain ⟨T1, X1, e1, st1⟩ := instY X0 hx hZ hown (own_w61 hw) e0 (Ins.self (E2.ext O0)) (g := (mkF m 8 #[.val (.ref a1), .val (.ref a2), .unset] [(.ref a2)])) rfl rfl (hb hby own_d8_8)
  refine own_st st1 ?_
  show own_Go _ _ _ _ T1 (mkF m 11 #[.val (.ref a1), .val (.ref a2), .unset] [(.int (1 : Int32))])
  refine own_st (fun _ k => XS.ifNo X1.here hx rfl (hb hby own_d8_11) rfl ((if0 _ _).trans (feq (by decide : ¬ ((1 : Int32) = (0 : Int32)))).1) k) ?_
  show own_Go _ _ _ _ T1 (mkF m 14 #[.val (.ref a1), .val (.ref a2), .unset] [])
  refine own_st (fun _ k => XS.aloadN X1.here hx rfl (hb hby own_d8_14) rfl rfl k) ?_
  show own_Go _ _ _ _ T1 (mkF m 15 #[.val (.ref a1), .val (.ref a2), .unset] [(.ref a2)])
  obtain ⟨T2, X2, e2, st2⟩ := castY X1 hx hZ hown (own_w61 hw) e1 (Ins.self (E2.ext O0)) (g := (mkF m 15 #[.val (.ref a1), .val (.ref a2), .unset] [(.ref a2)])) rfl rfl (hb hby own_d8_15)
  refine own_st st2 ?_
  show own_Go _ _ _ _ T2 (mkF m 18 #[.val (.ref a1), .val (.ref a2), .unset] [(.ref a2)])
  refine own_st (fun _ k => XS.astoreN X2.here hx rfl (hb hby own_d8_18) rfl rfl (l' := #[.val (.ref a1), .val (.ref a2), .val (.ref a2)]) rfl k) ?_
  show own_Go _ _ _ _ T2 (mkF m 19 #[.val (.ref a1), .val (.ref a2), .val (.ref a2)] [])
  obtain ⟨T3, X3, e3, st3⟩ := getS2 X2 hx hZ hown (host := "") (Or.inl (own_w62 hw)) Via.refl e2 (Scs.ext O0) (g := (mkF m 19 #[.val (.ref a1), .val (.ref a2), .val (.ref a2)] [])) rfl (hb hby own_d8_19)
  refine own_st st3 ?_
  show own_Go _ _ _ _ T3 (mkF m 22 #[.val (.ref a1), .val (.ref a2), .val (.ref a2)] [(.int cs)])
  refine own_st (fun _ k => XS.ifNo X3.here hx rfl (hb hby own_d8_22) rfl ((if0 _ _).trans (feq (hcs : ¬ (cs = (0 : Int32)))).1) k) ?_
  show own_Go _ _ _ _ T3 (mkF m 25 #[.val (.ref a1), .val (.ref a2), .val (.ref a2)] [])
  refine own_st (fun _ k => XS.aloadN X3.here hx rfl (hb hby own_d8_25) rfl rfl k) ?_
  show own_Go _ _ _ _ T3 (mkF m 26 #[.val (.ref a1), .val (.ref a2), .val (.ref a2)] [(.ref a1)])
  obtain ⟨T4, X4, e4, st4⟩ := getF X3 hx hZ hown (host := "") (Or.inl (own_w25 hw)) Via.refl e3 (Fc1.ext O0) (g := (mkF m 26 #[.val (.ref a1), .val (.ref a2), .val (.ref a2)] [(.ref a1)])) rfl rfl (hb hby own_d8_26)
  refine own_st st4 ?_
  show own_Go _ _ _ _ T4 (mkF m 29 #[.val (.ref a1), .val (.ref a2), .val (.ref a2)] [(.int (0 : Int32))])
  refine own_st (fun _ k => XS.aloadN X4.here hx rfl (hb hby own_d8_29) rfl rfl k) ?_
  show own_Go _ _ _ _ T4 (mkF m 30 #[.val (.ref a1), .val (.ref a2), .val (.ref a2)] [(.ref a2), (.int (0 : Int32))])
  obtain ⟨T5, X5, e5, st5⟩ := getF X4 hx hZ hown (host := "") (Or.inl (own_w25 hw)) Via.refl e4 (Fc2.ext O0) (g := (mkF m 30 #[.val (.ref a1), .val (.ref a2), .val (.ref a2)] [(.ref a2), (.int (0 : Int32))])) rfl rfl (hb hby own_d8_30)
  refine own_st st5 ?_
  show own_Go _ _ _ _ T5 (mkF m 33 #[.val (.ref a1), .val (.ref a2), .val (.ref a2)] [(.int (0 : Int32)), (.int (0 : Int32))])
  refine own_st (fun _ k => XS.icmpNo X5.here hx rfl (hb hby own_d8_33) rfl (teq (by decide : (0 : Int32) = (0 : Int32))).2 k) ?_
  show own_Go _ _ _ _ T5 (mkF m 36 #[.val (.ref a1), .val (.ref a2), .val (.ref a2)] [])
  refine own_st (fun _ k => XS.aloadN X5.here hx rfl (hb hby own_d8_36) rfl rfl k) ?_
  show own_Go _ _ _ _ T5 (mkF m 37 #[.val (.ref a1), .val (.ref a2), .val (.ref a2)] [(.ref a1)])
  obtain ⟨T6, X6, e6, st6⟩ := getF X5 hx hZ hown (host := "") (Or.inl (own_w24 hw)) Via.refl e5 (Fv1.ext O0) (g := (mkF m 37 #[.val (.ref a1), .val (.ref a2), .val (.ref a2)] [(.ref a1)])) rfl rfl (hb hby own_d8_37)
  refine own_st st6 ?_
  show own_Go _ _ _ _ T6 (mkF m 40 #[.val (.ref a1), .val (.ref a2), .val (.ref a2)] [(.ref b1)])
  refine own_st (fun _ k => XS.aloadN X6.here hx rfl (hb hby own_d8_40) rfl rfl k) ?_
  show own_Go _ _ _ _ T6 (mkF m 41 #[.val (.ref a1), .val (.ref a2), .val (.ref a2)] [(.ref a2), (.ref b1)])
  obtain ⟨T7, X7, e7, st7⟩ := getF X6 hx hZ hown (host := "") (Or.inl (own_w24 hw)) Via.refl e6 (Fv2.ext O0) (g := (mkF m 41 #[.val (.ref a1), .val (.ref a2), .val (.ref a2)] [(.ref a2), (.ref b1)])) rfl rfl (hb hby own_d8_41)
  refine own_st st7 ?_
  show own_Go _ _ _ _ T7 (mkF m 44 #[.val (.ref a1), .val (.ref a2), .val (.ref a2)] [(.ref b2), (.ref b1)])
  obtain ⟨v8, T8, L8, hQ8, X8, st8⟩ := own_callS X7 hx hZ (y := (⟨"java/lang/StringLatin1", "equals", "([B[B)Z"⟩ : MethodName)) hown (own_w63 hw) (own_w64 hw) (own_w65 hw) (own_w66 hw) (by decide) (own_le21 l hw [] b1 b2 k1 k2 x0 x1 y0 h0 n0 (Nat.le_trans Z0 O0.1) (V1.ext O0) (V2.ext O0)) e7 (g := (mkF m 44 #[.val (.ref a1), .val (.ref a2), .val (.ref a2)] [(.ref b2), (.ref b1)])) rfl (by rw [hml]; rfl) (argsL := [(.ref b1), (.ref b2)]) (rest := []) (lenOf own_pd7 rfl) rfl rfl (W := 0) (Nat.le_of_eq rfl) (hb hby own_d8_44) (by decide) (by decide) (by decide) (by decide)
  obtain ⟨rfl, N8, e8⟩ := hQ8
  have N8' := Fr.app N0 N8
  refine own_st st8 ?_
  show own_Go _ _ _ _ T8 (mkF m 47 #[.val (.ref a1), .val (.ref a2), .val (.ref a2)] [(.int (0 : Int32))])
  refine own_st (fun _ k => XS.ifYes X8.here hx rfl (pc0 := 47) (pc' := 54) rfl (hb hby own_d8_47) rfl ((if0 _ _).trans (teq (by decide : (0 : Int32) = (0 : Int32))).1) (by decide) (by decide) k) ?_
  show own_Go _ _ _ _ T8 (mkF m 54 #[.val (.ref a1), .val (.ref a2), .val (.ref a2)] [])
  refine own_st (fun _ k => XS.iconst X8.here hx rfl (hb hby own_d8_54) k) ?_
  show own_Go _ _ _ _ T8 (mkF m 55 #[.val (.ref a1), .val (.ref a2), .val (.ref a2)] [(.int (0 : Int32))])
  exact own_retN X8 hx hret (by simp) hlk (hb hby own_d8_55) ⟨rfl, N8', e8⟩ (by decide) (by decide)
def own_le22_Q (Z : State) (a1 a2 : Addr) (k1 k2 : ClassId) (x0 x1 y0 y1 : Int32) (h0 : Heap) (n0 : Nat) (v : Option Value) (h : Heap) (L : List Loc) : Prop := v = some (.int (own_eq2 x0 x1 y0 y1)) ∧ Fr n0 L ∧ h = h0
set_option maxRecDepth 65536 in
set_option maxHeartbeats 40000000 in
theorem own_le22 (l : Launch) {Z : State} {a0 : Array Value} (hw : own_W Z a0) (ws : List Jvm.Cond) (a1 a2 : Addr) (k1 k2 : ClassId) (x0 x1 y0 y1 : Int32) (h0 : Heap) (n0 : Nat) (Z0 : n0 ≤ h0.size) (V1 : Arv Z h0 a1 k1 .byte (2 : Int32) [(.int x0), (.int x1)] (.int (0 : Int32))) (V2 : Arv Z h0 a2 k2 .byte (2 : Int32) [(.int y0), (.int y1)] (.int (0 : Int32))) :
    MetFree l (⟨"java/lang/StringLatin1", "equals", "([B[B)Z"⟩ : MethodName) (head1 (Jvm.Cond.code (⟨"java/lang/StringLatin1", "equals", "([B[B)Z"⟩ : MethodName) jdk_43_method_13_code 3 (some .boolean) :: ws) ({ frames := 0, cells := 0, slots := 0, locals := 0 } : Room)) (fun a U => a = #[(.ref a1), (.ref a2)] ∧ Z.Warmed39 U.vm ∧ U.heap = h0) (fun _ _ _ _ _ => True) (fun _ U o U' => ∃ v L, o = .returned v ∧ own_le22_Q Z a1 a2 k1 k2 x0 x1 y0 y1 h0 n0 v U'.heap L ∧ FrameEnd U o U' L ({ frames := 0, cells := 0, slots := 0, locals := 0 } : Room).cells ({ frames := 0, cells := 0, slots := 0, locals := 0 } : Room).slots) := by
  refine own_enter (C := ({ frames := 0, cells := 0, slots := 0, locals := 0 } : Room).cells) (S := ({ frames := 0, cells := 0, slots := 0, locals := 0 } : Room).slots) (plainFor_of_name own_pn1) ?_
  intro p e s m below meth c T0 X0 I e0
  obtain ⟨hx, hby, hml, hown, hnm, hret, hlk, hZ⟩ := I
  have N0 := Fr.nil n0
  have O0 := own_extr h0
  refine own_cast (own_ef9 m a1 a2) ?_
  show own_Go _ _ _ _ T0 (mkF m 0 #[.val (.ref a1), .val (.ref a2), .unset] [])
  refine own_st (fun _ k => XS.aloadN X0.here hx rfl (hb hby own_d9_0) rfl rfl k) ?_
  show own_Go _ _ _ _ T0 (mkF m 1 #[.val (.ref a1), .val (.ref a2), .unset] [(.ref a1)])
  refine own_st (own_len X0 hx hZ e0 (V1.ext O0) (g := (mkF m 1 #[.val (.ref a1), .val (.ref a2), .unset] [(.ref a1)])) rfl rfl (hb hby own_d9_1)) ?_
  show own_Go _ _ _ _ T0 (mkF m 2 #[.val (.ref a1), .val (.ref a2), .unset] [(.int (2 : Int32))])
  refine own_st (fun _ k => XS.aloadN X0.here hx rfl (hb hby own_d9_2) rfl rfl k) ?_
  show own_Go _ _ _ _ T0 (mkF m 3 #[.val (.ref a1), .val (.ref a2), .unset] [(.ref a2), (.int (2 : Int32))])
  refine own_st (own_len X0 hx hZ e0 (V2.ext O0) (g := (mkF m 3 #[.val (.ref a1), .val (.ref a2), .unset] [(.ref a2), (.int (2 : Int32))])) rfl rfl (hb hby own_d9_3)) ?_
  show own_Go _ _ _ _ T0 (mkF m 4 #[.val (.ref a1), .val (.ref a2), .unset] [(.int (2 : Int32)), (.int (2 : Int32))])
  refine own_st (fun _ k => XS.icmpNo X0.here hx rfl (hb hby own_d9_4) rfl (teq (by decide : (2 : Int32) = (2 : Int32))).2 k) ?_
  show own_Go _ _ _ _ T0 (mkF m 7 #[.val (.ref a1), .val (.ref a2), .unset] [])
  refine own_st (fun _ k => XS.iconst X0.here hx rfl (hb hby own_d9_7) k) ?_
  show own_Go _ _ _ _ T0 (mkF m 8 #[.val (.ref a1), .val (.ref a2), .unset] [(.int (0 : Int32))])
  refine own_st (fun _ k => XS.istoreN X0.here hx rfl (hb hby own_d9_8) rfl (l' := #[.val (.ref a1), .val (.ref a2), .val (.int (0 : Int32))]) rfl k) ?_
  show own_Go _ _ _ _ T0 (mkF m 9 #[.val (.ref a1), .val (.ref a2), .val (.int (0 : Int32))] [])
  refine own_st (fun _ k => XS.iloadN X0.here hx rfl (hb hby own_d9_9) rfl k) ?_
  show own_Go _ _ _ _ T0 (mkF m 10 #[.val (.ref a1), .val (.ref a2), .val (.int (0 : Int32))] [(.int (0 : Int32))])
  refine own_st (fun _ k => XS.aloadN X0.here hx rfl (hb hby own_d9_10) rfl rfl k) ?_
  show own_Go _ _ _ _ T0 (mkF m 11 #[.val (.ref a1), .val (.ref a2), .val (.int (0 : Int32))] [(.ref a1), (.int (0 : Int32))])
  refine own_st (own_len X0 hx hZ e0 (V1.ext O0) (g := (mkF m 11 #[.val (.ref a1), .val (.ref a2), .val (.int (0 : Int32))] [(.ref a1), (.int (0 : Int32))])) rfl rfl (hb hby own_d9_11)) ?_
  show own_Go _ _ _ _ T0 (mkF m 12 #[.val (.ref a1), .val (.ref a2), .val (.int (0 : Int32))] [(.int (2 : Int32)), (.int (0 : Int32))])
  refine own_st (fun _ k => XS.icmpNo X0.here hx rfl (hb hby own_d9_12) rfl (tlt (by decide : (0 : Int32) < (2 : Int32))).2.1 k) ?_
  show own_Go _ _ _ _ T0 (mkF m 15 #[.val (.ref a1), .val (.ref a2), .val (.int (0 : Int32))] [])
  refine own_st (fun _ k => XS.aloadN X0.here hx rfl (hb hby own_d9_15) rfl rfl k) ?_
  show own_Go _ _ _ _ T0 (mkF m 16 #[.val (.ref a1), .val (.ref a2), .val (.int (0 : Int32))] [(.ref a1)])
  refine own_st (fun _ k => XS.iloadN X0.here hx rfl (hb hby own_d9_16) rfl k) ?_
  show own_Go _ _ _ _ T0 (mkF m 17 #[.val (.ref a1), .val (.ref a2), .val (.int (0 : Int32))] [(.int (0 : Int32)), (.ref a1)])
  refine own_st (own_ldB X0 hx hZ e0 (V1.ext O0) (j := (0 : Int32)) (by decide) (v := (.int x0)) rfl (g := (mkF m 17 #[.val (.ref a1), .val (.ref a2), .val (.int (0 : Int32))] [(.int (0 : Int32)), (.ref a1)])) rfl rfl (hb hby own_d9_17)) ?_
  show own_Go _ _ _ _ T0 (mkF m 18 #[.val (.ref a1), .val (.ref a2), .val (.int (0 : Int32))] [(.int x0)])
  refine own_st (fun _ k => XS.aloadN X0.here hx rfl (hb hby own_d9_18) rfl rfl k) ?_
  show own_Go _ _ _ _ T0 (mkF m 19 #[.val (.ref a1), .val (.ref a2), .val (.int (0 : Int32))] [(.ref a2), (.int x0)])
  refine own_st (fun _ k => XS.iloadN X0.here hx rfl (hb hby own_d9_19) rfl k) ?_
  show own_Go _ _ _ _ T0 (mkF m 20 #[.val (.ref a1), .val (.ref a2), .val (.int (0 : Int32))] [(.int (0 : Int32)), (.ref a2), (.int x0)])
  refine own_st (own_ldB X0 hx hZ e0 (V2.ext O0) (j := (0 : Int32)) (by decide) (v := (.int y0)) rfl (g := (mkF m 20 #[.val (.ref a1), .val (.ref a2), .val (.int (0 : Int32))] [(.int (0 : Int32)), (.ref a2), (.int x0)])) rfl rfl (hb hby own_d9_20)) ?_
  show own_Go _ _ _ _ T0 (mkF m 21 #[.val (.ref a1), .val (.ref a2), .val (.int (0 : Int32))] [(.int y0), (.int x0)])
  by_cases hc0 : x0 = y0
  · refine own_st (fun _ k => XS.icmpYes X0.here hx rfl (pc0 := 21) (pc' := 26) rfl (hb hby own_d9_21) rfl (teq (hc0 : x0 = y0)).1 (by decide) (by decide) k) ?_
    show own_Go _ _ _ _ T0 (mkF m 26 #[.val (.ref a1), .val (.ref a2), .val (.int (0 : Int32))] [])
    refine own_st (fun _ k => XS.iinc X0.here hx rfl (hb hby own_d9_26) rfl (l' := #[.val (.ref a1), .val (.ref a2), .val (.int ((0 : Int32) + (1 : Int32)))]) rfl k) ?_
    show own_Go _ _ _ _ T0 (mkF m 29 #[.val (.ref a1), .val (.ref a2), .val (.int ((0 : Int32) + (1 : Int32)))] [])
    rw [show ((0 : Int32) + (1 : Int32)) = (1 : Int32) from by decide]
    show own_Go _ _ _ _ T0 (mkF m 29 #[.val (.ref a1), .val (.ref a2), .val (.int (1 : Int32))] [])
    refine own_st (fun _ k => XS.goto X0.here hx rfl (pc0 := 29) (pc' := 9) rfl (hb hby own_d9_29) (by decide) (by decide) k) ?_
    show own_Go _ _ _ _ T0 (mkF m 9 #[.val (.ref a1), .val (.ref a2), .val (.int (1 : Int32))] [])
    refine own_st (fun _ k => XS.iloadN X0.here hx rfl (hb hby own_d9_9) rfl k) ?_
    show own_Go _ _ _ _ T0 (mkF m 10 #[.val (.ref a1), .val (.ref a2), .val (.int (1 : Int32))] [(.int (1 : Int32))])
    refine own_st (fun _ k => XS.aloadN X0.here hx rfl (hb hby own_d9_10) rfl rfl k) ?_
    show own_Go _ _ _ _ T0 (mkF m 11 #[.val (.ref a1), .val (.ref a2), .val (.int (1 : Int32))] [(.ref a1), (.int (1 : Int32))])
    refine own_st (own_len X0 hx hZ e0 (V1.ext O0) (g := (mkF m 11 #[.val (.ref a1), .val (.ref a2), .val (.int (1 : Int32))] [(.ref a1), (.int (1 : Int32))])) rfl rfl (hb hby own_d9_11)) ?_
    show own_Go _ _ _ _ T0 (mkF m 12 #[.val (.ref a1), .val (.ref a2), .val (.int (1 : Int32))] [(.int (2 : Int32)), (.int (1 : Int32))])
    refine own_st (fun _ k => XS.icmpNo X0.here hx rfl (hb hby own_d9_12) rfl (tlt (by decide : (1 : Int32) < (2 : Int32))).2.1 k) ?_
    show own_Go _ _ _ _ T0 (mkF m 15 #[.val (.ref a1), .val (.ref a2), .val (.int (1 : Int32))] [])
    refine own_st (fun _ k => XS.aloadN X0.here hx rfl (hb hby own_d9_15) rfl rfl k) ?_
    show own_Go _ _ _ _ T0 (mkF m 16 #[.val (.ref a1), .val (.ref a2), .val (.int (1 : Int32))] [(.ref a1)])
    refine own_st (fun _ k => XS.iloadN X0.here hx rfl (hb hby own_d9_16) rfl k) ?_
    show own_Go _ _ _ _ T0 (mkF m 17 #[.val (.ref a1), .val (.ref a2), .val (.int (1 : Int32))] [(.int (1 : Int32)), (.ref a1)])
    refine own_st (own_ldB X0 hx hZ e0 (V1.ext O0) (j := (1 : Int32)) (by decide) (v := (.int x1)) rfl (g := (mkF m 17 #[.val (.ref a1), .val (.ref a2), .val (.int (1 : Int32))] [(.int (1 : Int32)), (.ref a1)])) rfl rfl (hb hby own_d9_17)) ?_
    show own_Go _ _ _ _ T0 (mkF m 18 #[.val (.ref a1), .val (.ref a2), .val (.int (1 : Int32))] [(.int x1)])
    refine own_st (fun _ k => XS.aloadN X0.here hx rfl (hb hby own_d9_18) rfl rfl k) ?_
    show own_Go _ _ _ _ T0 (mkF m 19 #[.val (.ref a1), .val (.ref a2), .val (.int (1 : Int32))] [(.ref a2), (.int x1)])
    refine own_st (fun _ k => XS.iloadN X0.here hx rfl (hb hby own_d9_19) rfl k) ?_
    show own_Go _ _ _ _ T0 (mkF m 20 #[.val (.ref a1), .val (.ref a2), .val (.int (1 : Int32))] [(.int (1 : Int32)), (.ref a2), (.int x1)])
    refine own_st (own_ldB X0 hx hZ e0 (V2.ext O0) (j := (1 : Int32)) (by decide) (v := (.int y1)) rfl (g := (mkF m 20 #[.val (.ref a1), .val (.ref a2), .val (.int (1 : Int32))] [(.int (1 : Int32)), (.ref a2), (.int x1)])) rfl rfl (hb hby own_d9_20)) ?_
    show own_Go _ _ _ _ T0 (mkF m 21 #[.val (.ref a1), .val (.ref a2), .val (.int (1 : Int32))] [(.int y1), (.int x1)])
    by_cases hc1 : x1 = y1
    · refine own_st (fun _ k => XS.icmpYes X0.here hx rfl (pc0 := 21) (pc' := 26) rfl (hb hby own_d9_21) rfl (teq (hc1 : x1 = y1)).1 (by decide) (by decide) k) ?_
      show own_Go _ _ _ _ T0 (mkF m 26 #[.val (.ref a1), .val (.ref a2), .val (.int (1 : Int32))] [])
      refine own_st (fun _ k => XS.iinc X0.here hx rfl (hb hby own_d9_26) rfl (l' := #[.val (.ref a1), .val (.ref a2), .val (.int ((1 : Int32) + (1 : Int32)))]) rfl k) ?_
      show own_Go _ _ _ _ T0 (mkF m 29 #[.val (.ref a1), .val (.ref a2), .val (.int ((1 : Int32) + (1 : Int32)))] [])
      rw [show ((1 : Int32) + (1 : Int32)) = (2 : Int32) from by decide]
      show own_Go _ _ _ _ T0 (mkF m 29 #[.val (.ref a1), .val (.ref a2), .val (.int (2 : Int32))] [])
      refine own_st (fun _ k => XS.goto X0.here hx rfl (pc0 := 29) (pc' := 9) rfl (hb hby own_d9_29) (by decide) (by decide) k) ?_
      show own_Go _ _ _ _ T0 (mkF m 9 #[.val (.ref a1), .val (.ref a2), .val (.int (2 : Int32))] [])
      refine own_st (fun _ k => XS.iloadN X0.here hx rfl (hb hby own_d9_9) rfl k) ?_
      show own_Go _ _ _ _ T0 (mkF m 10 #[.val (.ref a1), .val (.ref a2), .val (.int (2 : Int32))] [(.int (2 : Int32))])
      refine own_st (fun _ k => XS.aloadN X0.here hx rfl (hb hby own_d9_10) rfl rfl k) ?_
      show own_Go _ _ _ _ T0 (mkF m 11 #[.val (.ref a1), .val (.ref a2), .val (.int (2 : Int32))] [(.ref a1), (.int (2 : Int32))])
      refine own_st (own_len X0 hx hZ e0 (V1.ext O0) (g := (mkF m 11 #[.val (.ref a1), .val (.ref a2), .val (.int (2 : Int32))] [(.ref a1), (.int (2 : Int32))])) rfl rfl (hb hby own_d9_11)) ?_
      show own_Go _ _ _ _ T0 (mkF m 12 #[.val (.ref a1), .val (.ref a2), .val (.int (2 : Int32))] [(.int (2 : Int32)), (.int (2 : Int32))])
      refine own_st (fun _ k => XS.icmpYes X0.here hx rfl (pc0 := 12) (pc' := 32) rfl (hb hby own_d9_12) rfl (flt (by decide : ¬ ((2 : Int32) < (2 : Int32)))).2.1 (by decide) (by decide) k) ?_
      show own_Go _ _ _ _ T0 (mkF m 32 #[.val (.ref a1), .val (.ref a2), .val (.int (2 : Int32))] [])
      refine own_st (fun _ k => XS.iconst X0.here hx rfl (hb hby own_d9_32) k) ?_
      show own_Go _ _ _ _ T0 (mkF m 33 #[.val (.ref a1), .val (.ref a2), .val (.int (2 : Int32))] [(.int (1 : Int32))])
      exact own_retN X0 hx hret (by simp) hlk (hb hby own_d9_33) ⟨by simp [own_eq2, nar, *], N0, e0⟩ (by decide) (by decide)
    · refine own_st (fun _ k => XS.icmpNo X0.here hx rfl (hb hby own_d9_21) rfl (feq (hc1 : ¬ (x1 = y1))).1 k) ?_
      show own_Go _ _ _ _ T0 (mkF m 24 #[.val (.ref a1), .val (.ref a2), .val (.int (1 : Int32))] [])
      refine own_st (fun _ k => XS.iconst X0.here hx rfl (hb hby own_d9_24) k) ?_
      show own_Go _ _ _ _ T0 (mkF m 25 #[.val (.ref a1), .val (.ref a2), .val (.int (1 : Int32))] [(.int (0 : Int32))])
      exact own_retN X0 hx hret (by simp) hlk (hb hby own_d9_25) ⟨by simp [own_eq2, nar, *], N0, e0⟩ (by decide) (by decide)
  · refine own_st (fun _ k => XS.icmpNo X0.here hx rfl (hb hby own_d9_21) rfl (feq (hc0 : ¬ (x0 = y0))).1 k) ?_
    show own_Go _ _ _ _ T0 (mkF m 24 #[.val (.ref a1), .val (.ref a2), .val (.int (0 : Int32))] [])
    refine own_st (fun _ k => XS.iconst X0.here hx rfl (hb hby own_d9_24) k) ?_
    show own_Go _ _ _ _ T0 (mkF m 25 #[.val (.ref a1), .val (.ref a2), .val (.int (0 : Int32))] [(.int (0 : Int32))])
    exact own_retN X0 hx hret (by simp) hlk (hb hby own_d9_25) ⟨by simp [own_eq2, nar, *], N0, e0⟩ (by decide) (by decide)
def own_se22_Q (Z : State) (a1 a2 b1 b2 : Addr) (k1 k2 : ClassId) (cs : Int32) (x0 x1 y0 y1 : Int32) (h0 : Heap) (n0 : Nat) (v : Option Value) (h : Heap) (L : List Loc) : Prop := v = some (.int (own_eq2 x0 x1 y0 y1)) ∧ Fr n0 L ∧ h = h0
set_option maxRecDepth 65536 in
set_option maxHeartbeats 40000000 in
theorem own_se22 (l : Launch) {Z : State} {a0 : Array Value} (hw : own_W Z a0) (ws : List Jvm.Cond) (a1 a2 b1 b2 : Addr) (k1 k2 : ClassId) (cs : Int32) (x0 x1 y0 y1 : Int32) (h0 : Heap) (n0 : Nat) (Z0 : n0 ≤ h0.size) (Scs : Sta Z h0 "java/lang/String" "COMPACT_STRINGS" "Z" (.int cs)) (hcs : ¬ cs = 0) (hne : ¬ a1 = a2) (E2 : Exa Z h0 a2 "java/lang/String") (Fv1 : Fld Z h0 a1 "java/lang/String" "value" "[B" (.ref b1)) (Fc1 : Fld Z h0 a1 "java/lang/String" "coder" "B" (.int (0 : Int32))) (V1 : Arv Z h0 b1 k1 .byte (2 : Int32) [(.int x0), (.int x1)] (.int (0 : Int32))) (Fv2 : Fld Z h0 a2 "java/lang/String" "value" "[B" (.ref b2)) (Fc2 : Fld Z h0 a2 "java/lang/String" "coder" "B" (.int (0 : Int32))) (V2 : Arv Z h0 b2 k2 .byte (2 : Int32) [(.int y0), (.int y1)] (.int (0 : Int32))) :
    MetFree l (⟨"java/lang/String", "equals", "(Ljava/lang/Object;)Z"⟩ : MethodName) (head1 (Jvm.Cond.code (⟨"java/lang/String", "equals", "(Ljava/lang/Object;)Z"⟩ : MethodName) jdk_42_method_66_code 3 (some .boolean) :: ws) ({ frames := 1, cells := 0, slots := 0, locals := 14 } : Room)) (fun a U => a = #[(.ref a1), (.ref a2)] ∧ Z.Warmed39 U.vm ∧ U.heap = h0) (fun _ _ _ _ _ => True) (fun _ U o U' => ∃ v L, o = .returned v ∧ own_se22_Q Z a1 a2 b1 b2 k1 k2 cs x0 x1 y0 y1 h0 n0 v U'.heap L ∧ FrameEnd U o U' L ({ frames := 1, cells := 0, slots := 0, locals := 14 } : Room).cells ({ frames := 1, cells := 0, slots := 0, locals := 14 } : Room).slots) := by
  refine own_enter (C := ({ frames := 1, cells := 0, slots := 0, locals := 14 } : Room).cells) (S := ({ frames := 1, cells := 0, slots := 0, locals := 14 } : Room).slots) (plainFor_of_name own_pn2) ?_
  intro p e s m below meth c T0 X0 I e0
  obtain ⟨hx, hby, hml, hown, hnm, hret, hlk, hZ⟩ := I
  have N0 := Fr.nil n0
  have O0 := own_extr h0
  refine own_cast (own_ef8 m a1 a2) ?_
  show own_Go _ _ _ _ T0 (mkF m 0 #[.val (.ref a1), .val (.ref a2), .unset] [])
  refine own_st (fun _ k => XS.aloadN X0.here hx rfl (hb hby own_d8_0) rfl rfl k) ?_
  show own_Go _ _ _ _ T0 (mkF m 1 #[.val (.ref a1), .val (.ref a2), .unset] [(.ref a1)])
  refine own_st (fun _ k => XS.aloadN X0.here hx rfl (hb hby own_d8_1) rfl rfl k) ?_
  show own_Go _ _ _ _ T0 (mkF m 2 #[.val (.ref a1), .val (.ref a2), .unset] [(.ref a2), (.ref a1)])
  refine own_st (fun _ k => Jvm.RoadKit.acmp (g := (mkF m 2 #[.val (.ref a1), .val (.ref a2), .unset] [(.ref a2), (.ref a1)])) X0 hx rfl rfl rfl (pc0 := 2) (pc' := 7) (same := false) rfl (hb hby own_d8_2) rfl (decide_eq_false fun q => hne (Value.ref.inj q)) (by decide) (by decide) k) ?_
  show own_Go _ _ _ _ T0 (mkF m 7 #[.val (.ref a1), .val (.ref a2), .unset] [])
  refine own_st (fun _ k => XS.aloadN X0.here hx rfl (hb hby own_d8_7) rfl rfl k) ?_
  show own_Go _ _ _ _ T0 (mkF m 8 #[.val (.ref a1), .val (.ref a2), .unset] [(.ref a2)])
  obtain ⟨T1, X1, e1, st1⟩ := instY X0 hx hZ hown (own_w61 hw) e0 (Ins.self (E2.ext O0)) (g := (mkF m 8 #[.val (.ref a1), .val (.ref a2), .unset] [(.ref a2)])) rfl rfl (hb hby own_d8_8)
  refine own_st st1 ?_
  show own_Go _ _ _ _ T1 (mkF m 11 #[.val (.ref a1), .val (.ref a2), .unset] [(.int (1 : Int32))])
  refine own_st (fun _ k => XS.ifNo X1.here hx rfl (hb hby own_d8_11) rfl ((if0 _ _).trans (feq (by decide : ¬ ((1 : Int32) = (0 : Int32)))).1) k) ?_
  show own_Go _ _ _ _ T1 (mkF m 14 #[.val (.ref a1), .val (.ref a2), .unset] [])
  refine own_st (fun _ k => XS.aloadN X1.here hx rfl (hb hby own_d8_14) rfl rfl k) ?_
  show own_Go _ _ _ _ T1 (mkF m 15 #[.val (.ref a1), .val (.ref a2), .unset] [(.ref a2)])
  obtain ⟨T2, X2, e2, st2⟩ := castY X1 hx hZ hown (own_w61 hw) e1 (Ins.self (E2.ext O0)) (g := (mkF m 15 #[.val (.ref a1), .val (.ref a2), .unset] [(.ref a2)])) rfl rfl (hb hby own_d8_15)
  refine own_st st2 ?_
  show own_Go _ _ _ _ T2 (mkF m 18 #[.val (.ref a1), .val (.ref a2), .unset] [(.ref a2)])
  refine own_st (fun _ k => XS.astoreN X2.here hx rfl (hb hby own_d8_18) rfl rfl (l' := #[.val (.ref a1), .val (.ref a2), .val (.ref a2)]) rfl k) ?_
  show own_Go _ _ _ _ T2 (mkF m 19 #[.val (.ref a1), .val (.ref a2), .val (.ref a2)] [])
  obtain ⟨T3, X3, e3, st3⟩ := getS2 X2 hx hZ hown (host := "") (Or.inl (own_w62 hw)) Via.refl e2 (Scs.ext O0) (g := (mkF m 19 #[.val (.ref a1), .val (.ref a2), .val (.ref a2)] [])) rfl (hb hby own_d8_19)
  refine own_st st3 ?_
  show own_Go _ _ _ _ T3 (mkF m 22 #[.val (.ref a1), .val (.ref a2), .val (.ref a2)] [(.int cs)])
  refine own_st (fun _ k => XS.ifNo X3.here hx rfl (hb hby own_d8_22) rfl ((if0 _ _).trans (feq (hcs : ¬ (cs = (0 : Int32)))).1) k) ?_
  show own_Go _ _ _ _ T3 (mkF m 25 #[.val (.ref a1), .val (.ref a2), .val (.ref a2)] [])
  refine own_st (fun _ k => XS.aloadN X3.here hx rfl (hb hby own_d8_25) rfl rfl k) ?_
  show own_Go _ _ _ _ T3 (mkF m 26 #[.val (.ref a1), .val (.ref a2), .val (.ref a2)] [(.ref a1)])
  obtain ⟨T4, X4, e4, st4⟩ := getF X3 hx hZ hown (host := "") (Or.inl (own_w25 hw)) Via.refl e3 (Fc1.ext O0) (g := (mkF m 26 #[.val (.ref a1), .val (.ref a2), .val (.ref a2)] [(.ref a1)])) rfl rfl (hb hby own_d8_26)
  refine own_st st4 ?_
  show own_Go _ _ _ _ T4 (mkF m 29 #[.val (.ref a1), .val (.ref a2), .val (.ref a2)] [(.int (0 : Int32))])
  refine own_st (fun _ k => XS.aloadN X4.here hx rfl (hb hby own_d8_29) rfl rfl k) ?_
  show own_Go _ _ _ _ T4 (mkF m 30 #[.val (.ref a1), .val (.ref a2), .val (.ref a2)] [(.ref a2), (.int (0 : Int32))])
  obtain ⟨T5, X5, e5, st5⟩ := getF X4 hx hZ hown (host := "") (Or.inl (own_w25 hw)) Via.refl e4 (Fc2.ext O0) (g := (mkF m 30 #[.val (.ref a1), .val (.ref a2), .val (.ref a2)] [(.ref a2), (.int (0 : Int32))])) rfl rfl (hb hby own_d8_30)
  refine own_st st5 ?_
  show own_Go _ _ _ _ T5 (mkF m 33 #[.val (.ref a1), .val (.ref a2), .val (.ref a2)] [(.int (0 : Int32)), (.int (0 : Int32))])
  refine own_st (fun _ k => XS.icmpNo X5.here hx rfl (hb hby own_d8_33) rfl (teq (by decide : (0 : Int32) = (0 : Int32))).2 k) ?_
  show own_Go _ _ _ _ T5 (mkF m 36 #[.val (.ref a1), .val (.ref a2), .val (.ref a2)] [])
  refine own_st (fun _ k => XS.aloadN X5.here hx rfl (hb hby own_d8_36) rfl rfl k) ?_
  show own_Go _ _ _ _ T5 (mkF m 37 #[.val (.ref a1), .val (.ref a2), .val (.ref a2)] [(.ref a1)])
  obtain ⟨T6, X6, e6, st6⟩ := getF X5 hx hZ hown (host := "") (Or.inl (own_w24 hw)) Via.refl e5 (Fv1.ext O0) (g := (mkF m 37 #[.val (.ref a1), .val (.ref a2), .val (.ref a2)] [(.ref a1)])) rfl rfl (hb hby own_d8_37)
  refine own_st st6 ?_
  show own_Go _ _ _ _ T6 (mkF m 40 #[.val (.ref a1), .val (.ref a2), .val (.ref a2)] [(.ref b1)])
  refine own_st (fun _ k => XS.aloadN X6.here hx rfl (hb hby own_d8_40) rfl rfl k) ?_
  show own_Go _ _ _ _ T6 (mkF m 41 #[.val (.ref a1), .val (.ref a2), .val (.ref a2)] [(.ref a2), (.ref b1)])
  obtain ⟨T7, X7, e7, st7⟩ := getF X6 hx hZ hown (host := "") (Or.inl (own_w24 hw)) Via.refl e6 (Fv2.ext O0) (g := (mkF m 41 #[.val (.ref a1), .val (.ref a2), .val (.ref a2)] [(.ref a2), (.ref b1)])) rfl rfl (hb hby own_d8_41)
  refine own_st st7 ?_
  show own_Go _ _ _ _ T7 (mkF m 44 #[.val (.ref a1), .val (.ref a2), .val (.ref a2)] [(.ref b2), (.ref b1)])
  obtain ⟨v8, T8, L8, hQ8, X8, st8⟩ := own_callS X7 hx hZ (y := (⟨"java/lang/StringLatin1", "equals", "([B[B)Z"⟩ : MethodName)) hown (own_w63 hw) (own_w64 hw) (own_w65 hw) (own_w66 hw) (by decide) (own_le22 l hw [] b1 b2 k1 k2 x0 x1 y0 y1 h0 n0 (Nat.le_trans Z0 O0.1) (V1.ext O0) (V2.ext O0)) e7 (g := (mkF m 44 #[.val (.ref a1), .val (.ref a2), .val (.ref a2)] [(.ref b2), (.ref b1)])) rfl (by rw [hml]; rfl) (argsL := [(.ref b1), (.ref b2)]) (rest := []) (lenOf own_pd7 rfl) rfl rfl (W := 0) (Nat.le_of_eq rfl) (hb hby own_d8_44) (by decide) (by decide) (by decide) (by decide)
  obtain ⟨rfl, N8, e8⟩ := hQ8
  have N8' := Fr.app N0 N8
  refine own_st st8 ?_
  show own_Go _ _ _ _ T8 (mkF m 47 #[.val (.ref a1), .val (.ref a2), .val (.ref a2)] [(.int (own_eq2 x0 x1 y0 y1))])
  by_cases hc : (own_eq2 x0 x1 y0 y1) = (0 : Int32)
  · refine own_st (fun _ k => XS.ifYes X8.here hx rfl (pc0 := 47) (pc' := 54) rfl (hb hby own_d8_47) rfl ((if0 _ _).trans (teq (hc : (own_eq2 x0 x1 y0 y1) = (0 : Int32))).1) (by decide) (by decide) k) ?_
    show own_Go _ _ _ _ T8 (mkF m 54 #[.val (.ref a1), .val (.ref a2), .val (.ref a2)] [])
    refine own_st (fun _ k => XS.iconst X8.here hx rfl (hb hby own_d8_54) k) ?_
    show own_Go _ _ _ _ T8 (mkF m 55 #[.val (.ref a1), .val (.ref a2), .val (.ref a2)] [(.int (0 : Int32))])
    exact own_retN X8 hx hret (by simp) hlk (hb hby own_d8_55) ⟨by rw [hc]; rfl, N8', e8⟩ (by decide) (by decide)
  · refine own_st (fun _ k => XS.ifNo X8.here hx rfl (hb hby own_d8_47) rfl ((if0 _ _).trans (feq (hc : ¬ ((own_eq2 x0 x1 y0 y1) = (0 : Int32)))).1) k) ?_
    show own_Go _ _ _ _ T8 (mkF m 50 #[.val (.ref a1), .val (.ref a2), .val (.ref a2)] [])
    refine own_st (fun _ k => XS.iconst X8.here hx rfl (hb hby own_d8_50) k) ?_
    show own_Go _ _ _ _ T8 (mkF m 51 #[.val (.ref a1), .val (.ref a2), .val (.ref a2)] [(.int (1 : Int32))])
    refine own_st (fun _ k => XS.goto X8.here hx rfl (pc0 := 51) (pc' := 55) rfl (hb hby own_d8_51) (by decide) (by decide) k) ?_
    show own_Go _ _ _ _ T8 (mkF m 55 #[.val (.ref a1), .val (.ref a2), .val (.ref a2)] [(.int (1 : Int32))])
    exact own_retN X8 hx hret (by simp) hlk (hb hby own_d8_55) ⟨by rw [(own_eq02 x0 x1 y0 y1).resolve_left hc]; rfl, N8', e8⟩ (by decide) (by decide)
def own_le23_Q (Z : State) (a1 a2 : Addr) (k1 k2 : ClassId) (x0 x1 y0 y1 y2 : Int32) (h0 : Heap) (n0 : Nat) (v : Option Value) (h : Heap) (L : List Loc) : Prop := v = some (.int (0 : Int32)) ∧ Fr n0 L ∧ h = h0
set_option maxRecDepth 65536 in
set_option maxHeartbeats 40000000 in
theorem own_le23 (l : Launch) {Z : State} {a0 : Array Value} (hw : own_W Z a0) (ws : List Jvm.Cond) (a1 a2 : Addr) (k1 k2 : ClassId) (x0 x1 y0 y1 y2 : Int32) (h0 : Heap) (n0 : Nat) (Z0 : n0 ≤ h0.size) (V1 : Arv Z h0 a1 k1 .byte (2 : Int32) [(.int x0), (.int x1)] (.int (0 : Int32))) (V2 : Arv Z h0 a2 k2 .byte (3 : Int32) [(.int y0), (.int y1), (.int y2)] (.int (0 : Int32))) :
    MetFree l (⟨"java/lang/StringLatin1", "equals", "([B[B)Z"⟩ : MethodName) (head1 (Jvm.Cond.code (⟨"java/lang/StringLatin1", "equals", "([B[B)Z"⟩ : MethodName) jdk_43_method_13_code 3 (some .boolean) :: ws) ({ frames := 0, cells := 0, slots := 0, locals := 0 } : Room)) (fun a U => a = #[(.ref a1), (.ref a2)] ∧ Z.Warmed39 U.vm ∧ U.heap = h0) (fun _ _ _ _ _ => True) (fun _ U o U' => ∃ v L, o = .returned v ∧ own_le23_Q Z a1 a2 k1 k2 x0 x1 y0 y1 y2 h0 n0 v U'.heap L ∧ FrameEnd U o U' L ({ frames := 0, cells := 0, slots := 0, locals := 0 } : Room).cells ({ frames := 0, cells := 0, slots := 0, locals := 0 } : Room).slots) := by
  refine own_enter (C := ({ frames := 0, cells := 0, slots := 0, locals := 0 } : Room).cells) (S := ({ frames := 0, cells := 0, slots := 0, locals := 0 } : Room).slots) (plainFor_of_name own_pn1) ?_
  intro p e s m below meth c T0 X0 I e0
  obtain ⟨hx, hby, hml, hown, hnm, hret, hlk, hZ⟩ := I
  have N0 := Fr.nil n0
  have O0 := own_extr h0
  refine own_cast (own_ef9 m a1 a2) ?_
  show own_Go _ _ _ _ T0 (mkF m 0 #[.val (.ref a1), .val (.ref a2), .unset] [])
  refine own_st (fun _ k => XS.aloadN X0.here hx rfl (hb hby own_d9_0) rfl rfl k) ?_
  show own_Go _ _ _ _ T0 (mkF m 1 #[.val (.ref a1), .val (.ref a2), .unset] [(.ref a1)])
  refine own_st (own_len X0 hx hZ e0 (V1.ext O0) (g := (mkF m 1 #[.val (.ref a1), .val (.ref a2), .unset] [(.ref a1)])) rfl rfl (hb hby own_d9_1)) ?_
  show own_Go _ _ _ _ T0 (mkF m 2 #[.val (.ref a1), .val (.ref a2), .unset] [(.int (2 : Int32))])
  refine own_st (fun _ k => XS.aloadN X0.here hx rfl (hb hby own_d9_2) rfl rfl k) ?_
  show own_Go _ _ _ _ T0 (mkF m 3 #[.val (.ref a1), .val (.ref a2), .unset] [(.ref a2), (.int (2 : Int32))])
  refine own_st (own_len X0 hx hZ e0 (V2.ext O0) (g := (mkF m 3 #[.val (.ref a1), .val (.ref a2), .unset] [(.ref a2), (.int (2 : Int32))])) rfl rfl (hb hby own_d9_3)) ?_
  show own_Go _ _ _ _ T0 (mkF m 4 #[.val (.ref a1), .val (.ref a2), .unset] [(.int (3 : Int32)), (.int (2 : Int32))])
  refine own_st (fun _ k => XS.icmpYes X0.here hx rfl (pc0 := 4) (pc' := 34) rfl (hb hby own_d9_4) rfl (feq (by decide : ¬ ((2 : Int32) = (3 : Int32)))).2 (by decide) (by decide) k) ?_
  show own_Go _ _ _ _ T0 (mkF m 34 #[.val (.ref a1), .val (.ref a2), .unset] [])
  refine own_st (fun _ k => XS.iconst X0.here hx rfl (hb hby own_d9_34) k) ?_
  show own_Go _ _ _ _ T0 (mkF m 35 #[.val (.ref a1), .val (.ref a2), .unset] [(.int (0 : Int32))])
  exact own_retN X0 hx hret (by simp) hlk (hb hby own_d9_35) ⟨rfl, N0, e0⟩ (by decide) (by decide)
def own_se23_Q (Z : State) (a1 a2 b1 b2 : Addr) (k1 k2 : ClassId) (cs : Int32) (x0 x1 y0 y1 y2 : Int32) (h0 : Heap) (n0 : Nat) (v : Option Value) (h : Heap) (L : List Loc) : Prop := v = some (.int (0 : Int32)) ∧ Fr n0 L ∧ h = h0
set_option maxRecDepth 65536 in
set_option maxHeartbeats 40000000 in
theorem own_se23 (l : Launch) {Z : State} {a0 : Array Value} (hw : own_W Z a0) (ws : List Jvm.Cond) (a1 a2 b1 b2 : Addr) (k1 k2 : ClassId) (cs : Int32) (x0 x1 y0 y1 y2 : Int32) (h0 : Heap) (n0 : Nat) (Z0 : n0 ≤ h0.size) (Scs : Sta Z h0 "java/lang/String" "COMPACT_STRINGS" "Z" (.int cs)) (hcs : ¬ cs = 0) (hne : ¬ a1 = a2) (E2 : Exa Z h0 a2 "java/lang/String") (Fv1 : Fld Z h0 a1 "java/lang/String" "value" "[B" (.ref b1)) (Fc1 : Fld Z h0 a1 "java/lang/String" "coder" "B" (.int (0 : Int32))) (V1 : Arv Z h0 b1 k1 .byte (2 : Int32) [(.int x0), (.int x1)] (.int (0 : Int32))) (Fv2 : Fld Z h0 a2 "java/lang/String" "value" "[B" (.ref b2)) (Fc2 : Fld Z h0 a2 "java/lang/String" "coder" "B" (.int (0 : Int32))) (V2 : Arv Z h0 b2 k2 .byte (3 : Int32) [(.int y0), (.int y1), (.int y2)] (.int (0 : Int32))) :
    MetFree l (⟨"java/lang/String", "equals", "(Ljava/lang/Object;)Z"⟩ : MethodName) (head1 (Jvm.Cond.code (⟨"java/lang/String", "equals", "(Ljava/lang/Object;)Z"⟩ : MethodName) jdk_42_method_66_code 3 (some .boolean) :: ws) ({ frames := 1, cells := 0, slots := 0, locals := 14 } : Room)) (fun a U => a = #[(.ref a1), (.ref a2)] ∧ Z.Warmed39 U.vm ∧ U.heap = h0) (fun _ _ _ _ _ => True) (fun _ U o U' => ∃ v L, o = .returned v ∧ own_se23_Q Z a1 a2 b1 b2 k1 k2 cs x0 x1 y0 y1 y2 h0 n0 v U'.heap L ∧ FrameEnd U o U' L ({ frames := 1, cells := 0, slots := 0, locals := 14 } : Room).cells ({ frames := 1, cells := 0, slots := 0, locals := 14 } : Room).slots) := by
  refine own_enter (C := ({ frames := 1, cells := 0, slots := 0, locals := 14 } : Room).cells) (S := ({ frames := 1, cells := 0, slots := 0, locals := 14 } : Room).slots) (plainFor_of_name own_pn2) ?_
  intro p e s m below meth c T0 X0 I e0
  obtain ⟨hx, hby, hml, hown, hnm, hret, hlk, hZ⟩ := I
  have N0 := Fr.nil n0
  have O0 := own_extr h0
  refine own_cast (own_ef8 m a1 a2) ?_
  show own_Go _ _ _ _ T0 (mkF m 0 #[.val (.ref a1), .val (.ref a2), .unset] [])
  refine own_st (fun _ k => XS.aloadN X0.here hx rfl (hb hby own_d8_0) rfl rfl k) ?_
  show own_Go _ _ _ _ T0 (mkF m 1 #[.val (.ref a1), .val (.ref a2), .unset] [(.ref a1)])
  refine own_st (fun _ k => XS.aloadN X0.here hx rfl (hb hby own_d8_1) rfl rfl k) ?_
  show own_Go _ _ _ _ T0 (mkF m 2 #[.val (.ref a1), .val (.ref a2), .unset] [(.ref a2), (.ref a1)])
  refine own_st (fun _ k => Jvm.RoadKit.acmp (g := (mkF m 2 #[.val (.ref a1), .val (.ref a2), .unset] [(.ref a2), (.ref a1)])) X0 hx rfl rfl rfl (pc0 := 2) (pc' := 7) (same := false) rfl (hb hby own_d8_2) rfl (decide_eq_false fun q => hne (Value.ref.inj q)) (by decide) (by decide) k) ?_
  show own_Go _ _ _ _ T0 (mkF m 7 #[.val (.ref a1), .val (.ref a2), .unset] [])
  refine own_st (fun _ k => XS.aloadN X0.here hx rfl (hb hby own_d8_7) rfl rfl k) ?_
  show own_Go _ _ _ _ T0 (mkF m 8 #[.val (.ref a1), .val (.ref a2), .unset] [(.ref a2)])
  obtain ⟨T1, X1, e1, st1⟩ := instY X0 hx hZ hown (own_w61 hw) e0 (Ins.self (E2.ext O0)) (g := (mkF m 8 #[.val (.ref a1), .val (.ref a2), .unset] [(.ref a2)])) rfl rfl (hb hby own_d8_8)
  refine own_st st1 ?_
  show own_Go _ _ _ _ T1 (mkF m 11 #[.val (.ref a1), .val (.ref a2), .unset] [(.int (1 : Int32))])
  refine own_st (fun _ k => XS.ifNo X1.here hx rfl (hb hby own_d8_11) rfl ((if0 _ _).trans (feq (by decide : ¬ ((1 : Int32) = (0 : Int32)))).1) k) ?_
  show own_Go _ _ _ _ T1 (mkF m 14 #[.val (.ref a1), .val (.ref a2), .unset] [])
  refine own_st (fun _ k => XS.aloadN X1.here hx rfl (hb hby own_d8_14) rfl rfl k) ?_
  show own_Go _ _ _ _ T1 (mkF m 15 #[.val (.ref a1), .val (.ref a2), .unset] [(.ref a2)])
  obtain ⟨T2, X2, e2, st2⟩ := castY X1 hx hZ hown (own_w61 hw) e1 (Ins.self (E2.ext O0)) (g := (mkF m 15 #[.val (.ref a1), .val (.ref a2), .unset] [(.ref a2)])) rfl rfl (hb hby own_d8_15)
  refine own_st st2 ?_
  show own_Go _ _ _ _ T2 (mkF m 18 #[.val (.ref a1), .val (.ref a2), .unset] [(.ref a2)])
  refine own_st (fun _ k => XS.astoreN X2.here hx rfl (hb hby own_d8_18) rfl rfl (l' := #[.val (.ref a1), .val (.ref a2), .val (.ref a2)]) rfl k) ?_
  show own_Go _ _ _ _ T2 (mkF m 19 #[.val (.ref a1), .val (.ref a2), .val (.ref a2)] [])
  obtain ⟨T3, X3, e3, st3⟩ := getS2 X2 hx hZ hown (host := "") (Or.inl (own_w62 hw)) Via.refl e2 (Scs.ext O0) (g := (mkF m 19 #[.val (.ref a1), .val (.ref a2), .val (.ref a2)] [])) rfl (hb hby own_d8_19)
  refine own_st st3 ?_
  show own_Go _ _ _ _ T3 (mkF m 22 #[.val (.ref a1), .val (.ref a2), .val (.ref a2)] [(.int cs)])
  refine own_st (fun _ k => XS.ifNo X3.here hx rfl (hb hby own_d8_22) rfl ((if0 _ _).trans (feq (hcs : ¬ (cs = (0 : Int32)))).1) k) ?_
  show own_Go _ _ _ _ T3 (mkF m 25 #[.val (.ref a1), .val (.ref a2), .val (.ref a2)] [])
  refine own_st (fun _ k => XS.aloadN X3.here hx rfl (hb hby own_d8_25) rfl rfl k) ?_
  show own_Go _ _ _ _ T3 (mkF m 26 #[.val (.ref a1), .val (.ref a2), .val (.ref a2)] [(.ref a1)])
  obtain ⟨T4, X4, e4, st4⟩ := getF X3 hx hZ hown (host := "") (Or.inl (own_w25 hw)) Via.refl e3 (Fc1.ext O0) (g := (mkF m 26 #[.val (.ref a1), .val (.ref a2), .val (.ref a2)] [(.ref a1)])) rfl rfl (hb hby own_d8_26)
  refine own_st st4 ?_
  show own_Go _ _ _ _ T4 (mkF m 29 #[.val (.ref a1), .val (.ref a2), .val (.ref a2)] [(.int (0 : Int32))])
  refine own_st (fun _ k => XS.aloadN X4.here hx rfl (hb hby own_d8_29) rfl rfl k) ?_
  show own_Go _ _ _ _ T4 (mkF m 30 #[.val (.ref a1), .val (.ref a2), .val (.ref a2)] [(.ref a2), (.int (0 : Int32))])
  obtain ⟨T5, X5, e5, st5⟩ := getF X4 hx hZ hown (host := "") (Or.inl (own_w25 hw)) Via.refl e4 (Fc2.ext O0) (g := (mkF m 30 #[.val (.ref a1), .val (.ref a2), .val (.ref a2)] [(.ref a2), (.int (0 : Int32))])) rfl rfl (hb hby own_d8_30)
  refine own_st st5 ?_
  show own_Go _ _ _ _ T5 (mkF m 33 #[.val (.ref a1), .val (.ref a2), .val (.ref a2)] [(.int (0 : Int32)), (.int (0 : Int32))])
  refine own_st (fun _ k => XS.icmpNo X5.here hx rfl (hb hby own_d8_33) rfl (teq (by decide : (0 : Int32) = (0 : Int32))).2 k) ?_
  show own_Go _ _ _ _ T5 (mkF m 36 #[.val (.ref a1), .val (.ref a2), .val (.ref a2)] [])
  refine own_st (fun _ k => XS.aloadN X5.here hx rfl (hb hby own_d8_36) rfl rfl k) ?_
  show own_Go _ _ _ _ T5 (mkF m 37 #[.val (.ref a1), .val (.ref a2), .val (.ref a2)] [(.ref a1)])
  obtain ⟨T6, X6, e6, st6⟩ := getF X5 hx hZ hown (host := "") (Or.inl (own_w24 hw)) Via.refl e5 (Fv1.ext O0) (g := (mkF m 37 #[.val (.ref a1), .val (.ref a2), .val (.ref a2)] [(.ref a1)])) rfl rfl (hb hby own_d8_37)
  refine own_st st6 ?_
  show own_Go _ _ _ _ T6 (mkF m 40 #[.val (.ref a1), .val (.ref a2), .val (.ref a2)] [(.ref b1)])
  refine own_st (fun _ k => XS.aloadN X6.here hx rfl (hb hby own_d8_40) rfl rfl k) ?_
  show own_Go _ _ _ _ T6 (mkF m 41 #[.val (.ref a1), .val (.ref a2), .val (.ref a2)] [(.ref a2), (.ref b1)])
  obtain ⟨T7, X7, e7, st7⟩ := getF X6 hx hZ hown (host := "") (Or.inl (own_w24 hw)) Via.refl e6 (Fv2.ext O0) (g := (mkF m 41 #[.val (.ref a1), .val (.ref a2), .val (.ref a2)] [(.ref a2), (.ref b1)])) rfl rfl (hb hby own_d8_41)
  refine own_st st7 ?_
  show own_Go _ _ _ _ T7 (mkF m 44 #[.val (.ref a1), .val (.ref a2), .val (.ref a2)] [(.ref b2), (.ref b1)])
  obtain ⟨v8, T8, L8, hQ8, X8, st8⟩ := own_callS X7 hx hZ (y := (⟨"java/lang/StringLatin1", "equals", "([B[B)Z"⟩ : MethodName)) hown (own_w63 hw) (own_w64 hw) (own_w65 hw) (own_w66 hw) (by decide) (own_le23 l hw [] b1 b2 k1 k2 x0 x1 y0 y1 y2 h0 n0 (Nat.le_trans Z0 O0.1) (V1.ext O0) (V2.ext O0)) e7 (g := (mkF m 44 #[.val (.ref a1), .val (.ref a2), .val (.ref a2)] [(.ref b2), (.ref b1)])) rfl (by rw [hml]; rfl) (argsL := [(.ref b1), (.ref b2)]) (rest := []) (lenOf own_pd7 rfl) rfl rfl (W := 0) (Nat.le_of_eq rfl) (hb hby own_d8_44) (by decide) (by decide) (by decide) (by decide)
  obtain ⟨rfl, N8, e8⟩ := hQ8
  have N8' := Fr.app N0 N8
  refine own_st st8 ?_
  show own_Go _ _ _ _ T8 (mkF m 47 #[.val (.ref a1), .val (.ref a2), .val (.ref a2)] [(.int (0 : Int32))])
  refine own_st (fun _ k => XS.ifYes X8.here hx rfl (pc0 := 47) (pc' := 54) rfl (hb hby own_d8_47) rfl ((if0 _ _).trans (teq (by decide : (0 : Int32) = (0 : Int32))).1) (by decide) (by decide) k) ?_
  show own_Go _ _ _ _ T8 (mkF m 54 #[.val (.ref a1), .val (.ref a2), .val (.ref a2)] [])
  refine own_st (fun _ k => XS.iconst X8.here hx rfl (hb hby own_d8_54) k) ?_
  show own_Go _ _ _ _ T8 (mkF m 55 #[.val (.ref a1), .val (.ref a2), .val (.ref a2)] [(.int (0 : Int32))])
  exact own_retN X8 hx hret (by simp) hlk (hb hby own_d8_55) ⟨rfl, N8', e8⟩ (by decide) (by decide)
def own_vals_Q (Z : State) (wv w0 w1 w2 w3 w4 w5 : Addr) (kv : ClassId) (h0 : Heap) (n0 : Nat) (v : Option Value) (h : Heap) (L : List Loc) : Prop := ∃ b k, v = some (.ref b) ∧ Fr n0 L ∧ Ext h0 h ∧ n0 ≤ b ∧ h0.size ≤ b ∧ Arv Z h b k (.object "com/example/overflowstream/overflowstream/Query$Operator") 6 [(.ref w0), (.ref w1), (.ref w2), (.ref w3), (.ref w4), (.ref w5)] .null
set_option maxRecDepth 65536 in
set_option maxHeartbeats 40000000 in
theorem own_vals (l : Launch) {Z : State} {a0 : Array Value} (hw : own_W Z a0) (ws : List Jvm.Cond) (wv w0 w1 w2 w3 w4 w5 : Addr) (kv : ClassId) (h0 : Heap) (n0 : Nat) (Z0 : n0 ≤ h0.size) (Sv : Sta Z h0 "com/example/overflowstream/overflowstream/Query$Operator" "$VALUES" "[Lcom/example/overflowstream/overflowstream/Query$Operator;" (.ref wv)) (Vv : Arv Z h0 wv kv (.object "com/example/overflowstream/overflowstream/Query$Operator") 6 [(.ref w0), (.ref w1), (.ref w2), (.ref w3), (.ref w4), (.ref w5)] .null) (Ev : Exa Z h0 wv "[Lcom/example/overflowstream/overflowstream/Query$Operator;") :
    MetFree l (⟨"com/example/overflowstream/overflowstream/Query$Operator", "values", "()[Lcom/example/overflowstream/overflowstream/Query$Operator;"⟩ : MethodName) (head1 (Jvm.Cond.code (⟨"com/example/overflowstream/overflowstream/Query$Operator", "values", "()[Lcom/example/overflowstream/overflowstream/Query$Operator;"⟩ : MethodName) prog_36_method_1_code 0 (some (.array (.object "com/example/overflowstream/overflowstream/Query$Operator"))) :: ws) ({ frames := 1, cells := 1, slots := 6, locals := 14 } : Room)) (fun a U => a = #[] ∧ Z.Warmed39 U.vm ∧ U.heap = h0) (fun _ _ _ _ _ => True) (fun _ U o U' => ∃ v L, o = .returned v ∧ own_vals_Q Z wv w0 w1 w2 w3 w4 w5 kv h0 n0 v U'.heap L ∧ FrameEnd U o U' L ({ frames := 1, cells := 1, slots := 6, locals := 14 } : Room).cells ({ frames := 1, cells := 1, slots := 6, locals := 14 } : Room).slots) := by
  refine own_enter (C := ({ frames := 1, cells := 1, slots := 6, locals := 14 } : Room).cells) (S := ({ frames := 1, cells := 1, slots := 6, locals := 14 } : Room).slots) (plainFor_of_name own_pn4) ?_
  intro p e s m below meth c T0 X0 I e0
  obtain ⟨hx, hby, hml, hown, hnm, hret, hlk, hZ⟩ := I
  have N0 := Fr.nil n0
  have O0 := own_extr h0
  refine own_cast (own_ef7 m ) ?_
  show own_Go _ _ _ _ T0 (mkF m 0 #[] [])
  obtain ⟨T1, X1, e1, st1⟩ := getS2 X0 hx hZ hown (host := "") (Or.inl (own_w36 hw)) Via.refl e0 (Sv.ext O0) (g := (mkF m 0 #[] [])) rfl (hb hby own_d7_0)
  refine own_st st1 ?_
  show own_Go _ _ _ _ T1 (mkF m 3 #[] [(.ref wv)])
  obtain ⟨T2, hp2, X2, e2, Et2, A2, Ax2, st2⟩ := cloneH X1 hx hZ hown (own_w38 hw) (own_w39 hw) (own_w43 hw) (own_w41 hw) (own_w42 hw) (own_w44 hw) e1 (Vv.ext O0).arh (Ev.ext O0) (g := (mkF m 3 #[] [(.ref wv)])) rfl (by rw [hml]; rfl) rfl (hb hby own_d7_3) (by decide) (W := 0) (cap := 6) (Nat.le_of_eq rfl) (by decide) (by decide) (by decide) (by decide)
  obtain ⟨b2, g2⟩ : ∃ z, z = h0.size := ⟨_, rfl⟩
  rw [← g2] at A2 Ax2 st2
  have s_b2 : h0.size ≤ b2 := Nat.le_trans O0.1 (Nat.le_of_eq g2.symm)
  have g_b2 : n0 ≤ b2 := Nat.le_trans Z0 s_b2
  have O2 := own_extt O0 Et2
  have Va2 : Arv Z hp2 b2 kv (.object "com/example/overflowstream/overflowstream/Query$Operator") (6 : Int32) [(.ref w0), (.ref w1), (.ref w2), (.ref w3), (.ref w4), (.ref w5)] .null := A2
  refine own_st st2 ?_
  show own_Go _ _ _ _ T2 (mkF m 6 #[] [(.ref b2)])
  obtain ⟨T3, X3, e3, st3⟩ := castY X2 hx hZ hown (own_w52 hw) e2 (Ins.self Ax2) (g := (mkF m 6 #[] [(.ref b2)])) rfl rfl (hb hby own_d7_6)
  refine own_st st3 ?_
  show own_Go _ _ _ _ T3 (mkF m 9 #[] [(.ref b2)])
  exact own_retA X3 hx hret rfl hlk rfl (hb hby own_d7_9) ⟨b2, _, rfl, N0, by rw [e3]; exact O2, g_b2, s_b2, by rw [e3]; exact Va2⟩ (by decide) (by decide)
def own_wr0_Q (Z : State) (a1 ba : Addr) (ka : ClassId) (wv w0 w1 w2 w3 w4 w5 u0 u1 u2 u3 u4 u5 y_0 y_1 y_2 y_3 y_4 y_5 : Addr) (kv k_0 k_1 k_2 k_3 k_4 k_5 : ClassId) (cs : Int32) (h0 : Heap) (n0 : Nat) (v : Option Value) (h : Heap) (L : List Loc) : Prop := v = some .null ∧ Fr n0 L ∧ Ext h0 h
set_option maxRecDepth 65536 in
set_option maxHeartbeats 40000000 in
theorem own_wr0 (l : Launch) {Z : State} {a0 : Array Value} (hw : own_W Z a0) (ws : List Jvm.Cond) (a1 ba : Addr) (ka : ClassId) (wv w0 w1 w2 w3 w4 w5 u0 u1 u2 u3 u4 u5 y_0 y_1 y_2 y_3 y_4 y_5 : Addr) (kv k_0 k_1 k_2 k_3 k_4 k_5 : ClassId) (cs : Int32) (h0 : Heap) (n0 : Nat) (Z0 : n0 ≤ h0.size) (Scs : Sta Z h0 "java/lang/String" "COMPACT_STRINGS" "Z" (.int cs)) (hcs : ¬ cs = 0) (Sv : Sta Z h0 "com/example/overflowstream/overflowstream/Query$Operator" "$VALUES" "[Lcom/example/overflowstream/overflowstream/Query$Operator;" (.ref wv)) (Vv : Arv Z h0 wv kv (.object "com/example/overflowstream/overflowstream/Query$Operator") 6 [(.ref w0), (.ref w1), (.ref w2), (.ref w3), (.ref w4), (.ref w5)] .null) (Ev : Exa Z h0 wv "[Lcom/example/overflowstream/overflowstream/Query$Operator;") (Fs0 : Fld Z h0 w0 "com/example/overflowstream/overflowstream/Query$Operator" "symbol" "Ljava/lang/String;" (.ref u0)) (Eu0 : Exa Z h0 u0 "java/lang/String") (Gv0 : Fld Z h0 u0 "java/lang/String" "value" "[B" (.ref y_0)) (Gc0 : Fld Z h0 u0 "java/lang/String" "coder" "B" (.int (0 : Int32))) (Vy0 : Arv Z h0 y_0 k_0 .byte (1 : Int32) [(.int (61 : Int32))] (.int (0 : Int32))) (Fs1 : Fld Z h0 w1 "com/example/overflowstream/overflowstream/Query$Operator" "symbol" "Ljava/lang/String;" (.ref u1)) (Eu1 : Exa Z h0 u1 "java/lang/String") (Gv1 : Fld Z h0 u1 "java/lang/String" "value" "[B" (.ref y_1)) (Gc1 : Fld Z h0 u1 "java/lang/String" "coder" "B" (.int (0 : Int32))) (Vy1 : Arv Z h0 y_1 k_1 .byte (2 : Int32) [(.int (60 : Int32)), (.int (62 : Int32))] (.int (0 : Int32))) (Fs2 : Fld Z h0 w2 "com/example/overflowstream/overflowstream/Query$Operator" "symbol" "Ljava/lang/String;" (.ref u2)) (Eu2 : Exa Z h0 u2 "java/lang/String") (Gv2 : Fld Z h0 u2 "java/lang/String" "value" "[B" (.ref y_2)) (Gc2 : Fld Z h0 u2 "java/lang/String" "coder" "B" (.int (0 : Int32))) (Vy2 : Arv Z h0 y_2 k_2 .byte (1 : Int32) [(.int (60 : Int32))] (.int (0 : Int32))) (Fs3 : Fld Z h0 w3 "com/example/overflowstream/overflowstream/Query$Operator" "symbol" "Ljava/lang/String;" (.ref u3)) (Eu3 : Exa Z h0 u3 "java/lang/String") (Gv3 : Fld Z h0 u3 "java/lang/String" "value" "[B" (.ref y_3)) (Gc3 : Fld Z h0 u3 "java/lang/String" "coder" "B" (.int (0 : Int32))) (Vy3 : Arv Z h0 y_3 k_3 .byte (2 : Int32) [(.int (60 : Int32)), (.int (61 : Int32))] (.int (0 : Int32))) (Fs4 : Fld Z h0 w4 "com/example/overflowstream/overflowstream/Query$Operator" "symbol" "Ljava/lang/String;" (.ref u4)) (Eu4 : Exa Z h0 u4 "java/lang/String") (Gv4 : Fld Z h0 u4 "java/lang/String" "value" "[B" (.ref y_4)) (Gc4 : Fld Z h0 u4 "java/lang/String" "coder" "B" (.int (0 : Int32))) (Vy4 : Arv Z h0 y_4 k_4 .byte (1 : Int32) [(.int (62 : Int32))] (.int (0 : Int32))) (Fs5 : Fld Z h0 w5 "com/example/overflowstream/overflowstream/Query$Operator" "symbol" "Ljava/lang/String;" (.ref u5)) (Eu5 : Exa Z h0 u5 "java/lang/String") (Gv5 : Fld Z h0 u5 "java/lang/String" "value" "[B" (.ref y_5)) (Gc5 : Fld Z h0 u5 "java/lang/String" "coder" "B" (.int (0 : Int32))) (Vy5 : Arv Z h0 y_5 k_5 .byte (2 : Int32) [(.int (62 : Int32)), (.int (61 : Int32))] (.int (0 : Int32))) (dn0 : ¬ u0 = a1) (dn1 : ¬ u1 = a1) (dn2 : ¬ u2 = a1) (dn3 : ¬ u3 = a1) (dn4 : ¬ u4 = a1) (dn5 : ¬ u5 = a1) (Ea : Exa Z h0 a1 "java/lang/String") (Fva : Fld Z h0 a1 "java/lang/String" "value" "[B" (.ref ba)) (Fca : Fld Z h0 a1 "java/lang/String" "coder" "B" (.int (0 : Int32))) (Va : Arv Z h0 ba ka .byte (0 : Int32) [] (.int (0 : Int32))) :
    MetFree l (⟨"com/example/overflowstream/overflowstream/Query$Operator", "written", "(Ljava/lang/String;)Lcom/example/overflowstream/overflowstream/Query$Operator;"⟩ : MethodName) (head1 (Jvm.Cond.code (⟨"com/example/overflowstream/overflowstream/Query$Operator", "written", "(Ljava/lang/String;)Lcom/example/overflowstream/overflowstream/Query$Operator;"⟩ : MethodName) prog_36_method_4_code 5 (some (.object "com/example/overflowstream/overflowstream/Query$Operator")) :: ws) ({ frames := 2, cells := 1, slots := 6, locals := 28 } : Room)) (fun a U => a = #[(.ref a1)] ∧ Z.Warmed39 U.vm ∧ U.heap = h0) (fun _ _ _ _ _ => True) (fun _ U o U' => ∃ v L, o = .returned v ∧ own_wr0_Q Z a1 ba ka wv w0 w1 w2 w3 w4 w5 u0 u1 u2 u3 u4 u5 y_0 y_1 y_2 y_3 y_4 y_5 kv k_0 k_1 k_2 k_3 k_4 k_5 cs h0 n0 v U'.heap L ∧ FrameEnd U o U' L ({ frames := 2, cells := 1, slots := 6, locals := 28 } : Room).cells ({ frames := 2, cells := 1, slots := 6, locals := 28 } : Room).slots) := by
  refine own_enter (C := ({ frames := 2, cells := 1, slots := 6, locals := 28 } : Room).cells) (S := ({ frames := 2, cells := 1, slots := 6, locals := 28 } : Room).slots) (plainFor_of_name own_pn4) ?_
  intro p e s m below meth c T0 X0 I e0
  obtain ⟨hx, hby, hml, hown, hnm, hret, hlk, hZ⟩ := I
  have N0 := Fr.nil n0
  have O0 := own_extr h0
  refine own_cast (own_ef6 m a1) ?_
  show own_Go _ _ _ _ T0 (mkF m 0 #[.val (.ref a1), .unset, .unset, .unset, .unset] [])
  obtain ⟨v1, T1, L1, hQ1, X1, st1⟩ := own_callS X0 hx hZ (y := (⟨"com/example/overflowstream/overflowstream/Query$Operator", "values", "()[Lcom/example/overflowstream/overflowstream/Query$Operator;"⟩ : MethodName)) hown (own_w33 hw) (own_w34 hw) (own_w31 hw) (own_w35 hw) (by decide) (own_vals l hw [] wv w0 w1 w2 w3 w4 w5 kv h0 n0 (Nat.le_trans Z0 O0.1) (Sv.ext O0) (Vv.ext O0) (Ev.ext O0)) e0 (g := (mkF m 0 #[.val (.ref a1), .unset, .unset, .unset, .unset] [])) rfl (by rw [hml]; rfl) (argsL := []) (rest := []) (lenOf own_pd8 rfl) rfl rfl (W := 0) (Nat.le_of_eq rfl) (hb hby own_d6_0) (by decide) (by decide) (by decide) (by decide)
  obtain ⟨bv, kb, rfl, N1, Et1, gb, sb, Vb⟩ := hQ1
  have O1 := own_extt O0 Et1
  have N1' := Fr.app N0 N1
  refine own_st st1 ?_
  show own_Go _ _ _ _ T1 (mkF m 3 #[.val (.ref a1), .unset, .unset, .unset, .unset] [(.ref bv)])
  refine own_st (fun _ k => XS.astoreN X1.here hx rfl (hb hby own_d6_3) rfl rfl (l' := #[.val (.ref a1), .val (.ref bv), .unset, .unset, .unset]) rfl k) ?_
  show own_Go _ _ _ _ T1 (mkF m 4 #[.val (.ref a1), .val (.ref bv), .unset, .unset, .unset] [])
  refine own_st (fun _ k => XS.aloadN X1.here hx rfl (hb hby own_d6_4) rfl rfl k) ?_
  show own_Go _ _ _ _ T1 (mkF m 5 #[.val (.ref a1), .val (.ref bv), .unset, .unset, .unset] [(.ref bv)])
  refine own_st (own_len X1 hx hZ rfl Vb (g := (mkF m 5 #[.val (.ref a1), .val (.ref bv), .unset, .unset, .unset] [(.ref bv)])) rfl rfl (hb hby own_d6_5)) ?_
  show own_Go _ _ _ _ T1 (mkF m 6 #[.val (.ref a1), .val (.ref bv), .unset, .unset, .unset] [(.int (6 : Int32))])
  refine own_st (fun _ k => XS.istoreN X1.here hx rfl (hb hby own_d6_6) rfl (l' := #[.val (.ref a1), .val (.ref bv), .val (.int (6 : Int32)), .unset, .unset]) rfl k) ?_
  show own_Go _ _ _ _ T1 (mkF m 7 #[.val (.ref a1), .val (.ref bv), .val (.int (6 : Int32)), .unset, .unset] [])
  refine own_st (fun _ k => XS.iconst X1.here hx rfl (hb hby own_d6_7) k) ?_
  show own_Go _ _ _ _ T1 (mkF m 8 #[.val (.ref a1), .val (.ref bv), .val (.int (6 : Int32)), .unset, .unset] [(.int (0 : Int32))])
  refine own_st (fun _ k => XS.istoreN X1.here hx rfl (hb hby own_d6_8) rfl (l' := #[.val (.ref a1), .val (.ref bv), .val (.int (6 : Int32)), .val (.int (0 : Int32)), .unset]) rfl k) ?_
  show own_Go _ _ _ _ T1 (mkF m 9 #[.val (.ref a1), .val (.ref bv), .val (.int (6 : Int32)), .val (.int (0 : Int32)), .unset] [])
  refine own_st (fun _ k => XS.iloadN X1.here hx rfl (hb hby own_d6_9) rfl k) ?_
  show own_Go _ _ _ _ T1 (mkF m 10 #[.val (.ref a1), .val (.ref bv), .val (.int (6 : Int32)), .val (.int (0 : Int32)), .unset] [(.int (0 : Int32))])
  refine own_st (fun _ k => XS.iloadN X1.here hx rfl (hb hby own_d6_10) rfl k) ?_
  show own_Go _ _ _ _ T1 (mkF m 11 #[.val (.ref a1), .val (.ref bv), .val (.int (6 : Int32)), .val (.int (0 : Int32)), .unset] [(.int (6 : Int32)), (.int (0 : Int32))])
  refine own_st (fun _ k => XS.icmpNo X1.here hx rfl (hb hby own_d6_11) rfl (tlt (by decide : (0 : Int32) < (6 : Int32))).2.1 k) ?_
  show own_Go _ _ _ _ T1 (mkF m 14 #[.val (.ref a1), .val (.ref bv), .val (.int (6 : Int32)), .val (.int (0 : Int32)), .unset] [])
  refine own_st (fun _ k => XS.aloadN X1.here hx rfl (hb hby own_d6_14) rfl rfl k) ?_
  show own_Go _ _ _ _ T1 (mkF m 15 #[.val (.ref a1), .val (.ref bv), .val (.int (6 : Int32)), .val (.int (0 : Int32)), .unset] [(.ref bv)])
  refine own_st (fun _ k => XS.iloadN X1.here hx rfl (hb hby own_d6_15) rfl k) ?_
  show own_Go _ _ _ _ T1 (mkF m 16 #[.val (.ref a1), .val (.ref bv), .val (.int (6 : Int32)), .val (.int (0 : Int32)), .unset] [(.int (0 : Int32)), (.ref bv)])
  refine own_st (own_ldR X1 hx hZ rfl Vb rfl (j := (0 : Int32)) (by decide) (v := (.ref w0)) rfl (g := (mkF m 16 #[.val (.ref a1), .val (.ref bv), .val (.int (6 : Int32)), .val (.int (0 : Int32)), .unset] [(.int (0 : Int32)), (.ref bv)])) rfl rfl (hb hby own_d6_16)) ?_
  show own_Go _ _ _ _ T1 (mkF m 17 #[.val (.ref a1), .val (.ref bv), .val (.int (6 : Int32)), .val (.int (0 : Int32)), .unset] [(.ref w0)])
  refine own_st (fun _ k => XS.astore X1.here hx rfl (hb hby own_d6_17) rfl rfl (l' := #[.val (.ref a1), .val (.ref bv), .val (.int (6 : Int32)), .val (.int (0 : Int32)), .val (.ref w0)]) rfl k) ?_
  show own_Go _ _ _ _ T1 (mkF m 19 #[.val (.ref a1), .val (.ref bv), .val (.int (6 : Int32)), .val (.int (0 : Int32)), .val (.ref w0)] [])
  refine own_st (fun _ k => XS.aload X1.here hx rfl (hb hby own_d6_19) rfl rfl k) ?_
  show own_Go _ _ _ _ T1 (mkF m 21 #[.val (.ref a1), .val (.ref bv), .val (.int (6 : Int32)), .val (.int (0 : Int32)), .val (.ref w0)] [(.ref w0)])
  obtain ⟨T2, X2, e2, st2⟩ := getF X1 hx hZ hown (host := "") (Or.inl (own_w54 hw)) Via.refl rfl (Fs0.ext O1) (g := (mkF m 21 #[.val (.ref a1), .val (.ref bv), .val (.int (6 : Int32)), .val (.int (0 : Int32)), .val (.ref w0)] [(.ref w0)])) rfl rfl (hb hby own_d6_21)
  refine own_st st2 ?_
  show own_Go _ _ _ _ T2 (mkF m 24 #[.val (.ref a1), .val (.ref bv), .val (.int (6 : Int32)), .val (.int (0 : Int32)), .val (.ref w0)] [(.ref u0)])
  refine own_st (fun _ k => XS.aloadN X2.here hx rfl (hb hby own_d6_24) rfl rfl k) ?_
  show own_Go _ _ _ _ T2 (mkF m 25 #[.val (.ref a1), .val (.ref bv), .val (.int (6 : Int32)), .val (.int (0 : Int32)), .val (.ref w0)] [(.ref a1), (.ref u0)])
  obtain ⟨v3, T3, L3, hQ3, X3, st3⟩ := own_callV X2 hx hZ (y := (⟨"java/lang/String", "equals", "(Ljava/lang/Object;)Z"⟩ : MethodName)) hown (own_w56 hw) (own_w57 hw) (own_w59 hw) (own_w58 hw) (own_w6 hw) (own_w60 hw) (by decide) (own_se10 l hw [] u0 a1 y_0 ba k_0 ka cs (61 : Int32) T1.heap n0 (Nat.le_trans Z0 O1.1) (Scs.ext O1) hcs dn0 (Ea.ext O1) (Gv0.ext O1) (Gc0.ext O1) (Vy0.ext O1) (Fva.ext O1) (Fca.ext O1) (Va.ext O1)) e2 (Eu0.ext O1) (g := (mkF m 25 #[.val (.ref a1), .val (.ref bv), .val (.int (6 : Int32)), .val (.int (0 : Int32)), .val (.ref w0)] [(.ref a1), (.ref u0)])) rfl (by rw [hml]; rfl) (argsL := [(.ref a1)]) (rest := []) (lenOf own_pd9 rfl) rfl rfl (W := 0) (Nat.le_of_eq rfl) (hb hby own_d6_25) (by decide) (by decide) (by decide) (by decide)
  obtain ⟨rfl, N3, e3⟩ := hQ3
  have N3' := Fr.app N1' N3
  refine own_st st3 ?_
  show own_Go _ _ _ _ T3 (mkF m 28 #[.val (.ref a1), .val (.ref bv), .val (.int (6 : Int32)), .val (.int (0 : Int32)), .val (.ref w0)] [(.int (0 : Int32))])
  refine own_st (fun _ k => XS.ifYes X3.here hx rfl (pc0 := 28) (pc' := 34) rfl (hb hby own_d6_28) rfl ((if0 _ _).trans (teq (by decide : (0 : Int32) = (0 : Int32))).1) (by decide) (by decide) k) ?_
  show own_Go _ _ _ _ T3 (mkF m 34 #[.val (.ref a1), .val (.ref bv), .val (.int (6 : Int32)), .val (.int (0 : Int32)), .val (.ref w0)] [])
  refine own_st (fun _ k => XS.iinc X3.here hx rfl (hb hby own_d6_34) rfl (l' := #[.val (.ref a1), .val (.ref bv), .val (.int (6 : Int32)), .val (.int ((0 : Int32) + (1 : Int32))), .val (.ref w0)]) rfl k) ?_
  show own_Go _ _ _ _ T3 (mkF m 37 #[.val (.ref a1), .val (.ref bv), .val (.int (6 : Int32)), .val (.int ((0 : Int32) + (1 : Int32))), .val (.ref w0)] [])
  rw [show ((0 : Int32) + (1 : Int32)) = (1 : Int32) from by decide]
  show own_Go _ _ _ _ T3 (mkF m 37 #[.val (.ref a1), .val (.ref bv), .val (.int (6 : Int32)), .val (.int (1 : Int32)), .val (.ref w0)] [])
  refine own_st (fun _ k => XS.goto X3.here hx rfl (pc0 := 37) (pc' := 9) rfl (hb hby own_d6_37) (by decide) (by decide) k) ?_
  show own_Go _ _ _ _ T3 (mkF m 9 #[.val (.ref a1), .val (.ref bv), .val (.int (6 : Int32)), .val (.int (1 : Int32)), .val (.ref w0)] [])
  refine own_st (fun _ k => XS.iloadN X3.here hx rfl (hb hby own_d6_9) rfl k) ?_
  show own_Go _ _ _ _ T3 (mkF m 10 #[.val (.ref a1), .val (.ref bv), .val (.int (6 : Int32)), .val (.int (1 : Int32)), .val (.ref w0)] [(.int (1 : Int32))])
  refine own_st (fun _ k => XS.iloadN X3.here hx rfl (hb hby own_d6_10) rfl k) ?_
  show own_Go _ _ _ _ T3 (mkF m 11 #[.val (.ref a1), .val (.ref bv), .val (.int (6 : Int32)), .val (.int (1 : Int32)), .val (.ref w0)] [(.int (6 : Int32)), (.int (1 : Int32))])
  refine own_st (fun _ k => XS.icmpNo X3.here hx rfl (hb hby own_d6_11) rfl (tlt (by decide : (1 : Int32) < (6 : Int32))).2.1 k) ?_
  show own_Go _ _ _ _ T3 (mkF m 14 #[.val (.ref a1), .val (.ref bv), .val (.int (6 : Int32)), .val (.int (1 : Int32)), .val (.ref w0)] [])
  refine own_st (fun _ k => XS.aloadN X3.here hx rfl (hb hby own_d6_14) rfl rfl k) ?_
  show own_Go _ _ _ _ T3 (mkF m 15 #[.val (.ref a1), .val (.ref bv), .val (.int (6 : Int32)), .val (.int (1 : Int32)), .val (.ref w0)] [(.ref bv)])
  refine own_st (fun _ k => XS.iloadN X3.here hx rfl (hb hby own_d6_15) rfl k) ?_
  show own_Go _ _ _ _ T3 (mkF m 16 #[.val (.ref a1), .val (.ref bv), .val (.int (6 : Int32)), .val (.int (1 : Int32)), .val (.ref w0)] [(.int (1 : Int32)), (.ref bv)])
  refine own_st (own_ldR X3 hx hZ e3 Vb rfl (j := (1 : Int32)) (by decide) (v := (.ref w1)) rfl (g := (mkF m 16 #[.val (.ref a1), .val (.ref bv), .val (.int (6 : Int32)), .val (.int (1 : Int32)), .val (.ref w0)] [(.int (1 : Int32)), (.ref bv)])) rfl rfl (hb hby own_d6_16)) ?_
  show own_Go _ _ _ _ T3 (mkF m 17 #[.val (.ref a1), .val (.ref bv), .val (.int (6 : Int32)), .val (.int (1 : Int32)), .val (.ref w0)] [(.ref w1)])
  refine own_st (fun _ k => XS.astore X3.here hx rfl (hb hby own_d6_17) rfl rfl (l' := #[.val (.ref a1), .val (.ref bv), .val (.int (6 : Int32)), .val (.int (1 : Int32)), .val (.ref w1)]) rfl k) ?_
  show own_Go _ _ _ _ T3 (mkF m 19 #[.val (.ref a1), .val (.ref bv), .val (.int (6 : Int32)), .val (.int (1 : Int32)), .val (.ref w1)] [])
  refine own_st (fun _ k => XS.aload X3.here hx rfl (hb hby own_d6_19) rfl rfl k) ?_
  show own_Go _ _ _ _ T3 (mkF m 21 #[.val (.ref a1), .val (.ref bv), .val (.int (6 : Int32)), .val (.int (1 : Int32)), .val (.ref w1)] [(.ref w1)])
  obtain ⟨T4, X4, e4, st4⟩ := getF X3 hx hZ hown (host := "") (Or.inl (own_w54 hw)) Via.refl e3 (Fs1.ext O1) (g := (mkF m 21 #[.val (.ref a1), .val (.ref bv), .val (.int (6 : Int32)), .val (.int (1 : Int32)), .val (.ref w1)] [(.ref w1)])) rfl rfl (hb hby own_d6_21)
  refine own_st st4 ?_
  show own_Go _ _ _ _ T4 (mkF m 24 #[.val (.ref a1), .val (.ref bv), .val (.int (6 : Int32)), .val (.int (1 : Int32)), .val (.ref w1)] [(.ref u1)])
  refine own_st (fun _ k => XS.aloadN X4.here hx rfl (hb hby own_d6_24) rfl rfl k) ?_
  show own_Go _ _ _ _ T4 (mkF m 25 #[.val (.ref a1), .val (.ref bv), .val (.int (6 : Int32)), .val (.int (1 : Int32)), .val (.ref w1)] [(.ref a1), (.ref u1)])
  obtain ⟨v5, T5, L5, hQ5, X5, st5⟩ := own_callV X4 hx hZ (y := (⟨"java/lang/String", "equals", "(Ljava/lang/Object;)Z"⟩ : MethodName)) hown (own_w56 hw) (own_w57 hw) (own_w59 hw) (own_w58 hw) (own_w6 hw) (own_w60 hw) (by decide) (own_se20 l hw [] u1 a1 y_1 ba k_1 ka cs (60 : Int32) (62 : Int32) T1.heap n0 (Nat.le_trans Z0 O1.1) (Scs.ext O1) hcs dn1 (Ea.ext O1) (Gv1.ext O1) (Gc1.ext O1) (Vy1.ext O1) (Fva.ext O1) (Fca.ext O1) (Va.ext O1)) e4 (Eu1.ext O1) (g := (mkF m 25 #[.val (.ref a1), .val (.ref bv), .val (.int (6 : Int32)), .val (.int (1 : Int32)), .val (.ref w1)] [(.ref a1), (.ref u1)])) rfl (by rw [hml]; rfl) (argsL := [(.ref a1)]) (rest := []) (lenOf own_pd9 rfl) rfl rfl (W := 0) (Nat.le_of_eq rfl) (hb hby own_d6_25) (by decide) (by decide) (by decide) (by decide)
  obtain ⟨rfl, N5, e5⟩ := hQ5
  have N5' := Fr.app N3' N5
  refine own_st st5 ?_
  show own_Go _ _ _ _ T5 (mkF m 28 #[.val (.ref a1), .val (.ref bv), .val (.int (6 : Int32)), .val (.int (1 : Int32)), .val (.ref w1)] [(.int (0 : Int32))])
  refine own_st (fun _ k => XS.ifYes X5.here hx rfl (pc0 := 28) (pc' := 34) rfl (hb hby own_d6_28) rfl ((if0 _ _).trans (teq (by decide : (0 : Int32) = (0 : Int32))).1) (by decide) (by decide) k) ?_
  show own_Go _ _ _ _ T5 (mkF m 34 #[.val (.ref a1), .val (.ref bv), .val (.int (6 : Int32)), .val (.int (1 : Int32)), .val (.ref w1)] [])
  refine own_st (fun _ k => XS.iinc X5.here hx rfl (hb hby own_d6_34) rfl (l' := #[.val (.ref a1), .val (.ref bv), .val (.int (6 : Int32)), .val (.int ((1 : Int32) + (1 : Int32))), .val (.ref w1)]) rfl k) ?_
  show own_Go _ _ _ _ T5 (mkF m 37 #[.val (.ref a1), .val (.ref bv), .val (.int (6 : Int32)), .val (.int ((1 : Int32) + (1 : Int32))), .val (.ref w1)] [])
  rw [show ((1 : Int32) + (1 : Int32)) = (2 : Int32) from by decide]
  show own_Go _ _ _ _ T5 (mkF m 37 #[.val (.ref a1), .val (.ref bv), .val (.int (6 : Int32)), .val (.int (2 : Int32)), .val (.ref w1)] [])
  refine own_st (fun _ k => XS.goto X5.here hx rfl (pc0 := 37) (pc' := 9) rfl (hb hby own_d6_37) (by decide) (by decide) k) ?_
  show own_Go _ _ _ _ T5 (mkF m 9 #[.val (.ref a1), .val (.ref bv), .val (.int (6 : Int32)), .val (.int (2 : Int32)), .val (.ref w1)] [])
  refine own_st (fun _ k => XS.iloadN X5.here hx rfl (hb hby own_d6_9) rfl k) ?_
  show own_Go _ _ _ _ T5 (mkF m 10 #[.val (.ref a1), .val (.ref bv), .val (.int (6 : Int32)), .val (.int (2 : Int32)), .val (.ref w1)] [(.int (2 : Int32))])
  refine own_st (fun _ k => XS.iloadN X5.here hx rfl (hb hby own_d6_10) rfl k) ?_
  show own_Go _ _ _ _ T5 (mkF m 11 #[.val (.ref a1), .val (.ref bv), .val (.int (6 : Int32)), .val (.int (2 : Int32)), .val (.ref w1)] [(.int (6 : Int32)), (.int (2 : Int32))])
  refine own_st (fun _ k => XS.icmpNo X5.here hx rfl (hb hby own_d6_11) rfl (tlt (by decide : (2 : Int32) < (6 : Int32))).2.1 k) ?_
  show own_Go _ _ _ _ T5 (mkF m 14 #[.val (.ref a1), .val (.ref bv), .val (.int (6 : Int32)), .val (.int (2 : Int32)), .val (.ref w1)] [])
  refine own_st (fun _ k => XS.aloadN X5.here hx rfl (hb hby own_d6_14) rfl rfl k) ?_
  show own_Go _ _ _ _ T5 (mkF m 15 #[.val (.ref a1), .val (.ref bv), .val (.int (6 : Int32)), .val (.int (2 : Int32)), .val (.ref w1)] [(.ref bv)])
  refine own_st (fun _ k => XS.iloadN X5.here hx rfl (hb hby own_d6_15) rfl k) ?_
  show own_Go _ _ _ _ T5 (mkF m 16 #[.val (.ref a1), .val (.ref bv), .val (.int (6 : Int32)), .val (.int (2 : Int32)), .val (.ref w1)] [(.int (2 : Int32)), (.ref bv)])
  refine own_st (own_ldR X5 hx hZ e5 Vb rfl (j := (2 : Int32)) (by decide) (v := (.ref w2)) rfl (g := (mkF m 16 #[.val (.ref a1), .val (.ref bv), .val (.int (6 : Int32)), .val (.int (2 : Int32)), .val (.ref w1)] [(.int (2 : Int32)), (.ref bv)])) rfl rfl (hb hby own_d6_16)) ?_
  show own_Go _ _ _ _ T5 (mkF m 17 #[.val (.ref a1), .val (.ref bv), .val (.int (6 : Int32)), .val (.int (2 : Int32)), .val (.ref w1)] [(.ref w2)])
  refine own_st (fun _ k => XS.astore X5.here hx rfl (hb hby own_d6_17) rfl rfl (l' := #[.val (.ref a1), .val (.ref bv), .val (.int (6 : Int32)), .val (.int (2 : Int32)), .val (.ref w2)]) rfl k) ?_
  show own_Go _ _ _ _ T5 (mkF m 19 #[.val (.ref a1), .val (.ref bv), .val (.int (6 : Int32)), .val (.int (2 : Int32)), .val (.ref w2)] [])
  refine own_st (fun _ k => XS.aload X5.here hx rfl (hb hby own_d6_19) rfl rfl k) ?_
  show own_Go _ _ _ _ T5 (mkF m 21 #[.val (.ref a1), .val (.ref bv), .val (.int (6 : Int32)), .val (.int (2 : Int32)), .val (.ref w2)] [(.ref w2)])
  obtain ⟨T6, X6, e6, st6⟩ := getF X5 hx hZ hown (host := "") (Or.inl (own_w54 hw)) Via.refl e5 (Fs2.ext O1) (g := (mkF m 21 #[.val (.ref a1), .val (.ref bv), .val (.int (6 : Int32)), .val (.int (2 : Int32)), .val (.ref w2)] [(.ref w2)])) rfl rfl (hb hby own_d6_21)
  refine own_st st6 ?_
  show own_Go _ _ _ _ T6 (mkF m 24 #[.val (.ref a1), .val (.ref bv), .val (.int (6 : Int32)), .val (.int (2 : Int32)), .val (.ref w2)] [(.ref u2)])
  refine own_st (fun _ k => XS.aloadN X6.here hx rfl (hb hby own_d6_24) rfl rfl k) ?_
  show own_Go _ _ _ _ T6 (mkF m 25 #[.val (.ref a1), .val (.ref bv), .val (.int (6 : Int32)), .val (.int (2 : Int32)), .val (.ref w2)] [(.ref a1), (.ref u2)])
  obtain ⟨v7, T7, L7, hQ7, X7, st7⟩ := own_callV X6 hx hZ (y := (⟨"java/lang/String", "equals", "(Ljava/lang/Object;)Z"⟩ : MethodName)) hown (own_w56 hw) (own_w57 hw) (own_w59 hw) (own_w58 hw) (own_w6 hw) (own_w60 hw) (by decide) (own_se10 l hw [] u2 a1 y_2 ba k_2 ka cs (60 : Int32) T1.heap n0 (Nat.le_trans Z0 O1.1) (Scs.ext O1) hcs dn2 (Ea.ext O1) (Gv2.ext O1) (Gc2.ext O1) (Vy2.ext O1) (Fva.ext O1) (Fca.ext O1) (Va.ext O1)) e6 (Eu2.ext O1) (g := (mkF m 25 #[.val (.ref a1), .val (.ref bv), .val (.int (6 : Int32)), .val (.int (2 : Int32)), .val (.ref w2)] [(.ref a1), (.ref u2)])) rfl (by rw [hml]; rfl) (argsL := [(.ref a1)]) (rest := []) (lenOf own_pd9 rfl) rfl rfl (W := 0) (Nat.le_of_eq rfl) (hb hby own_d6_25) (by decide) (by decide) (by decide) (by decide)
  obtain ⟨rfl, N7, e7⟩ := hQ7
  have N7' := Fr.app N5' N7
  refine own_st st7 ?_
  show own_Go _ _ _ _ T7 (mkF m 28 #[.val (.ref a1), .val (.ref bv), .val (.int (6 : Int32)), .val (.int (2 : Int32)), .val (.ref w2)] [(.int (0 : Int32))])
  refine own_st (fun _ k => XS.ifYes X7.here hx rfl (pc0 := 28) (pc' := 34) rfl (hb hby own_d6_28) rfl ((if0 _ _).trans (teq (by decide : (0 : Int32) = (0 : Int32))).1) (by decide) (by decide) k) ?_
  show own_Go _ _ _ _ T7 (mkF m 34 #[.val (.ref a1), .val (.ref bv), .val (.int (6 : Int32)), .val (.int (2 : Int32)), .val (.ref w2)] [])
  refine own_st (fun _ k => XS.iinc X7.here hx rfl (hb hby own_d6_34) rfl (l' := #[.val (.ref a1), .val (.ref bv), .val (.int (6 : Int32)), .val (.int ((2 : Int32) + (1 : Int32))), .val (.ref w2)]) rfl k) ?_
  show own_Go _ _ _ _ T7 (mkF m 37 #[.val (.ref a1), .val (.ref bv), .val (.int (6 : Int32)), .val (.int ((2 : Int32) + (1 : Int32))), .val (.ref w2)] [])
  rw [show ((2 : Int32) + (1 : Int32)) = (3 : Int32) from by decide]
  show own_Go _ _ _ _ T7 (mkF m 37 #[.val (.ref a1), .val (.ref bv), .val (.int (6 : Int32)), .val (.int (3 : Int32)), .val (.ref w2)] [])
  refine own_st (fun _ k => XS.goto X7.here hx rfl (pc0 := 37) (pc' := 9) rfl (hb hby own_d6_37) (by decide) (by decide) k) ?_
  show own_Go _ _ _ _ T7 (mkF m 9 #[.val (.ref a1), .val (.ref bv), .val (.int (6 : Int32)), .val (.int (3 : Int32)), .val (.ref w2)] [])
  refine own_st (fun _ k => XS.iloadN X7.here hx rfl (hb hby own_d6_9) rfl k) ?_
  show own_Go _ _ _ _ T7 (mkF m 10 #[.val (.ref a1), .val (.ref bv), .val (.int (6 : Int32)), .val (.int (3 : Int32)), .val (.ref w2)] [(.int (3 : Int32))])
  refine own_st (fun _ k => XS.iloadN X7.here hx rfl (hb hby own_d6_10) rfl k) ?_
  show own_Go _ _ _ _ T7 (mkF m 11 #[.val (.ref a1), .val (.ref bv), .val (.int (6 : Int32)), .val (.int (3 : Int32)), .val (.ref w2)] [(.int (6 : Int32)), (.int (3 : Int32))])
  refine own_st (fun _ k => XS.icmpNo X7.here hx rfl (hb hby own_d6_11) rfl (tlt (by decide : (3 : Int32) < (6 : Int32))).2.1 k) ?_
  show own_Go _ _ _ _ T7 (mkF m 14 #[.val (.ref a1), .val (.ref bv), .val (.int (6 : Int32)), .val (.int (3 : Int32)), .val (.ref w2)] [])
  refine own_st (fun _ k => XS.aloadN X7.here hx rfl (hb hby own_d6_14) rfl rfl k) ?_
  show own_Go _ _ _ _ T7 (mkF m 15 #[.val (.ref a1), .val (.ref bv), .val (.int (6 : Int32)), .val (.int (3 : Int32)), .val (.ref w2)] [(.ref bv)])
  refine own_st (fun _ k => XS.iloadN X7.here hx rfl (hb hby own_d6_15) rfl k) ?_
  show own_Go _ _ _ _ T7 (mkF m 16 #[.val (.ref a1), .val (.ref bv), .val (.int (6 : Int32)), .val (.int (3 : Int32)), .val (.ref w2)] [(.int (3 : Int32)), (.ref bv)])
  refine own_st (own_ldR X7 hx hZ e7 Vb rfl (j := (3 : Int32)) (by decide) (v := (.ref w3)) rfl (g := (mkF m 16 #[.val (.ref a1), .val (.ref bv), .val (.int (6 : Int32)), .val (.int (3 : Int32)), .val (.ref w2)] [(.int (3 : Int32)), (.ref bv)])) rfl rfl (hb hby own_d6_16)) ?_
  show own_Go _ _ _ _ T7 (mkF m 17 #[.val (.ref a1), .val (.ref bv), .val (.int (6 : Int32)), .val (.int (3 : Int32)), .val (.ref w2)] [(.ref w3)])
  refine own_st (fun _ k => XS.astore X7.here hx rfl (hb hby own_d6_17) rfl rfl (l' := #[.val (.ref a1), .val (.ref bv), .val (.int (6 : Int32)), .val (.int (3 : Int32)), .val (.ref w3)]) rfl k) ?_
  show own_Go _ _ _ _ T7 (mkF m 19 #[.val (.ref a1), .val (.ref bv), .val (.int (6 : Int32)), .val (.int (3 : Int32)), .val (.ref w3)] [])
  refine own_st (fun _ k => XS.aload X7.here hx rfl (hb hby own_d6_19) rfl rfl k) ?_
  show own_Go _ _ _ _ T7 (mkF m 21 #[.val (.ref a1), .val (.ref bv), .val (.int (6 : Int32)), .val (.int (3 : Int32)), .val (.ref w3)] [(.ref w3)])
  obtain ⟨T8, X8, e8, st8⟩ := getF X7 hx hZ hown (host := "") (Or.inl (own_w54 hw)) Via.refl e7 (Fs3.ext O1) (g := (mkF m 21 #[.val (.ref a1), .val (.ref bv), .val (.int (6 : Int32)), .val (.int (3 : Int32)), .val (.ref w3)] [(.ref w3)])) rfl rfl (hb hby own_d6_21)
  refine own_st st8 ?_
  show own_Go _ _ _ _ T8 (mkF m 24 #[.val (.ref a1), .val (.ref bv), .val (.int (6 : Int32)), .val (.int (3 : Int32)), .val (.ref w3)] [(.ref u3)])
  refine own_st (fun _ k => XS.aloadN X8.here hx rfl (hb hby own_d6_24) rfl rfl k) ?_
  show own_Go _ _ _ _ T8 (mkF m 25 #[.val (.ref a1), .val (.ref bv), .val (.int (6 : Int32)), .val (.int (3 : Int32)), .val (.ref w3)] [(.ref a1), (.ref u3)])
  obtain ⟨v9, T9, L9, hQ9, X9, st9⟩ := own_callV X8 hx hZ (y := (⟨"java/lang/String", "equals", "(Ljava/lang/Object;)Z"⟩ : MethodName)) hown (own_w56 hw) (own_w57 hw) (own_w59 hw) (own_w58 hw) (own_w6 hw) (own_w60 hw) (by decide) (own_se20 l hw [] u3 a1 y_3 ba k_3 ka cs (60 : Int32) (61 : Int32) T1.heap n0 (Nat.le_trans Z0 O1.1) (Scs.ext O1) hcs dn3 (Ea.ext O1) (Gv3.ext O1) (Gc3.ext O1) (Vy3.ext O1) (Fva.ext O1) (Fca.ext O1) (Va.ext O1)) e8 (Eu3.ext O1) (g := (mkF m 25 #[.val (.ref a1), .val (.ref bv), .val (.int (6 : Int32)), .val (.int (3 : Int32)), .val (.ref w3)] [(.ref a1), (.ref u3)])) rfl (by rw [hml]; rfl) (argsL := [(.ref a1)]) (rest := []) (lenOf own_pd9 rfl) rfl rfl (W := 0) (Nat.le_of_eq rfl) (hb hby own_d6_25) (by decide) (by decide) (by decide) (by decide)
  obtain ⟨rfl, N9, e9⟩ := hQ9
  have N9' := Fr.app N7' N9
  refine own_st st9 ?_
  show own_Go _ _ _ _ T9 (mkF m 28 #[.val (.ref a1), .val (.ref bv), .val (.int (6 : Int32)), .val (.int (3 : Int32)), .val (.ref w3)] [(.int (0 : Int32))])
  refine own_st (fun _ k => XS.ifYes X9.here hx rfl (pc0 := 28) (pc' := 34) rfl (hb hby own_d6_28) rfl ((if0 _ _).trans (teq (by decide : (0 : Int32) = (0 : Int32))).1) (by decide) (by decide) k) ?_
  show own_Go _ _ _ _ T9 (mkF m 34 #[.val (.ref a1), .val (.ref bv), .val (.int (6 : Int32)), .val (.int (3 : Int32)), .val (.ref w3)] [])
  refine own_st (fun _ k => XS.iinc X9.here hx rfl (hb hby own_d6_34) rfl (l' := #[.val (.ref a1), .val (.ref bv), .val (.int (6 : Int32)), .val (.int ((3 : Int32) + (1 : Int32))), .val (.ref w3)]) rfl k) ?_
  show own_Go _ _ _ _ T9 (mkF m 37 #[.val (.ref a1), .val (.ref bv), .val (.int (6 : Int32)), .val (.int ((3 : Int32) + (1 : Int32))), .val (.ref w3)] [])
  rw [show ((3 : Int32) + (1 : Int32)) = (4 : Int32) from by decide]
  show own_Go _ _ _ _ T9 (mkF m 37 #[.val (.ref a1), .val (.ref bv), .val (.int (6 : Int32)), .val (.int (4 : Int32)), .val (.ref w3)] [])
  refine own_st (fun _ k => XS.goto X9.here hx rfl (pc0 := 37) (pc' := 9) rfl (hb hby own_d6_37) (by decide) (by decide) k) ?_
  show own_Go _ _ _ _ T9 (mkF m 9 #[.val (.ref a1), .val (.ref bv), .val (.int (6 : Int32)), .val (.int (4 : Int32)), .val (.ref w3)] [])
  refine own_st (fun _ k => XS.iloadN X9.here hx rfl (hb hby own_d6_9) rfl k) ?_
  show own_Go _ _ _ _ T9 (mkF m 10 #[.val (.ref a1), .val (.ref bv), .val (.int (6 : Int32)), .val (.int (4 : Int32)), .val (.ref w3)] [(.int (4 : Int32))])
  refine own_st (fun _ k => XS.iloadN X9.here hx rfl (hb hby own_d6_10) rfl k) ?_
  show own_Go _ _ _ _ T9 (mkF m 11 #[.val (.ref a1), .val (.ref bv), .val (.int (6 : Int32)), .val (.int (4 : Int32)), .val (.ref w3)] [(.int (6 : Int32)), (.int (4 : Int32))])
  refine own_st (fun _ k => XS.icmpNo X9.here hx rfl (hb hby own_d6_11) rfl (tlt (by decide : (4 : Int32) < (6 : Int32))).2.1 k) ?_
  show own_Go _ _ _ _ T9 (mkF m 14 #[.val (.ref a1), .val (.ref bv), .val (.int (6 : Int32)), .val (.int (4 : Int32)), .val (.ref w3)] [])
  refine own_st (fun _ k => XS.aloadN X9.here hx rfl (hb hby own_d6_14) rfl rfl k) ?_
  show own_Go _ _ _ _ T9 (mkF m 15 #[.val (.ref a1), .val (.ref bv), .val (.int (6 : Int32)), .val (.int (4 : Int32)), .val (.ref w3)] [(.ref bv)])
  refine own_st (fun _ k => XS.iloadN X9.here hx rfl (hb hby own_d6_15) rfl k) ?_
  show own_Go _ _ _ _ T9 (mkF m 16 #[.val (.ref a1), .val (.ref bv), .val (.int (6 : Int32)), .val (.int (4 : Int32)), .val (.ref w3)] [(.int (4 : Int32)), (.ref bv)])
  refine own_st (own_ldR X9 hx hZ e9 Vb rfl (j := (4 : Int32)) (by decide) (v := (.ref w4)) rfl (g := (mkF m 16 #[.val (.ref a1), .val (.ref bv), .val (.int (6 : Int32)), .val (.int (4 : Int32)), .val (.ref w3)] [(.int (4 : Int32)), (.ref bv)])) rfl rfl (hb hby own_d6_16)) ?_
  show own_Go _ _ _ _ T9 (mkF m 17 #[.val (.ref a1), .val (.ref bv), .val (.int (6 : Int32)), .val (.int (4 : Int32)), .val (.ref w3)] [(.ref w4)])
  refine own_st (fun _ k => XS.astore X9.here hx rfl (hb hby own_d6_17) rfl rfl (l' := #[.val (.ref a1), .val (.ref bv), .val (.int (6 : Int32)), .val (.int (4 : Int32)), .val (.ref w4)]) rfl k) ?_
  show own_Go _ _ _ _ T9 (mkF m 19 #[.val (.ref a1), .val (.ref bv), .val (.int (6 : Int32)), .val (.int (4 : Int32)), .val (.ref w4)] [])
  refine own_st (fun _ k => XS.aload X9.here hx rfl (hb hby own_d6_19) rfl rfl k) ?_
  show own_Go _ _ _ _ T9 (mkF m 21 #[.val (.ref a1), .val (.ref bv), .val (.int (6 : Int32)), .val (.int (4 : Int32)), .val (.ref w4)] [(.ref w4)])
  obtain ⟨T10, X10, e10, st10⟩ := getF X9 hx hZ hown (host := "") (Or.inl (own_w54 hw)) Via.refl e9 (Fs4.ext O1) (g := (mkF m 21 #[.val (.ref a1), .val (.ref bv), .val (.int (6 : Int32)), .val (.int (4 : Int32)), .val (.ref w4)] [(.ref w4)])) rfl rfl (hb hby own_d6_21)
  refine own_st st10 ?_
  show own_Go _ _ _ _ T10 (mkF m 24 #[.val (.ref a1), .val (.ref bv), .val (.int (6 : Int32)), .val (.int (4 : Int32)), .val (.ref w4)] [(.ref u4)])
  refine own_st (fun _ k => XS.aloadN X10.here hx rfl (hb hby own_d6_24) rfl rfl k) ?_
  show own_Go _ _ _ _ T10 (mkF m 25 #[.val (.ref a1), .val (.ref bv), .val (.int (6 : Int32)), .val (.int (4 : Int32)), .val (.ref w4)] [(.ref a1), (.ref u4)])
  obtain ⟨v11, T11, L11, hQ11, X11, st11⟩ := own_callV X10 hx hZ (y := (⟨"java/lang/String", "equals", "(Ljava/lang/Object;)Z"⟩ : MethodName)) hown (own_w56 hw) (own_w57 hw) (own_w59 hw) (own_w58 hw) (own_w6 hw) (own_w60 hw) (by decide) (own_se10 l hw [] u4 a1 y_4 ba k_4 ka cs (62 : Int32) T1.heap n0 (Nat.le_trans Z0 O1.1) (Scs.ext O1) hcs dn4 (Ea.ext O1) (Gv4.ext O1) (Gc4.ext O1) (Vy4.ext O1) (Fva.ext O1) (Fca.ext O1) (Va.ext O1)) e10 (Eu4.ext O1) (g := (mkF m 25 #[.val (.ref a1), .val (.ref bv), .val (.int (6 : Int32)), .val (.int (4 : Int32)), .val (.ref w4)] [(.ref a1), (.ref u4)])) rfl (by rw [hml]; rfl) (argsL := [(.ref a1)]) (rest := []) (lenOf own_pd9 rfl) rfl rfl (W := 0) (Nat.le_of_eq rfl) (hb hby own_d6_25) (by decide) (by decide) (by decide) (by decide)
  obtain ⟨rfl, N11, e11⟩ := hQ11
  have N11' := Fr.app N9' N11
  refine own_st st11 ?_
  show own_Go _ _ _ _ T11 (mkF m 28 #[.val (.ref a1), .val (.ref bv), .val (.int (6 : Int32)), .val (.int (4 : Int32)), .val (.ref w4)] [(.int (0 : Int32))])
  refine own_st (fun _ k => XS.ifYes X11.here hx rfl (pc0 := 28) (pc' := 34) rfl (hb hby own_d6_28) rfl ((if0 _ _).trans (teq (by decide : (0 : Int32) = (0 : Int32))).1) (by decide) (by decide) k) ?_
  show own_Go _ _ _ _ T11 (mkF m 34 #[.val (.ref a1), .val (.ref bv), .val (.int (6 : Int32)), .val (.int (4 : Int32)), .val (.ref w4)] [])
  refine own_st (fun _ k => XS.iinc X11.here hx rfl (hb hby own_d6_34) rfl (l' := #[.val (.ref a1), .val (.ref bv), .val (.int (6 : Int32)), .val (.int ((4 : Int32) + (1 : Int32))), .val (.ref w4)]) rfl k) ?_
  show own_Go _ _ _ _ T11 (mkF m 37 #[.val (.ref a1), .val (.ref bv), .val (.int (6 : Int32)), .val (.int ((4 : Int32) + (1 : Int32))), .val (.ref w4)] [])
  rw [show ((4 : Int32) + (1 : Int32)) = (5 : Int32) from by decide]
  show own_Go _ _ _ _ T11 (mkF m 37 #[.val (.ref a1), .val (.ref bv), .val (.int (6 : Int32)), .val (.int (5 : Int32)), .val (.ref w4)] [])
  refine own_st (fun _ k => XS.goto X11.here hx rfl (pc0 := 37) (pc' := 9) rfl (hb hby own_d6_37) (by decide) (by decide) k) ?_
  show own_Go _ _ _ _ T11 (mkF m 9 #[.val (.ref a1), .val (.ref bv), .val (.int (6 : Int32)), .val (.int (5 : Int32)), .val (.ref w4)] [])
  refine own_st (fun _ k => XS.iloadN X11.here hx rfl (hb hby own_d6_9) rfl k) ?_
  show own_Go _ _ _ _ T11 (mkF m 10 #[.val (.ref a1), .val (.ref bv), .val (.int (6 : Int32)), .val (.int (5 : Int32)), .val (.ref w4)] [(.int (5 : Int32))])
  refine own_st (fun _ k => XS.iloadN X11.here hx rfl (hb hby own_d6_10) rfl k) ?_
  show own_Go _ _ _ _ T11 (mkF m 11 #[.val (.ref a1), .val (.ref bv), .val (.int (6 : Int32)), .val (.int (5 : Int32)), .val (.ref w4)] [(.int (6 : Int32)), (.int (5 : Int32))])
  refine own_st (fun _ k => XS.icmpNo X11.here hx rfl (hb hby own_d6_11) rfl (tlt (by decide : (5 : Int32) < (6 : Int32))).2.1 k) ?_
  show own_Go _ _ _ _ T11 (mkF m 14 #[.val (.ref a1), .val (.ref bv), .val (.int (6 : Int32)), .val (.int (5 : Int32)), .val (.ref w4)] [])
  refine own_st (fun _ k => XS.aloadN X11.here hx rfl (hb hby own_d6_14) rfl rfl k) ?_
  show own_Go _ _ _ _ T11 (mkF m 15 #[.val (.ref a1), .val (.ref bv), .val (.int (6 : Int32)), .val (.int (5 : Int32)), .val (.ref w4)] [(.ref bv)])
  refine own_st (fun _ k => XS.iloadN X11.here hx rfl (hb hby own_d6_15) rfl k) ?_
  show own_Go _ _ _ _ T11 (mkF m 16 #[.val (.ref a1), .val (.ref bv), .val (.int (6 : Int32)), .val (.int (5 : Int32)), .val (.ref w4)] [(.int (5 : Int32)), (.ref bv)])
  refine own_st (own_ldR X11 hx hZ e11 Vb rfl (j := (5 : Int32)) (by decide) (v := (.ref w5)) rfl (g := (mkF m 16 #[.val (.ref a1), .val (.ref bv), .val (.int (6 : Int32)), .val (.int (5 : Int32)), .val (.ref w4)] [(.int (5 : Int32)), (.ref bv)])) rfl rfl (hb hby own_d6_16)) ?_
  show own_Go _ _ _ _ T11 (mkF m 17 #[.val (.ref a1), .val (.ref bv), .val (.int (6 : Int32)), .val (.int (5 : Int32)), .val (.ref w4)] [(.ref w5)])
  refine own_st (fun _ k => XS.astore X11.here hx rfl (hb hby own_d6_17) rfl rfl (l' := #[.val (.ref a1), .val (.ref bv), .val (.int (6 : Int32)), .val (.int (5 : Int32)), .val (.ref w5)]) rfl k) ?_
  show own_Go _ _ _ _ T11 (mkF m 19 #[.val (.ref a1), .val (.ref bv), .val (.int (6 : Int32)), .val (.int (5 : Int32)), .val (.ref w5)] [])
  refine own_st (fun _ k => XS.aload X11.here hx rfl (hb hby own_d6_19) rfl rfl k) ?_
  show own_Go _ _ _ _ T11 (mkF m 21 #[.val (.ref a1), .val (.ref bv), .val (.int (6 : Int32)), .val (.int (5 : Int32)), .val (.ref w5)] [(.ref w5)])
  obtain ⟨T12, X12, e12, st12⟩ := getF X11 hx hZ hown (host := "") (Or.inl (own_w54 hw)) Via.refl e11 (Fs5.ext O1) (g := (mkF m 21 #[.val (.ref a1), .val (.ref bv), .val (.int (6 : Int32)), .val (.int (5 : Int32)), .val (.ref w5)] [(.ref w5)])) rfl rfl (hb hby own_d6_21)
  refine own_st st12 ?_
  show own_Go _ _ _ _ T12 (mkF m 24 #[.val (.ref a1), .val (.ref bv), .val (.int (6 : Int32)), .val (.int (5 : Int32)), .val (.ref w5)] [(.ref u5)])
  refine own_st (fun _ k => XS.aloadN X12.here hx rfl (hb hby own_d6_24) rfl rfl k) ?_
  show own_Go _ _ _ _ T12 (mkF m 25 #[.val (.ref a1), .val (.ref bv), .val (.int (6 : Int32)), .val (.int (5 : Int32)), .val (.ref w5)] [(.ref a1), (.ref u5)])
  obtain ⟨v13, T13, L13, hQ13, X13, st13⟩ := own_callV X12 hx hZ (y := (⟨"java/lang/String", "equals", "(Ljava/lang/Object;)Z"⟩ : MethodName)) hown (own_w56 hw) (own_w57 hw) (own_w59 hw) (own_w58 hw) (own_w6 hw) (own_w60 hw) (by decide) (own_se20 l hw [] u5 a1 y_5 ba k_5 ka cs (62 : Int32) (61 : Int32) T1.heap n0 (Nat.le_trans Z0 O1.1) (Scs.ext O1) hcs dn5 (Ea.ext O1) (Gv5.ext O1) (Gc5.ext O1) (Vy5.ext O1) (Fva.ext O1) (Fca.ext O1) (Va.ext O1)) e12 (Eu5.ext O1) (g := (mkF m 25 #[.val (.ref a1), .val (.ref bv), .val (.int (6 : Int32)), .val (.int (5 : Int32)), .val (.ref w5)] [(.ref a1), (.ref u5)])) rfl (by rw [hml]; rfl) (argsL := [(.ref a1)]) (rest := []) (lenOf own_pd9 rfl) rfl rfl (W := 0) (Nat.le_of_eq rfl) (hb hby own_d6_25) (by decide) (by decide) (by decide) (by decide)
  obtain ⟨rfl, N13, e13⟩ := hQ13
  have N13' := Fr.app N11' N13
  refine own_st st13 ?_
  show own_Go _ _ _ _ T13 (mkF m 28 #[.val (.ref a1), .val (.ref bv), .val (.int (6 : Int32)), .val (.int (5 : Int32)), .val (.ref w5)] [(.int (0 : Int32))])
  refine own_st (fun _ k => XS.ifYes X13.here hx rfl (pc0 := 28) (pc' := 34) rfl (hb hby own_d6_28) rfl ((if0 _ _).trans (teq (by decide : (0 : Int32) = (0 : Int32))).1) (by decide) (by decide) k) ?_
  show own_Go _ _ _ _ T13 (mkF m 34 #[.val (.ref a1), .val (.ref bv), .val (.int (6 : Int32)), .val (.int (5 : Int32)), .val (.ref w5)] [])
  refine own_st (fun _ k => XS.iinc X13.here hx rfl (hb hby own_d6_34) rfl (l' := #[.val (.ref a1), .val (.ref bv), .val (.int (6 : Int32)), .val (.int ((5 : Int32) + (1 : Int32))), .val (.ref w5)]) rfl k) ?_
  show own_Go _ _ _ _ T13 (mkF m 37 #[.val (.ref a1), .val (.ref bv), .val (.int (6 : Int32)), .val (.int ((5 : Int32) + (1 : Int32))), .val (.ref w5)] [])
  rw [show ((5 : Int32) + (1 : Int32)) = (6 : Int32) from by decide]
  show own_Go _ _ _ _ T13 (mkF m 37 #[.val (.ref a1), .val (.ref bv), .val (.int (6 : Int32)), .val (.int (6 : Int32)), .val (.ref w5)] [])
  refine own_st (fun _ k => XS.goto X13.here hx rfl (pc0 := 37) (pc' := 9) rfl (hb hby own_d6_37) (by decide) (by decide) k) ?_
  show own_Go _ _ _ _ T13 (mkF m 9 #[.val (.ref a1), .val (.ref bv), .val (.int (6 : Int32)), .val (.int (6 : Int32)), .val (.ref w5)] [])
  refine own_st (fun _ k => XS.iloadN X13.here hx rfl (hb hby own_d6_9) rfl k) ?_
  show own_Go _ _ _ _ T13 (mkF m 10 #[.val (.ref a1), .val (.ref bv), .val (.int (6 : Int32)), .val (.int (6 : Int32)), .val (.ref w5)] [(.int (6 : Int32))])
  refine own_st (fun _ k => XS.iloadN X13.here hx rfl (hb hby own_d6_10) rfl k) ?_
  show own_Go _ _ _ _ T13 (mkF m 11 #[.val (.ref a1), .val (.ref bv), .val (.int (6 : Int32)), .val (.int (6 : Int32)), .val (.ref w5)] [(.int (6 : Int32)), (.int (6 : Int32))])
  refine own_st (fun _ k => XS.icmpYes X13.here hx rfl (pc0 := 11) (pc' := 40) rfl (hb hby own_d6_11) rfl (flt (by decide : ¬ ((6 : Int32) < (6 : Int32)))).2.1 (by decide) (by decide) k) ?_
  show own_Go _ _ _ _ T13 (mkF m 40 #[.val (.ref a1), .val (.ref bv), .val (.int (6 : Int32)), .val (.int (6 : Int32)), .val (.ref w5)] [])
  refine own_st (fun _ k => XS.aconstNull X13.here hx rfl (hb hby own_d6_40) k) ?_
  show own_Go _ _ _ _ T13 (mkF m 41 #[.val (.ref a1), .val (.ref bv), .val (.int (6 : Int32)), .val (.int (6 : Int32)), .val (.ref w5)] [.null])
  exact own_retA X13 hx hret rfl hlk rfl (hb hby own_d6_41) ⟨by simp [own_wv1, own_wv2, *], N13', by rw [e13]; exact O1⟩ (by decide) (by decide)
def own_wr1_Q (Z : State) (a1 ba : Addr) (ka : ClassId) (wv w0 w1 w2 w3 w4 w5 u0 u1 u2 u3 u4 u5 y_0 y_1 y_2 y_3 y_4 y_5 : Addr) (kv k_0 k_1 k_2 k_3 k_4 k_5 : ClassId) (cs : Int32) (y0 : Int32) (h0 : Heap) (n0 : Nat) (v : Option Value) (h : Heap) (L : List Loc) : Prop := v = some (own_wv1 y0 w0 w2 w4) ∧ Fr n0 L ∧ Ext h0 h
set_option maxRecDepth 65536 in
set_option maxHeartbeats 40000000 in
theorem own_wr1 (l : Launch) {Z : State} {a0 : Array Value} (hw : own_W Z a0) (ws : List Jvm.Cond) (a1 ba : Addr) (ka : ClassId) (wv w0 w1 w2 w3 w4 w5 u0 u1 u2 u3 u4 u5 y_0 y_1 y_2 y_3 y_4 y_5 : Addr) (kv k_0 k_1 k_2 k_3 k_4 k_5 : ClassId) (cs : Int32) (y0 : Int32) (h0 : Heap) (n0 : Nat) (Z0 : n0 ≤ h0.size) (Scs : Sta Z h0 "java/lang/String" "COMPACT_STRINGS" "Z" (.int cs)) (hcs : ¬ cs = 0) (Sv : Sta Z h0 "com/example/overflowstream/overflowstream/Query$Operator" "$VALUES" "[Lcom/example/overflowstream/overflowstream/Query$Operator;" (.ref wv)) (Vv : Arv Z h0 wv kv (.object "com/example/overflowstream/overflowstream/Query$Operator") 6 [(.ref w0), (.ref w1), (.ref w2), (.ref w3), (.ref w4), (.ref w5)] .null) (Ev : Exa Z h0 wv "[Lcom/example/overflowstream/overflowstream/Query$Operator;") (Fs0 : Fld Z h0 w0 "com/example/overflowstream/overflowstream/Query$Operator" "symbol" "Ljava/lang/String;" (.ref u0)) (Eu0 : Exa Z h0 u0 "java/lang/String") (Gv0 : Fld Z h0 u0 "java/lang/String" "value" "[B" (.ref y_0)) (Gc0 : Fld Z h0 u0 "java/lang/String" "coder" "B" (.int (0 : Int32))) (Vy0 : Arv Z h0 y_0 k_0 .byte (1 : Int32) [(.int (61 : Int32))] (.int (0 : Int32))) (Fs1 : Fld Z h0 w1 "com/example/overflowstream/overflowstream/Query$Operator" "symbol" "Ljava/lang/String;" (.ref u1)) (Eu1 : Exa Z h0 u1 "java/lang/String") (Gv1 : Fld Z h0 u1 "java/lang/String" "value" "[B" (.ref y_1)) (Gc1 : Fld Z h0 u1 "java/lang/String" "coder" "B" (.int (0 : Int32))) (Vy1 : Arv Z h0 y_1 k_1 .byte (2 : Int32) [(.int (60 : Int32)), (.int (62 : Int32))] (.int (0 : Int32))) (Fs2 : Fld Z h0 w2 "com/example/overflowstream/overflowstream/Query$Operator" "symbol" "Ljava/lang/String;" (.ref u2)) (Eu2 : Exa Z h0 u2 "java/lang/String") (Gv2 : Fld Z h0 u2 "java/lang/String" "value" "[B" (.ref y_2)) (Gc2 : Fld Z h0 u2 "java/lang/String" "coder" "B" (.int (0 : Int32))) (Vy2 : Arv Z h0 y_2 k_2 .byte (1 : Int32) [(.int (60 : Int32))] (.int (0 : Int32))) (Fs3 : Fld Z h0 w3 "com/example/overflowstream/overflowstream/Query$Operator" "symbol" "Ljava/lang/String;" (.ref u3)) (Eu3 : Exa Z h0 u3 "java/lang/String") (Gv3 : Fld Z h0 u3 "java/lang/String" "value" "[B" (.ref y_3)) (Gc3 : Fld Z h0 u3 "java/lang/String" "coder" "B" (.int (0 : Int32))) (Vy3 : Arv Z h0 y_3 k_3 .byte (2 : Int32) [(.int (60 : Int32)), (.int (61 : Int32))] (.int (0 : Int32))) (Fs4 : Fld Z h0 w4 "com/example/overflowstream/overflowstream/Query$Operator" "symbol" "Ljava/lang/String;" (.ref u4)) (Eu4 : Exa Z h0 u4 "java/lang/String") (Gv4 : Fld Z h0 u4 "java/lang/String" "value" "[B" (.ref y_4)) (Gc4 : Fld Z h0 u4 "java/lang/String" "coder" "B" (.int (0 : Int32))) (Vy4 : Arv Z h0 y_4 k_4 .byte (1 : Int32) [(.int (62 : Int32))] (.int (0 : Int32))) (Fs5 : Fld Z h0 w5 "com/example/overflowstream/overflowstream/Query$Operator" "symbol" "Ljava/lang/String;" (.ref u5)) (Eu5 : Exa Z h0 u5 "java/lang/String") (Gv5 : Fld Z h0 u5 "java/lang/String" "value" "[B" (.ref y_5)) (Gc5 : Fld Z h0 u5 "java/lang/String" "coder" "B" (.int (0 : Int32))) (Vy5 : Arv Z h0 y_5 k_5 .byte (2 : Int32) [(.int (62 : Int32)), (.int (61 : Int32))] (.int (0 : Int32))) (dn0 : ¬ u0 = a1) (dn1 : ¬ u1 = a1) (dn2 : ¬ u2 = a1) (dn3 : ¬ u3 = a1) (dn4 : ¬ u4 = a1) (dn5 : ¬ u5 = a1) (Ea : Exa Z h0 a1 "java/lang/String") (Fva : Fld Z h0 a1 "java/lang/String" "value" "[B" (.ref ba)) (Fca : Fld Z h0 a1 "java/lang/String" "coder" "B" (.int (0 : Int32))) (Va : Arv Z h0 ba ka .byte (1 : Int32) [(.int y0)] (.int (0 : Int32))) :
    MetFree l (⟨"com/example/overflowstream/overflowstream/Query$Operator", "written", "(Ljava/lang/String;)Lcom/example/overflowstream/overflowstream/Query$Operator;"⟩ : MethodName) (head1 (Jvm.Cond.code (⟨"com/example/overflowstream/overflowstream/Query$Operator", "written", "(Ljava/lang/String;)Lcom/example/overflowstream/overflowstream/Query$Operator;"⟩ : MethodName) prog_36_method_4_code 5 (some (.object "com/example/overflowstream/overflowstream/Query$Operator")) :: ws) ({ frames := 2, cells := 1, slots := 6, locals := 28 } : Room)) (fun a U => a = #[(.ref a1)] ∧ Z.Warmed39 U.vm ∧ U.heap = h0) (fun _ _ _ _ _ => True) (fun _ U o U' => ∃ v L, o = .returned v ∧ own_wr1_Q Z a1 ba ka wv w0 w1 w2 w3 w4 w5 u0 u1 u2 u3 u4 u5 y_0 y_1 y_2 y_3 y_4 y_5 kv k_0 k_1 k_2 k_3 k_4 k_5 cs y0 h0 n0 v U'.heap L ∧ FrameEnd U o U' L ({ frames := 2, cells := 1, slots := 6, locals := 28 } : Room).cells ({ frames := 2, cells := 1, slots := 6, locals := 28 } : Room).slots) := by
  refine own_enter (C := ({ frames := 2, cells := 1, slots := 6, locals := 28 } : Room).cells) (S := ({ frames := 2, cells := 1, slots := 6, locals := 28 } : Room).slots) (plainFor_of_name own_pn4) ?_
  intro p e s m below meth c T0 X0 I e0
  obtain ⟨hx, hby, hml, hown, hnm, hret, hlk, hZ⟩ := I
  have N0 := Fr.nil n0
  have O0 := own_extr h0
  refine own_cast (own_ef6 m a1) ?_
  show own_Go _ _ _ _ T0 (mkF m 0 #[.val (.ref a1), .unset, .unset, .unset, .unset] [])
  obtain ⟨v1, T1, L1, hQ1, X1, st1⟩ := own_callS X0 hx hZ (y := (⟨"com/example/overflowstream/overflowstream/Query$Operator", "values", "()[Lcom/example/overflowstream/overflowstream/Query$Operator;"⟩ : MethodName)) hown (own_w33 hw) (own_w34 hw) (own_w31 hw) (own_w35 hw) (by decide) (own_vals l hw [] wv w0 w1 w2 w3 w4 w5 kv h0 n0 (Nat.le_trans Z0 O0.1) (Sv.ext O0) (Vv.ext O0) (Ev.ext O0)) e0 (g := (mkF m 0 #[.val (.ref a1), .unset, .unset, .unset, .unset] [])) rfl (by rw [hml]; rfl) (argsL := []) (rest := []) (lenOf own_pd8 rfl) rfl rfl (W := 0) (Nat.le_of_eq rfl) (hb hby own_d6_0) (by decide) (by decide) (by decide) (by decide)
  obtain ⟨bv, kb, rfl, N1, Et1, gb, sb, Vb⟩ := hQ1
  have O1 := own_extt O0 Et1
  have N1' := Fr.app N0 N1
  refine own_st st1 ?_
  show own_Go _ _ _ _ T1 (mkF m 3 #[.val (.ref a1), .unset, .unset, .unset, .unset] [(.ref bv)])
  refine own_st (fun _ k => XS.astoreN X1.here hx rfl (hb hby own_d6_3) rfl rfl (l' := #[.val (.ref a1), .val (.ref bv), .unset, .unset, .unset]) rfl k) ?_
  show own_Go _ _ _ _ T1 (mkF m 4 #[.val (.ref a1), .val (.ref bv), .unset, .unset, .unset] [])
  refine own_st (fun _ k => XS.aloadN X1.here hx rfl (hb hby own_d6_4) rfl rfl k) ?_
  show own_Go _ _ _ _ T1 (mkF m 5 #[.val (.ref a1), .val (.ref bv), .unset, .unset, .unset] [(.ref bv)])
  refine own_st (own_len X1 hx hZ rfl Vb (g := (mkF m 5 #[.val (.ref a1), .val (.ref bv), .unset, .unset, .unset] [(.ref bv)])) rfl rfl (hb hby own_d6_5)) ?_
  show own_Go _ _ _ _ T1 (mkF m 6 #[.val (.ref a1), .val (.ref bv), .unset, .unset, .unset] [(.int (6 : Int32))])
  refine own_st (fun _ k => XS.istoreN X1.here hx rfl (hb hby own_d6_6) rfl (l' := #[.val (.ref a1), .val (.ref bv), .val (.int (6 : Int32)), .unset, .unset]) rfl k) ?_
  show own_Go _ _ _ _ T1 (mkF m 7 #[.val (.ref a1), .val (.ref bv), .val (.int (6 : Int32)), .unset, .unset] [])
  refine own_st (fun _ k => XS.iconst X1.here hx rfl (hb hby own_d6_7) k) ?_
  show own_Go _ _ _ _ T1 (mkF m 8 #[.val (.ref a1), .val (.ref bv), .val (.int (6 : Int32)), .unset, .unset] [(.int (0 : Int32))])
  refine own_st (fun _ k => XS.istoreN X1.here hx rfl (hb hby own_d6_8) rfl (l' := #[.val (.ref a1), .val (.ref bv), .val (.int (6 : Int32)), .val (.int (0 : Int32)), .unset]) rfl k) ?_
  show own_Go _ _ _ _ T1 (mkF m 9 #[.val (.ref a1), .val (.ref bv), .val (.int (6 : Int32)), .val (.int (0 : Int32)), .unset] [])
  refine own_st (fun _ k => XS.iloadN X1.here hx rfl (hb hby own_d6_9) rfl k) ?_
  show own_Go _ _ _ _ T1 (mkF m 10 #[.val (.ref a1), .val (.ref bv), .val (.int (6 : Int32)), .val (.int (0 : Int32)), .unset] [(.int (0 : Int32))])
  refine own_st (fun _ k => XS.iloadN X1.here hx rfl (hb hby own_d6_10) rfl k) ?_
  show own_Go _ _ _ _ T1 (mkF m 11 #[.val (.ref a1), .val (.ref bv), .val (.int (6 : Int32)), .val (.int (0 : Int32)), .unset] [(.int (6 : Int32)), (.int (0 : Int32))])
  refine own_st (fun _ k => XS.icmpNo X1.here hx rfl (hb hby own_d6_11) rfl (tlt (by decide : (0 : Int32) < (6 : Int32))).2.1 k) ?_
  show own_Go _ _ _ _ T1 (mkF m 14 #[.val (.ref a1), .val (.ref bv), .val (.int (6 : Int32)), .val (.int (0 : Int32)), .unset] [])
  refine own_st (fun _ k => XS.aloadN X1.here hx rfl (hb hby own_d6_14) rfl rfl k) ?_
  show own_Go _ _ _ _ T1 (mkF m 15 #[.val (.ref a1), .val (.ref bv), .val (.int (6 : Int32)), .val (.int (0 : Int32)), .unset] [(.ref bv)])
  refine own_st (fun _ k => XS.iloadN X1.here hx rfl (hb hby own_d6_15) rfl k) ?_
  show own_Go _ _ _ _ T1 (mkF m 16 #[.val (.ref a1), .val (.ref bv), .val (.int (6 : Int32)), .val (.int (0 : Int32)), .unset] [(.int (0 : Int32)), (.ref bv)])
  refine own_st (own_ldR X1 hx hZ rfl Vb rfl (j := (0 : Int32)) (by decide) (v := (.ref w0)) rfl (g := (mkF m 16 #[.val (.ref a1), .val (.ref bv), .val (.int (6 : Int32)), .val (.int (0 : Int32)), .unset] [(.int (0 : Int32)), (.ref bv)])) rfl rfl (hb hby own_d6_16)) ?_
  show own_Go _ _ _ _ T1 (mkF m 17 #[.val (.ref a1), .val (.ref bv), .val (.int (6 : Int32)), .val (.int (0 : Int32)), .unset] [(.ref w0)])
  refine own_st (fun _ k => XS.astore X1.here hx rfl (hb hby own_d6_17) rfl rfl (l' := #[.val (.ref a1), .val (.ref bv), .val (.int (6 : Int32)), .val (.int (0 : Int32)), .val (.ref w0)]) rfl k) ?_
  show own_Go _ _ _ _ T1 (mkF m 19 #[.val (.ref a1), .val (.ref bv), .val (.int (6 : Int32)), .val (.int (0 : Int32)), .val (.ref w0)] [])
  refine own_st (fun _ k => XS.aload X1.here hx rfl (hb hby own_d6_19) rfl rfl k) ?_
  show own_Go _ _ _ _ T1 (mkF m 21 #[.val (.ref a1), .val (.ref bv), .val (.int (6 : Int32)), .val (.int (0 : Int32)), .val (.ref w0)] [(.ref w0)])
  obtain ⟨T2, X2, e2, st2⟩ := getF X1 hx hZ hown (host := "") (Or.inl (own_w54 hw)) Via.refl rfl (Fs0.ext O1) (g := (mkF m 21 #[.val (.ref a1), .val (.ref bv), .val (.int (6 : Int32)), .val (.int (0 : Int32)), .val (.ref w0)] [(.ref w0)])) rfl rfl (hb hby own_d6_21)
  refine own_st st2 ?_
  show own_Go _ _ _ _ T2 (mkF m 24 #[.val (.ref a1), .val (.ref bv), .val (.int (6 : Int32)), .val (.int (0 : Int32)), .val (.ref w0)] [(.ref u0)])
  refine own_st (fun _ k => XS.aloadN X2.here hx rfl (hb hby own_d6_24) rfl rfl k) ?_
  show own_Go _ _ _ _ T2 (mkF m 25 #[.val (.ref a1), .val (.ref bv), .val (.int (6 : Int32)), .val (.int (0 : Int32)), .val (.ref w0)] [(.ref a1), (.ref u0)])
  obtain ⟨v3, T3, L3, hQ3, X3, st3⟩ := own_callV X2 hx hZ (y := (⟨"java/lang/String", "equals", "(Ljava/lang/Object;)Z"⟩ : MethodName)) hown (own_w56 hw) (own_w57 hw) (own_w59 hw) (own_w58 hw) (own_w6 hw) (own_w60 hw) (by decide) (own_se11 l hw [] u0 a1 y_0 ba k_0 ka cs (61 : Int32) y0 T1.heap n0 (Nat.le_trans Z0 O1.1) (Scs.ext O1) hcs dn0 (Ea.ext O1) (Gv0.ext O1) (Gc0.ext O1) (Vy0.ext O1) (Fva.ext O1) (Fca.ext O1) (Va.ext O1)) e2 (Eu0.ext O1) (g := (mkF m 25 #[.val (.ref a1), .val (.ref bv), .val (.int (6 : Int32)), .val (.int (0 : Int32)), .val (.ref w0)] [(.ref a1), (.ref u0)])) rfl (by rw [hml]; rfl) (argsL := [(.ref a1)]) (rest := []) (lenOf own_pd9 rfl) rfl rfl (W := 0) (Nat.le_of_eq rfl) (hb hby own_d6_25) (by decide) (by decide) (by decide) (by decide)
  obtain ⟨rfl, N3, e3⟩ := hQ3
  have N3' := Fr.app N1' N3
  refine own_st st3 ?_
  show own_Go _ _ _ _ T3 (mkF m 28 #[.val (.ref a1), .val (.ref bv), .val (.int (6 : Int32)), .val (.int (0 : Int32)), .val (.ref w0)] [(.int (own_eq1 (61 : Int32) y0))])
  by_cases hq0 : (own_eq1 (61 : Int32) y0) = (0 : Int32)
  · refine own_st (fun _ k => XS.ifYes X3.here hx rfl (pc0 := 28) (pc' := 34) rfl (hb hby own_d6_28) rfl ((if0 _ _).trans (teq (hq0 : (own_eq1 (61 : Int32) y0) = (0 : Int32))).1) (by decide) (by decide) k) ?_
    show own_Go _ _ _ _ T3 (mkF m 34 #[.val (.ref a1), .val (.ref bv), .val (.int (6 : Int32)), .val (.int (0 : Int32)), .val (.ref w0)] [])
    refine own_st (fun _ k => XS.iinc X3.here hx rfl (hb hby own_d6_34) rfl (l' := #[.val (.ref a1), .val (.ref bv), .val (.int (6 : Int32)), .val (.int ((0 : Int32) + (1 : Int32))), .val (.ref w0)]) rfl k) ?_
    show own_Go _ _ _ _ T3 (mkF m 37 #[.val (.ref a1), .val (.ref bv), .val (.int (6 : Int32)), .val (.int ((0 : Int32) + (1 : Int32))), .val (.ref w0)] [])
    rw [show ((0 : Int32) + (1 : Int32)) = (1 : Int32) from by decide]
    show own_Go _ _ _ _ T3 (mkF m 37 #[.val (.ref a1), .val (.ref bv), .val (.int (6 : Int32)), .val (.int (1 : Int32)), .val (.ref w0)] [])
    refine own_st (fun _ k => XS.goto X3.here hx rfl (pc0 := 37) (pc' := 9) rfl (hb hby own_d6_37) (by decide) (by decide) k) ?_
    show own_Go _ _ _ _ T3 (mkF m 9 #[.val (.ref a1), .val (.ref bv), .val (.int (6 : Int32)), .val (.int (1 : Int32)), .val (.ref w0)] [])
    refine own_st (fun _ k => XS.iloadN X3.here hx rfl (hb hby own_d6_9) rfl k) ?_
    show own_Go _ _ _ _ T3 (mkF m 10 #[.val (.ref a1), .val (.ref bv), .val (.int (6 : Int32)), .val (.int (1 : Int32)), .val (.ref w0)] [(.int (1 : Int32))])
    refine own_st (fun _ k => XS.iloadN X3.here hx rfl (hb hby own_d6_10) rfl k) ?_
    show own_Go _ _ _ _ T3 (mkF m 11 #[.val (.ref a1), .val (.ref bv), .val (.int (6 : Int32)), .val (.int (1 : Int32)), .val (.ref w0)] [(.int (6 : Int32)), (.int (1 : Int32))])
    refine own_st (fun _ k => XS.icmpNo X3.here hx rfl (hb hby own_d6_11) rfl (tlt (by decide : (1 : Int32) < (6 : Int32))).2.1 k) ?_
    show own_Go _ _ _ _ T3 (mkF m 14 #[.val (.ref a1), .val (.ref bv), .val (.int (6 : Int32)), .val (.int (1 : Int32)), .val (.ref w0)] [])
    refine own_st (fun _ k => XS.aloadN X3.here hx rfl (hb hby own_d6_14) rfl rfl k) ?_
    show own_Go _ _ _ _ T3 (mkF m 15 #[.val (.ref a1), .val (.ref bv), .val (.int (6 : Int32)), .val (.int (1 : Int32)), .val (.ref w0)] [(.ref bv)])
    refine own_st (fun _ k => XS.iloadN X3.here hx rfl (hb hby own_d6_15) rfl k) ?_
    show own_Go _ _ _ _ T3 (mkF m 16 #[.val (.ref a1), .val (.ref bv), .val (.int (6 : Int32)), .val (.int (1 : Int32)), .val (.ref w0)] [(.int (1 : Int32)), (.ref bv)])
    refine own_st (own_ldR X3 hx hZ e3 Vb rfl (j := (1 : Int32)) (by decide) (v := (.ref w1)) rfl (g := (mkF m 16 #[.val (.ref a1), .val (.ref bv), .val (.int (6 : Int32)), .val (.int (1 : Int32)), .val (.ref w0)] [(.int (1 : Int32)), (.ref bv)])) rfl rfl (hb hby own_d6_16)) ?_
    show own_Go _ _ _ _ T3 (mkF m 17 #[.val (.ref a1), .val (.ref bv), .val (.int (6 : Int32)), .val (.int (1 : Int32)), .val (.ref w0)] [(.ref w1)])
    refine own_st (fun _ k => XS.astore X3.here hx rfl (hb hby own_d6_17) rfl rfl (l' := #[.val (.ref a1), .val (.ref bv), .val (.int (6 : Int32)), .val (.int (1 : Int32)), .val (.ref w1)]) rfl k) ?_
    show own_Go _ _ _ _ T3 (mkF m 19 #[.val (.ref a1), .val (.ref bv), .val (.int (6 : Int32)), .val (.int (1 : Int32)), .val (.ref w1)] [])
    refine own_st (fun _ k => XS.aload X3.here hx rfl (hb hby own_d6_19) rfl rfl k) ?_
    show own_Go _ _ _ _ T3 (mkF m 21 #[.val (.ref a1), .val (.ref bv), .val (.int (6 : Int32)), .val (.int (1 : Int32)), .val (.ref w1)] [(.ref w1)])
    obtain ⟨T4, X4, e4, st4⟩ := getF X3 hx hZ hown (host := "") (Or.inl (own_w54 hw)) Via.refl e3 (Fs1.ext O1) (g := (mkF m 21 #[.val (.ref a1), .val (.ref bv), .val (.int (6 : Int32)), .val (.int (1 : Int32)), .val (.ref w1)] [(.ref w1)])) rfl rfl (hb hby own_d6_21)
    refine own_st st4 ?_
    show own_Go _ _ _ _ T4 (mkF m 24 #[.val (.ref a1), .val (.ref bv), .val (.int (6 : Int32)), .val (.int (1 : Int32)), .val (.ref w1)] [(.ref u1)])
    refine own_st (fun _ k => XS.aloadN X4.here hx rfl (hb hby own_d6_24) rfl rfl k) ?_
    show own_Go _ _ _ _ T4 (mkF m 25 #[.val (.ref a1), .val (.ref bv), .val (.int (6 : Int32)), .val (.int (1 : Int32)), .val (.ref w1)] [(.ref a1), (.ref u1)])
    obtain ⟨v5, T5, L5, hQ5, X5, st5⟩ := own_callV X4 hx hZ (y := (⟨"java/lang/String", "equals", "(Ljava/lang/Object;)Z"⟩ : MethodName)) hown (own_w56 hw) (own_w57 hw) (own_w59 hw) (own_w58 hw) (own_w6 hw) (own_w60 hw) (by decide) (own_se21 l hw [] u1 a1 y_1 ba k_1 ka cs (60 : Int32) (62 : Int32) y0 T1.heap n0 (Nat.le_trans Z0 O1.1) (Scs.ext O1) hcs dn1 (Ea.ext O1) (Gv1.ext O1) (Gc1.ext O1) (Vy1.ext O1) (Fva.ext O1) (Fca.ext O1) (Va.ext O1)) e4 (Eu1.ext O1) (g := (mkF m 25 #[.val (.ref a1), .val (.ref bv), .val (.int (6 : Int32)), .val (.int (1 : Int32)), .val (.ref w1)] [(.ref a1), (.ref u1)])) rfl (by rw [hml]; rfl) (argsL := [(.ref a1)]) (rest := []) (lenOf own_pd9 rfl) rfl rfl (W := 0) (Nat.le_of_eq rfl) (hb hby own_d6_25) (by decide) (by decide) (by decide) (by decide)
    obtain ⟨rfl, N5, e5⟩ := hQ5
    have N5' := Fr.app N3' N5
    refine own_st st5 ?_
    show own_Go _ _ _ _ T5 (mkF m 28 #[.val (.ref a1), .val (.ref bv), .val (.int (6 : Int32)), .val (.int (1 : Int32)), .val (.ref w1)] [(.int (0 : Int32))])
    refine own_st (fun _ k => XS.ifYes X5.here hx rfl (pc0 := 28) (pc' := 34) rfl (hb hby own_d6_28) rfl ((if0 _ _).trans (teq (by decide : (0 : Int32) = (0 : Int32))).1) (by decide) (by decide) k) ?_
    show own_Go _ _ _ _ T5 (mkF m 34 #[.val (.ref a1), .val (.ref bv), .val (.int (6 : Int32)), .val (.int (1 : Int32)), .val (.ref w1)] [])
    refine own_st (fun _ k => XS.iinc X5.here hx rfl (hb hby own_d6_34) rfl (l' := #[.val (.ref a1), .val (.ref bv), .val (.int (6 : Int32)), .val (.int ((1 : Int32) + (1 : Int32))), .val (.ref w1)]) rfl k) ?_
    show own_Go _ _ _ _ T5 (mkF m 37 #[.val (.ref a1), .val (.ref bv), .val (.int (6 : Int32)), .val (.int ((1 : Int32) + (1 : Int32))), .val (.ref w1)] [])
    rw [show ((1 : Int32) + (1 : Int32)) = (2 : Int32) from by decide]
    show own_Go _ _ _ _ T5 (mkF m 37 #[.val (.ref a1), .val (.ref bv), .val (.int (6 : Int32)), .val (.int (2 : Int32)), .val (.ref w1)] [])
    refine own_st (fun _ k => XS.goto X5.here hx rfl (pc0 := 37) (pc' := 9) rfl (hb hby own_d6_37) (by decide) (by decide) k) ?_
    show own_Go _ _ _ _ T5 (mkF m 9 #[.val (.ref a1), .val (.ref bv), .val (.int (6 : Int32)), .val (.int (2 : Int32)), .val (.ref w1)] [])
    refine own_st (fun _ k => XS.iloadN X5.here hx rfl (hb hby own_d6_9) rfl k) ?_
    show own_Go _ _ _ _ T5 (mkF m 10 #[.val (.ref a1), .val (.ref bv), .val (.int (6 : Int32)), .val (.int (2 : Int32)), .val (.ref w1)] [(.int (2 : Int32))])
    refine own_st (fun _ k => XS.iloadN X5.here hx rfl (hb hby own_d6_10) rfl k) ?_
    show own_Go _ _ _ _ T5 (mkF m 11 #[.val (.ref a1), .val (.ref bv), .val (.int (6 : Int32)), .val (.int (2 : Int32)), .val (.ref w1)] [(.int (6 : Int32)), (.int (2 : Int32))])
    refine own_st (fun _ k => XS.icmpNo X5.here hx rfl (hb hby own_d6_11) rfl (tlt (by decide : (2 : Int32) < (6 : Int32))).2.1 k) ?_
    show own_Go _ _ _ _ T5 (mkF m 14 #[.val (.ref a1), .val (.ref bv), .val (.int (6 : Int32)), .val (.int (2 : Int32)), .val (.ref w1)] [])
    refine own_st (fun _ k => XS.aloadN X5.here hx rfl (hb hby own_d6_14) rfl rfl k) ?_
    show own_Go _ _ _ _ T5 (mkF m 15 #[.val (.ref a1), .val (.ref bv), .val (.int (6 : Int32)), .val (.int (2 : Int32)), .val (.ref w1)] [(.ref bv)])
    refine own_st (fun _ k => XS.iloadN X5.here hx rfl (hb hby own_d6_15) rfl k) ?_
    show own_Go _ _ _ _ T5 (mkF m 16 #[.val (.ref a1), .val (.ref bv), .val (.int (6 : Int32)), .val (.int (2 : Int32)), .val (.ref w1)] [(.int (2 : Int32)), (.ref bv)])
    refine own_st (own_ldR X5 hx hZ e5 Vb rfl (j := (2 : Int32)) (by decide) (v := (.ref w2)) rfl (g := (mkF m 16 #[.val (.ref a1), .val (.ref bv), .val (.int (6 : Int32)), .val (.int (2 : Int32)), .val (.ref w1)] [(.int (2 : Int32)), (.ref bv)])) rfl rfl (hb hby own_d6_16)) ?_
    show own_Go _ _ _ _ T5 (mkF m 17 #[.val (.ref a1), .val (.ref bv), .val (.int (6 : Int32)), .val (.int (2 : Int32)), .val (.ref w1)] [(.ref w2)])
    refine own_st (fun _ k => XS.astore X5.here hx rfl (hb hby own_d6_17) rfl rfl (l' := #[.val (.ref a1), .val (.ref bv), .val (.int (6 : Int32)), .val (.int (2 : Int32)), .val (.ref w2)]) rfl k) ?_
    show own_Go _ _ _ _ T5 (mkF m 19 #[.val (.ref a1), .val (.ref bv), .val (.int (6 : Int32)), .val (.int (2 : Int32)), .val (.ref w2)] [])
    refine own_st (fun _ k => XS.aload X5.here hx rfl (hb hby own_d6_19) rfl rfl k) ?_
    show own_Go _ _ _ _ T5 (mkF m 21 #[.val (.ref a1), .val (.ref bv), .val (.int (6 : Int32)), .val (.int (2 : Int32)), .val (.ref w2)] [(.ref w2)])
    obtain ⟨T6, X6, e6, st6⟩ := getF X5 hx hZ hown (host := "") (Or.inl (own_w54 hw)) Via.refl e5 (Fs2.ext O1) (g := (mkF m 21 #[.val (.ref a1), .val (.ref bv), .val (.int (6 : Int32)), .val (.int (2 : Int32)), .val (.ref w2)] [(.ref w2)])) rfl rfl (hb hby own_d6_21)
    refine own_st st6 ?_
    show own_Go _ _ _ _ T6 (mkF m 24 #[.val (.ref a1), .val (.ref bv), .val (.int (6 : Int32)), .val (.int (2 : Int32)), .val (.ref w2)] [(.ref u2)])
    refine own_st (fun _ k => XS.aloadN X6.here hx rfl (hb hby own_d6_24) rfl rfl k) ?_
    show own_Go _ _ _ _ T6 (mkF m 25 #[.val (.ref a1), .val (.ref bv), .val (.int (6 : Int32)), .val (.int (2 : Int32)), .val (.ref w2)] [(.ref a1), (.ref u2)])
    obtain ⟨v7, T7, L7, hQ7, X7, st7⟩ := own_callV X6 hx hZ (y := (⟨"java/lang/String", "equals", "(Ljava/lang/Object;)Z"⟩ : MethodName)) hown (own_w56 hw) (own_w57 hw) (own_w59 hw) (own_w58 hw) (own_w6 hw) (own_w60 hw) (by decide) (own_se11 l hw [] u2 a1 y_2 ba k_2 ka cs (60 : Int32) y0 T1.heap n0 (Nat.le_trans Z0 O1.1) (Scs.ext O1) hcs dn2 (Ea.ext O1) (Gv2.ext O1) (Gc2.ext O1) (Vy2.ext O1) (Fva.ext O1) (Fca.ext O1) (Va.ext O1)) e6 (Eu2.ext O1) (g := (mkF m 25 #[.val (.ref a1), .val (.ref bv), .val (.int (6 : Int32)), .val (.int (2 : Int32)), .val (.ref w2)] [(.ref a1), (.ref u2)])) rfl (by rw [hml]; rfl) (argsL := [(.ref a1)]) (rest := []) (lenOf own_pd9 rfl) rfl rfl (W := 0) (Nat.le_of_eq rfl) (hb hby own_d6_25) (by decide) (by decide) (by decide) (by decide)
    obtain ⟨rfl, N7, e7⟩ := hQ7
    have N7' := Fr.app N5' N7
    refine own_st st7 ?_
    show own_Go _ _ _ _ T7 (mkF m 28 #[.val (.ref a1), .val (.ref bv), .val (.int (6 : Int32)), .val (.int (2 : Int32)), .val (.ref w2)] [(.int (own_eq1 (60 : Int32) y0))])
    by_cases hq2 : (own_eq1 (60 : Int32) y0) = (0 : Int32)
    · refine own_st (fun _ k => XS.ifYes X7.here hx rfl (pc0 := 28) (pc' := 34) rfl (hb hby own_d6_28) rfl ((if0 _ _).trans (teq (hq2 : (own_eq1 (60 : Int32) y0) = (0 : Int32))).1) (by decide) (by decide) k) ?_
      show own_Go _ _ _ _ T7 (mkF m 34 #[.val (.ref a1), .val (.ref bv), .val (.int (6 : Int32)), .val (.int (2 : Int32)), .val (.ref w2)] [])
      refine own_st (fun _ k => XS.iinc X7.here hx rfl (hb hby own_d6_34) rfl (l' := #[.val (.ref a1), .val (.ref bv), .val (.int (6 : Int32)), .val (.int ((2 : Int32) + (1 : Int32))), .val (.ref w2)]) rfl k) ?_
      show own_Go _ _ _ _ T7 (mkF m 37 #[.val (.ref a1), .val (.ref bv), .val (.int (6 : Int32)), .val (.int ((2 : Int32) + (1 : Int32))), .val (.ref w2)] [])
      rw [show ((2 : Int32) + (1 : Int32)) = (3 : Int32) from by decide]
      show own_Go _ _ _ _ T7 (mkF m 37 #[.val (.ref a1), .val (.ref bv), .val (.int (6 : Int32)), .val (.int (3 : Int32)), .val (.ref w2)] [])
      refine own_st (fun _ k => XS.goto X7.here hx rfl (pc0 := 37) (pc' := 9) rfl (hb hby own_d6_37) (by decide) (by decide) k) ?_
      show own_Go _ _ _ _ T7 (mkF m 9 #[.val (.ref a1), .val (.ref bv), .val (.int (6 : Int32)), .val (.int (3 : Int32)), .val (.ref w2)] [])
      refine own_st (fun _ k => XS.iloadN X7.here hx rfl (hb hby own_d6_9) rfl k) ?_
      show own_Go _ _ _ _ T7 (mkF m 10 #[.val (.ref a1), .val (.ref bv), .val (.int (6 : Int32)), .val (.int (3 : Int32)), .val (.ref w2)] [(.int (3 : Int32))])
      refine own_st (fun _ k => XS.iloadN X7.here hx rfl (hb hby own_d6_10) rfl k) ?_
      show own_Go _ _ _ _ T7 (mkF m 11 #[.val (.ref a1), .val (.ref bv), .val (.int (6 : Int32)), .val (.int (3 : Int32)), .val (.ref w2)] [(.int (6 : Int32)), (.int (3 : Int32))])
      refine own_st (fun _ k => XS.icmpNo X7.here hx rfl (hb hby own_d6_11) rfl (tlt (by decide : (3 : Int32) < (6 : Int32))).2.1 k) ?_
      show own_Go _ _ _ _ T7 (mkF m 14 #[.val (.ref a1), .val (.ref bv), .val (.int (6 : Int32)), .val (.int (3 : Int32)), .val (.ref w2)] [])
      refine own_st (fun _ k => XS.aloadN X7.here hx rfl (hb hby own_d6_14) rfl rfl k) ?_
      show own_Go _ _ _ _ T7 (mkF m 15 #[.val (.ref a1), .val (.ref bv), .val (.int (6 : Int32)), .val (.int (3 : Int32)), .val (.ref w2)] [(.ref bv)])
      refine own_st (fun _ k => XS.iloadN X7.here hx rfl (hb hby own_d6_15) rfl k) ?_
      show own_Go _ _ _ _ T7 (mkF m 16 #[.val (.ref a1), .val (.ref bv), .val (.int (6 : Int32)), .val (.int (3 : Int32)), .val (.ref w2)] [(.int (3 : Int32)), (.ref bv)])
      refine own_st (own_ldR X7 hx hZ e7 Vb rfl (j := (3 : Int32)) (by decide) (v := (.ref w3)) rfl (g := (mkF m 16 #[.val (.ref a1), .val (.ref bv), .val (.int (6 : Int32)), .val (.int (3 : Int32)), .val (.ref w2)] [(.int (3 : Int32)), (.ref bv)])) rfl rfl (hb hby own_d6_16)) ?_
      show own_Go _ _ _ _ T7 (mkF m 17 #[.val (.ref a1), .val (.ref bv), .val (.int (6 : Int32)), .val (.int (3 : Int32)), .val (.ref w2)] [(.ref w3)])
      refine own_st (fun _ k => XS.astore X7.here hx rfl (hb hby own_d6_17) rfl rfl (l' := #[.val (.ref a1), .val (.ref bv), .val (.int (6 : Int32)), .val (.int (3 : Int32)), .val (.ref w3)]) rfl k) ?_
      show own_Go _ _ _ _ T7 (mkF m 19 #[.val (.ref a1), .val (.ref bv), .val (.int (6 : Int32)), .val (.int (3 : Int32)), .val (.ref w3)] [])
      refine own_st (fun _ k => XS.aload X7.here hx rfl (hb hby own_d6_19) rfl rfl k) ?_
      show own_Go _ _ _ _ T7 (mkF m 21 #[.val (.ref a1), .val (.ref bv), .val (.int (6 : Int32)), .val (.int (3 : Int32)), .val (.ref w3)] [(.ref w3)])
      obtain ⟨T8, X8, e8, st8⟩ := getF X7 hx hZ hown (host := "") (Or.inl (own_w54 hw)) Via.refl e7 (Fs3.ext O1) (g := (mkF m 21 #[.val (.ref a1), .val (.ref bv), .val (.int (6 : Int32)), .val (.int (3 : Int32)), .val (.ref w3)] [(.ref w3)])) rfl rfl (hb hby own_d6_21)
      refine own_st st8 ?_
      show own_Go _ _ _ _ T8 (mkF m 24 #[.val (.ref a1), .val (.ref bv), .val (.int (6 : Int32)), .val (.int (3 : Int32)), .val (.ref w3)] [(.ref u3)])
      refine own_st (fun _ k => XS.aloadN X8.here hx rfl (hb hby own_d6_24) rfl rfl k) ?_
      show own_Go _ _ _ _ T8 (mkF m 25 #[.val (.ref a1), .val (.ref bv), .val (.int (6 : Int32)), .val (.int (3 : Int32)), .val (.ref w3)] [(.ref a1), (.ref u3)])
      obtain ⟨v9, T9, L9, hQ9, X9, st9⟩ := own_callV X8 hx hZ (y := (⟨"java/lang/String", "equals", "(Ljava/lang/Object;)Z"⟩ : MethodName)) hown (own_w56 hw) (own_w57 hw) (own_w59 hw) (own_w58 hw) (own_w6 hw) (own_w60 hw) (by decide) (own_se21 l hw [] u3 a1 y_3 ba k_3 ka cs (60 : Int32) (61 : Int32) y0 T1.heap n0 (Nat.le_trans Z0 O1.1) (Scs.ext O1) hcs dn3 (Ea.ext O1) (Gv3.ext O1) (Gc3.ext O1) (Vy3.ext O1) (Fva.ext O1) (Fca.ext O1) (Va.ext O1)) e8 (Eu3.ext O1) (g := (mkF m 25 #[.val (.ref a1), .val (.ref bv), .val (.int (6 : Int32)), .val (.int (3 : Int32)), .val (.ref w3)] [(.ref a1), (.ref u3)])) rfl (by rw [hml]; rfl) (argsL := [(.ref a1)]) (rest := []) (lenOf own_pd9 rfl) rfl rfl (W := 0) (Nat.le_of_eq rfl) (hb hby own_d6_25) (by decide) (by decide) (by decide) (by decide)
      obtain ⟨rfl, N9, e9⟩ := hQ9
      have N9' := Fr.app N7' N9
      refine own_st st9 ?_
      show own_Go _ _ _ _ T9 (mkF m 28 #[.val (.ref a1), .val (.ref bv), .val (.int (6 : Int32)), .val (.int (3 : Int32)), .val (.ref w3)] [(.int (0 : Int32))])
      refine own_st (fun _ k => XS.ifYes X9.here hx rfl (pc0 := 28) (pc' := 34) rfl (hb hby own_d6_28) rfl ((if0 _ _).trans (teq (by decide : (0 : Int32) = (0 : Int32))).1) (by decide) (by decide) k) ?_
      show own_Go _ _ _ _ T9 (mkF m 34 #[.val (.ref a1), .val (.ref bv), .val (.int (6 : Int32)), .val (.int (3 : Int32)), .val (.ref w3)] [])
      refine own_st (fun _ k => XS.iinc X9.here hx rfl (hb hby own_d6_34) rfl (l' := #[.val (.ref a1), .val (.ref bv), .val (.int (6 : Int32)), .val (.int ((3 : Int32) + (1 : Int32))), .val (.ref w3)]) rfl k) ?_
      show own_Go _ _ _ _ T9 (mkF m 37 #[.val (.ref a1), .val (.ref bv), .val (.int (6 : Int32)), .val (.int ((3 : Int32) + (1 : Int32))), .val (.ref w3)] [])
      rw [show ((3 : Int32) + (1 : Int32)) = (4 : Int32) from by decide]
      show own_Go _ _ _ _ T9 (mkF m 37 #[.val (.ref a1), .val (.ref bv), .val (.int (6 : Int32)), .val (.int (4 : Int32)), .val (.ref w3)] [])
      refine own_st (fun _ k => XS.goto X9.here hx rfl (pc0 := 37) (pc' := 9) rfl (hb hby own_d6_37) (by decide) (by decide) k) ?_
      show own_Go _ _ _ _ T9 (mkF m 9 #[.val (.ref a1), .val (.ref bv), .val (.int (6 : Int32)), .val (.int (4 : Int32)), .val (.ref w3)] [])
      refine own_st (fun _ k => XS.iloadN X9.here hx rfl (hb hby own_d6_9) rfl k) ?_
      show own_Go _ _ _ _ T9 (mkF m 10 #[.val (.ref a1), .val (.ref bv), .val (.int (6 : Int32)), .val (.int (4 : Int32)), .val (.ref w3)] [(.int (4 : Int32))])
      refine own_st (fun _ k => XS.iloadN X9.here hx rfl (hb hby own_d6_10) rfl k) ?_
      show own_Go _ _ _ _ T9 (mkF m 11 #[.val (.ref a1), .val (.ref bv), .val (.int (6 : Int32)), .val (.int (4 : Int32)), .val (.ref w3)] [(.int (6 : Int32)), (.int (4 : Int32))])
      refine own_st (fun _ k => XS.icmpNo X9.here hx rfl (hb hby own_d6_11) rfl (tlt (by decide : (4 : Int32) < (6 : Int32))).2.1 k) ?_
      show own_Go _ _ _ _ T9 (mkF m 14 #[.val (.ref a1), .val (.ref bv), .val (.int (6 : Int32)), .val (.int (4 : Int32)), .val (.ref w3)] [])
      refine own_st (fun _ k => XS.aloadN X9.here hx rfl (hb hby own_d6_14) rfl rfl k) ?_
      show own_Go _ _ _ _ T9 (mkF m 15 #[.val (.ref a1), .val (.ref bv), .val (.int (6 : Int32)), .val (.int (4 : Int32)), .val (.ref w3)] [(.ref bv)])
      refine own_st (fun _ k => XS.iloadN X9.here hx rfl (hb hby own_d6_15) rfl k) ?_
      show own_Go _ _ _ _ T9 (mkF m 16 #[.val (.ref a1), .val (.ref bv), .val (.int (6 : Int32)), .val (.int (4 : Int32)), .val (.ref w3)] [(.int (4 : Int32)), (.ref bv)])
      refine own_st (own_ldR X9 hx hZ e9 Vb rfl (j := (4 : Int32)) (by decide) (v := (.ref w4)) rfl (g := (mkF m 16 #[.val (.ref a1), .val (.ref bv), .val (.int (6 : Int32)), .val (.int (4 : Int32)), .val (.ref w3)] [(.int (4 : Int32)), (.ref bv)])) rfl rfl (hb hby own_d6_16)) ?_
      show own_Go _ _ _ _ T9 (mkF m 17 #[.val (.ref a1), .val (.ref bv), .val (.int (6 : Int32)), .val (.int (4 : Int32)), .val (.ref w3)] [(.ref w4)])
      refine own_st (fun _ k => XS.astore X9.here hx rfl (hb hby own_d6_17) rfl rfl (l' := #[.val (.ref a1), .val (.ref bv), .val (.int (6 : Int32)), .val (.int (4 : Int32)), .val (.ref w4)]) rfl k) ?_
      show own_Go _ _ _ _ T9 (mkF m 19 #[.val (.ref a1), .val (.ref bv), .val (.int (6 : Int32)), .val (.int (4 : Int32)), .val (.ref w4)] [])
      refine own_st (fun _ k => XS.aload X9.here hx rfl (hb hby own_d6_19) rfl rfl k) ?_
      show own_Go _ _ _ _ T9 (mkF m 21 #[.val (.ref a1), .val (.ref bv), .val (.int (6 : Int32)), .val (.int (4 : Int32)), .val (.ref w4)] [(.ref w4)])
      obtain ⟨T10, X10, e10, st10⟩ := getF X9 hx hZ hown (host := "") (Or.inl (own_w54 hw)) Via.refl e9 (Fs4.ext O1) (g := (mkF m 21 #[.val (.ref a1), .val (.ref bv), .val (.int (6 : Int32)), .val (.int (4 : Int32)), .val (.ref w4)] [(.ref w4)])) rfl rfl (hb hby own_d6_21)
      refine own_st st10 ?_
      show own_Go _ _ _ _ T10 (mkF m 24 #[.val (.ref a1), .val (.ref bv), .val (.int (6 : Int32)), .val (.int (4 : Int32)), .val (.ref w4)] [(.ref u4)])
      refine own_st (fun _ k => XS.aloadN X10.here hx rfl (hb hby own_d6_24) rfl rfl k) ?_
      show own_Go _ _ _ _ T10 (mkF m 25 #[.val (.ref a1), .val (.ref bv), .val (.int (6 : Int32)), .val (.int (4 : Int32)), .val (.ref w4)] [(.ref a1), (.ref u4)])
      obtain ⟨v11, T11, L11, hQ11, X11, st11⟩ := own_callV X10 hx hZ (y := (⟨"java/lang/String", "equals", "(Ljava/lang/Object;)Z"⟩ : MethodName)) hown (own_w56 hw) (own_w57 hw) (own_w59 hw) (own_w58 hw) (own_w6 hw) (own_w60 hw) (by decide) (own_se11 l hw [] u4 a1 y_4 ba k_4 ka cs (62 : Int32) y0 T1.heap n0 (Nat.le_trans Z0 O1.1) (Scs.ext O1) hcs dn4 (Ea.ext O1) (Gv4.ext O1) (Gc4.ext O1) (Vy4.ext O1) (Fva.ext O1) (Fca.ext O1) (Va.ext O1)) e10 (Eu4.ext O1) (g := (mkF m 25 #[.val (.ref a1), .val (.ref bv), .val (.int (6 : Int32)), .val (.int (4 : Int32)), .val (.ref w4)] [(.ref a1), (.ref u4)])) rfl (by rw [hml]; rfl) (argsL := [(.ref a1)]) (rest := []) (lenOf own_pd9 rfl) rfl rfl (W := 0) (Nat.le_of_eq rfl) (hb hby own_d6_25) (by decide) (by decide) (by decide) (by decide)
      obtain ⟨rfl, N11, e11⟩ := hQ11
      have N11' := Fr.app N9' N11
      refine own_st st11 ?_
      show own_Go _ _ _ _ T11 (mkF m 28 #[.val (.ref a1), .val (.ref bv), .val (.int (6 : Int32)), .val (.int (4 : Int32)), .val (.ref w4)] [(.int (own_eq1 (62 : Int32) y0))])
      by_cases hq4 : (own_eq1 (62 : Int32) y0) = (0 : Int32)
      · refine own_st (fun _ k => XS.ifYes X11.here hx rfl (pc0 := 28) (pc' := 34) rfl (hb hby own_d6_28) rfl ((if0 _ _).trans (teq (hq4 : (own_eq1 (62 : Int32) y0) = (0 : Int32))).1) (by decide) (by decide) k) ?_
        show own_Go _ _ _ _ T11 (mkF m 34 #[.val (.ref a1), .val (.ref bv), .val (.int (6 : Int32)), .val (.int (4 : Int32)), .val (.ref w4)] [])
        refine own_st (fun _ k => XS.iinc X11.here hx rfl (hb hby own_d6_34) rfl (l' := #[.val (.ref a1), .val (.ref bv), .val (.int (6 : Int32)), .val (.int ((4 : Int32) + (1 : Int32))), .val (.ref w4)]) rfl k) ?_
        show own_Go _ _ _ _ T11 (mkF m 37 #[.val (.ref a1), .val (.ref bv), .val (.int (6 : Int32)), .val (.int ((4 : Int32) + (1 : Int32))), .val (.ref w4)] [])
        rw [show ((4 : Int32) + (1 : Int32)) = (5 : Int32) from by decide]
        show own_Go _ _ _ _ T11 (mkF m 37 #[.val (.ref a1), .val (.ref bv), .val (.int (6 : Int32)), .val (.int (5 : Int32)), .val (.ref w4)] [])
        refine own_st (fun _ k => XS.goto X11.here hx rfl (pc0 := 37) (pc' := 9) rfl (hb hby own_d6_37) (by decide) (by decide) k) ?_
        show own_Go _ _ _ _ T11 (mkF m 9 #[.val (.ref a1), .val (.ref bv), .val (.int (6 : Int32)), .val (.int (5 : Int32)), .val (.ref w4)] [])
        refine own_st (fun _ k => XS.iloadN X11.here hx rfl (hb hby own_d6_9) rfl k) ?_
        show own_Go _ _ _ _ T11 (mkF m 10 #[.val (.ref a1), .val (.ref bv), .val (.int (6 : Int32)), .val (.int (5 : Int32)), .val (.ref w4)] [(.int (5 : Int32))])
        refine own_st (fun _ k => XS.iloadN X11.here hx rfl (hb hby own_d6_10) rfl k) ?_
        show own_Go _ _ _ _ T11 (mkF m 11 #[.val (.ref a1), .val (.ref bv), .val (.int (6 : Int32)), .val (.int (5 : Int32)), .val (.ref w4)] [(.int (6 : Int32)), (.int (5 : Int32))])
        refine own_st (fun _ k => XS.icmpNo X11.here hx rfl (hb hby own_d6_11) rfl (tlt (by decide : (5 : Int32) < (6 : Int32))).2.1 k) ?_
        show own_Go _ _ _ _ T11 (mkF m 14 #[.val (.ref a1), .val (.ref bv), .val (.int (6 : Int32)), .val (.int (5 : Int32)), .val (.ref w4)] [])
        refine own_st (fun _ k => XS.aloadN X11.here hx rfl (hb hby own_d6_14) rfl rfl k) ?_
        show own_Go _ _ _ _ T11 (mkF m 15 #[.val (.ref a1), .val (.ref bv), .val (.int (6 : Int32)), .val (.int (5 : Int32)), .val (.ref w4)] [(.ref bv)])
        refine own_st (fun _ k => XS.iloadN X11.here hx rfl (hb hby own_d6_15) rfl k) ?_
        show own_Go _ _ _ _ T11 (mkF m 16 #[.val (.ref a1), .val (.ref bv), .val (.int (6 : Int32)), .val (.int (5 : Int32)), .val (.ref w4)] [(.int (5 : Int32)), (.ref bv)])
        refine own_st (own_ldR X11 hx hZ e11 Vb rfl (j := (5 : Int32)) (by decide) (v := (.ref w5)) rfl (g := (mkF m 16 #[.val (.ref a1), .val (.ref bv), .val (.int (6 : Int32)), .val (.int (5 : Int32)), .val (.ref w4)] [(.int (5 : Int32)), (.ref bv)])) rfl rfl (hb hby own_d6_16)) ?_
        show own_Go _ _ _ _ T11 (mkF m 17 #[.val (.ref a1), .val (.ref bv), .val (.int (6 : Int32)), .val (.int (5 : Int32)), .val (.ref w4)] [(.ref w5)])
        refine own_st (fun _ k => XS.astore X11.here hx rfl (hb hby own_d6_17) rfl rfl (l' := #[.val (.ref a1), .val (.ref bv), .val (.int (6 : Int32)), .val (.int (5 : Int32)), .val (.ref w5)]) rfl k) ?_
        show own_Go _ _ _ _ T11 (mkF m 19 #[.val (.ref a1), .val (.ref bv), .val (.int (6 : Int32)), .val (.int (5 : Int32)), .val (.ref w5)] [])
        refine own_st (fun _ k => XS.aload X11.here hx rfl (hb hby own_d6_19) rfl rfl k) ?_
        show own_Go _ _ _ _ T11 (mkF m 21 #[.val (.ref a1), .val (.ref bv), .val (.int (6 : Int32)), .val (.int (5 : Int32)), .val (.ref w5)] [(.ref w5)])
        obtain ⟨T12, X12, e12, st12⟩ := getF X11 hx hZ hown (host := "") (Or.inl (own_w54 hw)) Via.refl e11 (Fs5.ext O1) (g := (mkF m 21 #[.val (.ref a1), .val (.ref bv), .val (.int (6 : Int32)), .val (.int (5 : Int32)), .val (.ref w5)] [(.ref w5)])) rfl rfl (hb hby own_d6_21)
        refine own_st st12 ?_
        show own_Go _ _ _ _ T12 (mkF m 24 #[.val (.ref a1), .val (.ref bv), .val (.int (6 : Int32)), .val (.int (5 : Int32)), .val (.ref w5)] [(.ref u5)])
        refine own_st (fun _ k => XS.aloadN X12.here hx rfl (hb hby own_d6_24) rfl rfl k) ?_
        show own_Go _ _ _ _ T12 (mkF m 25 #[.val (.ref a1), .val (.ref bv), .val (.int (6 : Int32)), .val (.int (5 : Int32)), .val (.ref w5)] [(.ref a1), (.ref u5)])
        obtain ⟨v13, T13, L13, hQ13, X13, st13⟩ := own_callV X12 hx hZ (y := (⟨"java/lang/String", "equals", "(Ljava/lang/Object;)Z"⟩ : MethodName)) hown (own_w56 hw) (own_w57 hw) (own_w59 hw) (own_w58 hw) (own_w6 hw) (own_w60 hw) (by decide) (own_se21 l hw [] u5 a1 y_5 ba k_5 ka cs (62 : Int32) (61 : Int32) y0 T1.heap n0 (Nat.le_trans Z0 O1.1) (Scs.ext O1) hcs dn5 (Ea.ext O1) (Gv5.ext O1) (Gc5.ext O1) (Vy5.ext O1) (Fva.ext O1) (Fca.ext O1) (Va.ext O1)) e12 (Eu5.ext O1) (g := (mkF m 25 #[.val (.ref a1), .val (.ref bv), .val (.int (6 : Int32)), .val (.int (5 : Int32)), .val (.ref w5)] [(.ref a1), (.ref u5)])) rfl (by rw [hml]; rfl) (argsL := [(.ref a1)]) (rest := []) (lenOf own_pd9 rfl) rfl rfl (W := 0) (Nat.le_of_eq rfl) (hb hby own_d6_25) (by decide) (by decide) (by decide) (by decide)
        obtain ⟨rfl, N13, e13⟩ := hQ13
        have N13' := Fr.app N11' N13
        refine own_st st13 ?_
        show own_Go _ _ _ _ T13 (mkF m 28 #[.val (.ref a1), .val (.ref bv), .val (.int (6 : Int32)), .val (.int (5 : Int32)), .val (.ref w5)] [(.int (0 : Int32))])
        refine own_st (fun _ k => XS.ifYes X13.here hx rfl (pc0 := 28) (pc' := 34) rfl (hb hby own_d6_28) rfl ((if0 _ _).trans (teq (by decide : (0 : Int32) = (0 : Int32))).1) (by decide) (by decide) k) ?_
        show own_Go _ _ _ _ T13 (mkF m 34 #[.val (.ref a1), .val (.ref bv), .val (.int (6 : Int32)), .val (.int (5 : Int32)), .val (.ref w5)] [])
        refine own_st (fun _ k => XS.iinc X13.here hx rfl (hb hby own_d6_34) rfl (l' := #[.val (.ref a1), .val (.ref bv), .val (.int (6 : Int32)), .val (.int ((5 : Int32) + (1 : Int32))), .val (.ref w5)]) rfl k) ?_
        show own_Go _ _ _ _ T13 (mkF m 37 #[.val (.ref a1), .val (.ref bv), .val (.int (6 : Int32)), .val (.int ((5 : Int32) + (1 : Int32))), .val (.ref w5)] [])
        rw [show ((5 : Int32) + (1 : Int32)) = (6 : Int32) from by decide]
        show own_Go _ _ _ _ T13 (mkF m 37 #[.val (.ref a1), .val (.ref bv), .val (.int (6 : Int32)), .val (.int (6 : Int32)), .val (.ref w5)] [])
        refine own_st (fun _ k => XS.goto X13.here hx rfl (pc0 := 37) (pc' := 9) rfl (hb hby own_d6_37) (by decide) (by decide) k) ?_
        show own_Go _ _ _ _ T13 (mkF m 9 #[.val (.ref a1), .val (.ref bv), .val (.int (6 : Int32)), .val (.int (6 : Int32)), .val (.ref w5)] [])
        refine own_st (fun _ k => XS.iloadN X13.here hx rfl (hb hby own_d6_9) rfl k) ?_
        show own_Go _ _ _ _ T13 (mkF m 10 #[.val (.ref a1), .val (.ref bv), .val (.int (6 : Int32)), .val (.int (6 : Int32)), .val (.ref w5)] [(.int (6 : Int32))])
        refine own_st (fun _ k => XS.iloadN X13.here hx rfl (hb hby own_d6_10) rfl k) ?_
        show own_Go _ _ _ _ T13 (mkF m 11 #[.val (.ref a1), .val (.ref bv), .val (.int (6 : Int32)), .val (.int (6 : Int32)), .val (.ref w5)] [(.int (6 : Int32)), (.int (6 : Int32))])
        refine own_st (fun _ k => XS.icmpYes X13.here hx rfl (pc0 := 11) (pc' := 40) rfl (hb hby own_d6_11) rfl (flt (by decide : ¬ ((6 : Int32) < (6 : Int32)))).2.1 (by decide) (by decide) k) ?_
        show own_Go _ _ _ _ T13 (mkF m 40 #[.val (.ref a1), .val (.ref bv), .val (.int (6 : Int32)), .val (.int (6 : Int32)), .val (.ref w5)] [])
        refine own_st (fun _ k => XS.aconstNull X13.here hx rfl (hb hby own_d6_40) k) ?_
        show own_Go _ _ _ _ T13 (mkF m 41 #[.val (.ref a1), .val (.ref bv), .val (.int (6 : Int32)), .val (.int (6 : Int32)), .val (.ref w5)] [.null])
        exact own_retA X13 hx hret rfl hlk rfl (hb hby own_d6_41) ⟨by simp [own_wv1, own_wv2, *], N13', by rw [e13]; exact O1⟩ (by decide) (by decide)
      · refine own_st (fun _ k => XS.ifNo X11.here hx rfl (hb hby own_d6_28) rfl ((if0 _ _).trans (feq (hq4 : ¬ ((own_eq1 (62 : Int32) y0) = (0 : Int32)))).1) k) ?_
        show own_Go _ _ _ _ T11 (mkF m 31 #[.val (.ref a1), .val (.ref bv), .val (.int (6 : Int32)), .val (.int (4 : Int32)), .val (.ref w4)] [])
        refine own_st (fun _ k => XS.aload X11.here hx rfl (hb hby own_d6_31) rfl rfl k) ?_
        show own_Go _ _ _ _ T11 (mkF m 33 #[.val (.ref a1), .val (.ref bv), .val (.int (6 : Int32)), .val (.int (4 : Int32)), .val (.ref w4)] [(.ref w4)])
        exact own_retA X11 hx hret rfl hlk rfl (hb hby own_d6_33) ⟨by simp [own_wv1, own_wv2, *], N11', by rw [e11]; exact O1⟩ (by decide) (by decide)
    · refine own_st (fun _ k => XS.ifNo X7.here hx rfl (hb hby own_d6_28) rfl ((if0 _ _).trans (feq (hq2 : ¬ ((own_eq1 (60 : Int32) y0) = (0 : Int32)))).1) k) ?_
      show own_Go _ _ _ _ T7 (mkF m 31 #[.val (.ref a1), .val (.ref bv), .val (.int (6 : Int32)), .val (.int (2 : Int32)), .val (.ref w2)] [])
      refine own_st (fun _ k => XS.aload X7.here hx rfl (hb hby own_d6_31) rfl rfl k) ?_
      show own_Go _ _ _ _ T7 (mkF m 33 #[.val (.ref a1), .val (.ref bv), .val (.int (6 : Int32)), .val (.int (2 : Int32)), .val (.ref w2)] [(.ref w2)])
      exact own_retA X7 hx hret rfl hlk rfl (hb hby own_d6_33) ⟨by simp [own_wv1, own_wv2, *], N7', by rw [e7]; exact O1⟩ (by decide) (by decide)
  · refine own_st (fun _ k => XS.ifNo X3.here hx rfl (hb hby own_d6_28) rfl ((if0 _ _).trans (feq (hq0 : ¬ ((own_eq1 (61 : Int32) y0) = (0 : Int32)))).1) k) ?_
    show own_Go _ _ _ _ T3 (mkF m 31 #[.val (.ref a1), .val (.ref bv), .val (.int (6 : Int32)), .val (.int (0 : Int32)), .val (.ref w0)] [])
    refine own_st (fun _ k => XS.aload X3.here hx rfl (hb hby own_d6_31) rfl rfl k) ?_
    show own_Go _ _ _ _ T3 (mkF m 33 #[.val (.ref a1), .val (.ref bv), .val (.int (6 : Int32)), .val (.int (0 : Int32)), .val (.ref w0)] [(.ref w0)])
    exact own_retA X3 hx hret rfl hlk rfl (hb hby own_d6_33) ⟨by simp [own_wv1, own_wv2, *], N3', by rw [e3]; exact O1⟩ (by decide) (by decide)
def own_wr2_Q (Z : State) (a1 ba : Addr) (ka : ClassId) (wv w0 w1 w2 w3 w4 w5 u0 u1 u2 u3 u4 u5 y_0 y_1 y_2 y_3 y_4 y_5 : Addr) (kv k_0 k_1 k_2 k_3 k_4 k_5 : ClassId) (cs : Int32) (y0 y1 : Int32) (h0 : Heap) (n0 : Nat) (v : Option Value) (h : Heap) (L : List Loc) : Prop := v = some (own_wv2 y0 y1 w1 w3 w5) ∧ Fr n0 L ∧ Ext h0 h
set_option maxRecDepth 65536 in
set_option maxHeartbeats 40000000 in
theorem own_wr2 (l : Launch) {Z : State} {a0 : Array Value} (hw : own_W Z a0) (ws : List Jvm.Cond) (a1 ba : Addr) (ka : ClassId) (wv w0 w1 w2 w3 w4 w5 u0 u1 u2 u3 u4 u5 y_0 y_1 y_2 y_3 y_4 y_5 : Addr) (kv k_0 k_1 k_2 k_3 k_4 k_5 : ClassId) (cs : Int32) (y0 y1 : Int32) (h0 : Heap) (n0 : Nat) (Z0 : n0 ≤ h0.size) (Scs : Sta Z h0 "java/lang/String" "COMPACT_STRINGS" "Z" (.int cs)) (hcs : ¬ cs = 0) (Sv : Sta Z h0 "com/example/overflowstream/overflowstream/Query$Operator" "$VALUES" "[Lcom/example/overflowstream/overflowstream/Query$Operator;" (.ref wv)) (Vv : Arv Z h0 wv kv (.object "com/example/overflowstream/overflowstream/Query$Operator") 6 [(.ref w0), (.ref w1), (.ref w2), (.ref w3), (.ref w4), (.ref w5)] .null) (Ev : Exa Z h0 wv "[Lcom/example/overflowstream/overflowstream/Query$Operator;") (Fs0 : Fld Z h0 w0 "com/example/overflowstream/overflowstream/Query$Operator" "symbol" "Ljava/lang/String;" (.ref u0)) (Eu0 : Exa Z h0 u0 "java/lang/String") (Gv0 : Fld Z h0 u0 "java/lang/String" "value" "[B" (.ref y_0)) (Gc0 : Fld Z h0 u0 "java/lang/String" "coder" "B" (.int (0 : Int32))) (Vy0 : Arv Z h0 y_0 k_0 .byte (1 : Int32) [(.int (61 : Int32))] (.int (0 : Int32))) (Fs1 : Fld Z h0 w1 "com/example/overflowstream/overflowstream/Query$Operator" "symbol" "Ljava/lang/String;" (.ref u1)) (Eu1 : Exa Z h0 u1 "java/lang/String") (Gv1 : Fld Z h0 u1 "java/lang/String" "value" "[B" (.ref y_1)) (Gc1 : Fld Z h0 u1 "java/lang/String" "coder" "B" (.int (0 : Int32))) (Vy1 : Arv Z h0 y_1 k_1 .byte (2 : Int32) [(.int (60 : Int32)), (.int (62 : Int32))] (.int (0 : Int32))) (Fs2 : Fld Z h0 w2 "com/example/overflowstream/overflowstream/Query$Operator" "symbol" "Ljava/lang/String;" (.ref u2)) (Eu2 : Exa Z h0 u2 "java/lang/String") (Gv2 : Fld Z h0 u2 "java/lang/String" "value" "[B" (.ref y_2)) (Gc2 : Fld Z h0 u2 "java/lang/String" "coder" "B" (.int (0 : Int32))) (Vy2 : Arv Z h0 y_2 k_2 .byte (1 : Int32) [(.int (60 : Int32))] (.int (0 : Int32))) (Fs3 : Fld Z h0 w3 "com/example/overflowstream/overflowstream/Query$Operator" "symbol" "Ljava/lang/String;" (.ref u3)) (Eu3 : Exa Z h0 u3 "java/lang/String") (Gv3 : Fld Z h0 u3 "java/lang/String" "value" "[B" (.ref y_3)) (Gc3 : Fld Z h0 u3 "java/lang/String" "coder" "B" (.int (0 : Int32))) (Vy3 : Arv Z h0 y_3 k_3 .byte (2 : Int32) [(.int (60 : Int32)), (.int (61 : Int32))] (.int (0 : Int32))) (Fs4 : Fld Z h0 w4 "com/example/overflowstream/overflowstream/Query$Operator" "symbol" "Ljava/lang/String;" (.ref u4)) (Eu4 : Exa Z h0 u4 "java/lang/String") (Gv4 : Fld Z h0 u4 "java/lang/String" "value" "[B" (.ref y_4)) (Gc4 : Fld Z h0 u4 "java/lang/String" "coder" "B" (.int (0 : Int32))) (Vy4 : Arv Z h0 y_4 k_4 .byte (1 : Int32) [(.int (62 : Int32))] (.int (0 : Int32))) (Fs5 : Fld Z h0 w5 "com/example/overflowstream/overflowstream/Query$Operator" "symbol" "Ljava/lang/String;" (.ref u5)) (Eu5 : Exa Z h0 u5 "java/lang/String") (Gv5 : Fld Z h0 u5 "java/lang/String" "value" "[B" (.ref y_5)) (Gc5 : Fld Z h0 u5 "java/lang/String" "coder" "B" (.int (0 : Int32))) (Vy5 : Arv Z h0 y_5 k_5 .byte (2 : Int32) [(.int (62 : Int32)), (.int (61 : Int32))] (.int (0 : Int32))) (dn0 : ¬ u0 = a1) (dn1 : ¬ u1 = a1) (dn2 : ¬ u2 = a1) (dn3 : ¬ u3 = a1) (dn4 : ¬ u4 = a1) (dn5 : ¬ u5 = a1) (Ea : Exa Z h0 a1 "java/lang/String") (Fva : Fld Z h0 a1 "java/lang/String" "value" "[B" (.ref ba)) (Fca : Fld Z h0 a1 "java/lang/String" "coder" "B" (.int (0 : Int32))) (Va : Arv Z h0 ba ka .byte (2 : Int32) [(.int y0), (.int y1)] (.int (0 : Int32))) :
    MetFree l (⟨"com/example/overflowstream/overflowstream/Query$Operator", "written", "(Ljava/lang/String;)Lcom/example/overflowstream/overflowstream/Query$Operator;"⟩ : MethodName) (head1 (Jvm.Cond.code (⟨"com/example/overflowstream/overflowstream/Query$Operator", "written", "(Ljava/lang/String;)Lcom/example/overflowstream/overflowstream/Query$Operator;"⟩ : MethodName) prog_36_method_4_code 5 (some (.object "com/example/overflowstream/overflowstream/Query$Operator")) :: ws) ({ frames := 2, cells := 1, slots := 6, locals := 28 } : Room)) (fun a U => a = #[(.ref a1)] ∧ Z.Warmed39 U.vm ∧ U.heap = h0) (fun _ _ _ _ _ => True) (fun _ U o U' => ∃ v L, o = .returned v ∧ own_wr2_Q Z a1 ba ka wv w0 w1 w2 w3 w4 w5 u0 u1 u2 u3 u4 u5 y_0 y_1 y_2 y_3 y_4 y_5 kv k_0 k_1 k_2 k_3 k_4 k_5 cs y0 y1 h0 n0 v U'.heap L ∧ FrameEnd U o U' L ({ frames := 2, cells := 1, slots := 6, locals := 28 } : Room).cells ({ frames := 2, cells := 1, slots := 6, locals := 28 } : Room).slots) := by
  refine own_enter (C := ({ frames := 2, cells := 1, slots := 6, locals := 28 } : Room).cells) (S := ({ frames := 2, cells := 1, slots := 6, locals := 28 } : Room).slots) (plainFor_of_name own_pn4) ?_
  intro p e s m below meth c T0 X0 I e0
  obtain ⟨hx, hby, hml, hown, hnm, hret, hlk, hZ⟩ := I
  have N0 := Fr.nil n0
  have O0 := own_extr h0
  refine own_cast (own_ef6 m a1) ?_
  show own_Go _ _ _ _ T0 (mkF m 0 #[.val (.ref a1), .unset, .unset, .unset, .unset] [])
  obtain ⟨v1, T1, L1, hQ1, X1, st1⟩ := own_callS X0 hx hZ (y := (⟨"com/example/overflowstream/overflowstream/Query$Operator", "values", "()[Lcom/example/overflowstream/overflowstream/Query$Operator;"⟩ : MethodName)) hown (own_w33 hw) (own_w34 hw) (own_w31 hw) (own_w35 hw) (by decide) (own_vals l hw [] wv w0 w1 w2 w3 w4 w5 kv h0 n0 (Nat.le_trans Z0 O0.1) (Sv.ext O0) (Vv.ext O0) (Ev.ext O0)) e0 (g := (mkF m 0 #[.val (.ref a1), .unset, .unset, .unset, .unset] [])) rfl (by rw [hml]; rfl) (argsL := []) (rest := []) (lenOf own_pd8 rfl) rfl rfl (W := 0) (Nat.le_of_eq rfl) (hb hby own_d6_0) (by decide) (by decide) (by decide) (by decide)
  obtain ⟨bv, kb, rfl, N1, Et1, gb, sb, Vb⟩ := hQ1
  have O1 := own_extt O0 Et1
  have N1' := Fr.app N0 N1
  refine own_st st1 ?_
  show own_Go _ _ _ _ T1 (mkF m 3 #[.val (.ref a1), .unset, .unset, .unset, .unset] [(.ref bv)])
  refine own_st (fun _ k => XS.astoreN X1.here hx rfl (hb hby own_d6_3) rfl rfl (l' := #[.val (.ref a1), .val (.ref bv), .unset, .unset, .unset]) rfl k) ?_
  show own_Go _ _ _ _ T1 (mkF m 4 #[.val (.ref a1), .val (.ref bv), .unset, .unset, .unset] [])
  refine own_st (fun _ k => XS.aloadN X1.here hx rfl (hb hby own_d6_4) rfl rfl k) ?_
  show own_Go _ _ _ _ T1 (mkF m 5 #[.val (.ref a1), .val (.ref bv), .unset, .unset, .unset] [(.ref bv)])
  refine own_st (own_len X1 hx hZ rfl Vb (g := (mkF m 5 #[.val (.ref a1), .val (.ref bv), .unset, .unset, .unset] [(.ref bv)])) rfl rfl (hb hby own_d6_5)) ?_
  show own_Go _ _ _ _ T1 (mkF m 6 #[.val (.ref a1), .val (.ref bv), .unset, .unset, .unset] [(.int (6 : Int32))])
  refine own_st (fun _ k => XS.istoreN X1.here hx rfl (hb hby own_d6_6) rfl (l' := #[.val (.ref a1), .val (.ref bv), .val (.int (6 : Int32)), .unset, .unset]) rfl k) ?_
  show own_Go _ _ _ _ T1 (mkF m 7 #[.val (.ref a1), .val (.ref bv), .val (.int (6 : Int32)), .unset, .unset] [])
  refine own_st (fun _ k => XS.iconst X1.here hx rfl (hb hby own_d6_7) k) ?_
  show own_Go _ _ _ _ T1 (mkF m 8 #[.val (.ref a1), .val (.ref bv), .val (.int (6 : Int32)), .unset, .unset] [(.int (0 : Int32))])
  refine own_st (fun _ k => XS.istoreN X1.here hx rfl (hb hby own_d6_8) rfl (l' := #[.val (.ref a1), .val (.ref bv), .val (.int (6 : Int32)), .val (.int (0 : Int32)), .unset]) rfl k) ?_
  show own_Go _ _ _ _ T1 (mkF m 9 #[.val (.ref a1), .val (.ref bv), .val (.int (6 : Int32)), .val (.int (0 : Int32)), .unset] [])
  refine own_st (fun _ k => XS.iloadN X1.here hx rfl (hb hby own_d6_9) rfl k) ?_
  show own_Go _ _ _ _ T1 (mkF m 10 #[.val (.ref a1), .val (.ref bv), .val (.int (6 : Int32)), .val (.int (0 : Int32)), .unset] [(.int (0 : Int32))])
  refine own_st (fun _ k => XS.iloadN X1.here hx rfl (hb hby own_d6_10) rfl k) ?_
  show own_Go _ _ _ _ T1 (mkF m 11 #[.val (.ref a1), .val (.ref bv), .val (.int (6 : Int32)), .val (.int (0 : Int32)), .unset] [(.int (6 : Int32)), (.int (0 : Int32))])
  refine own_st (fun _ k => XS.icmpNo X1.here hx rfl (hb hby own_d6_11) rfl (tlt (by decide : (0 : Int32) < (6 : Int32))).2.1 k) ?_
  show own_Go _ _ _ _ T1 (mkF m 14 #[.val (.ref a1), .val (.ref bv), .val (.int (6 : Int32)), .val (.int (0 : Int32)), .unset] [])
  refine own_st (fun _ k => XS.aloadN X1.here hx rfl (hb hby own_d6_14) rfl rfl k) ?_
  show own_Go _ _ _ _ T1 (mkF m 15 #[.val (.ref a1), .val (.ref bv), .val (.int (6 : Int32)), .val (.int (0 : Int32)), .unset] [(.ref bv)])
  refine own_st (fun _ k => XS.iloadN X1.here hx rfl (hb hby own_d6_15) rfl k) ?_
  show own_Go _ _ _ _ T1 (mkF m 16 #[.val (.ref a1), .val (.ref bv), .val (.int (6 : Int32)), .val (.int (0 : Int32)), .unset] [(.int (0 : Int32)), (.ref bv)])
  refine own_st (own_ldR X1 hx hZ rfl Vb rfl (j := (0 : Int32)) (by decide) (v := (.ref w0)) rfl (g := (mkF m 16 #[.val (.ref a1), .val (.ref bv), .val (.int (6 : Int32)), .val (.int (0 : Int32)), .unset] [(.int (0 : Int32)), (.ref bv)])) rfl rfl (hb hby own_d6_16)) ?_
  show own_Go _ _ _ _ T1 (mkF m 17 #[.val (.ref a1), .val (.ref bv), .val (.int (6 : Int32)), .val (.int (0 : Int32)), .unset] [(.ref w0)])
  refine own_st (fun _ k => XS.astore X1.here hx rfl (hb hby own_d6_17) rfl rfl (l' := #[.val (.ref a1), .val (.ref bv), .val (.int (6 : Int32)), .val (.int (0 : Int32)), .val (.ref w0)]) rfl k) ?_
  show own_Go _ _ _ _ T1 (mkF m 19 #[.val (.ref a1), .val (.ref bv), .val (.int (6 : Int32)), .val (.int (0 : Int32)), .val (.ref w0)] [])
  refine own_st (fun _ k => XS.aload X1.here hx rfl (hb hby own_d6_19) rfl rfl k) ?_
  show own_Go _ _ _ _ T1 (mkF m 21 #[.val (.ref a1), .val (.ref bv), .val (.int (6 : Int32)), .val (.int (0 : Int32)), .val (.ref w0)] [(.ref w0)])
  obtain ⟨T2, X2, e2, st2⟩ := getF X1 hx hZ hown (host := "") (Or.inl (own_w54 hw)) Via.refl rfl (Fs0.ext O1) (g := (mkF m 21 #[.val (.ref a1), .val (.ref bv), .val (.int (6 : Int32)), .val (.int (0 : Int32)), .val (.ref w0)] [(.ref w0)])) rfl rfl (hb hby own_d6_21)
  refine own_st st2 ?_
  show own_Go _ _ _ _ T2 (mkF m 24 #[.val (.ref a1), .val (.ref bv), .val (.int (6 : Int32)), .val (.int (0 : Int32)), .val (.ref w0)] [(.ref u0)])
  refine own_st (fun _ k => XS.aloadN X2.here hx rfl (hb hby own_d6_24) rfl rfl k) ?_
  show own_Go _ _ _ _ T2 (mkF m 25 #[.val (.ref a1), .val (.ref bv), .val (.int (6 : Int32)), .val (.int (0 : Int32)), .val (.ref w0)] [(.ref a1), (.ref u0)])
  obtain ⟨v3, T3, L3, hQ3, X3, st3⟩ := own_callV X2 hx hZ (y := (⟨"java/lang/String", "equals", "(Ljava/lang/Object;)Z"⟩ : MethodName)) hown (own_w56 hw) (own_w57 hw) (own_w59 hw) (own_w58 hw) (own_w6 hw) (own_w60 hw) (by decide) (own_se12 l hw [] u0 a1 y_0 ba k_0 ka cs (61 : Int32) y0 y1 T1.heap n0 (Nat.le_trans Z0 O1.1) (Scs.ext O1) hcs dn0 (Ea.ext O1) (Gv0.ext O1) (Gc0.ext O1) (Vy0.ext O1) (Fva.ext O1) (Fca.ext O1) (Va.ext O1)) e2 (Eu0.ext O1) (g := (mkF m 25 #[.val (.ref a1), .val (.ref bv), .val (.int (6 : Int32)), .val (.int (0 : Int32)), .val (.ref w0)] [(.ref a1), (.ref u0)])) rfl (by rw [hml]; rfl) (argsL := [(.ref a1)]) (rest := []) (lenOf own_pd9 rfl) rfl rfl (W := 0) (Nat.le_of_eq rfl) (hb hby own_d6_25) (by decide) (by decide) (by decide) (by decide)
  obtain ⟨rfl, N3, e3⟩ := hQ3
  have N3' := Fr.app N1' N3
  refine own_st st3 ?_
  show own_Go _ _ _ _ T3 (mkF m 28 #[.val (.ref a1), .val (.ref bv), .val (.int (6 : Int32)), .val (.int (0 : Int32)), .val (.ref w0)] [(.int (0 : Int32))])
  refine own_st (fun _ k => XS.ifYes X3.here hx rfl (pc0 := 28) (pc' := 34) rfl (hb hby own_d6_28) rfl ((if0 _ _).trans (teq (by decide : (0 : Int32) = (0 : Int32))).1) (by decide) (by decide) k) ?_
  show own_Go _ _ _ _ T3 (mkF m 34 #[.val (.ref a1), .val (.ref bv), .val (.int (6 : Int32)), .val (.int (0 : Int32)), .val (.ref w0)] [])
  refine own_st (fun _ k => XS.iinc X3.here hx rfl (hb hby own_d6_34) rfl (l' := #[.val (.ref a1), .val (.ref bv), .val (.int (6 : Int32)), .val (.int ((0 : Int32) + (1 : Int32))), .val (.ref w0)]) rfl k) ?_
  show own_Go _ _ _ _ T3 (mkF m 37 #[.val (.ref a1), .val (.ref bv), .val (.int (6 : Int32)), .val (.int ((0 : Int32) + (1 : Int32))), .val (.ref w0)] [])
  rw [show ((0 : Int32) + (1 : Int32)) = (1 : Int32) from by decide]
  show own_Go _ _ _ _ T3 (mkF m 37 #[.val (.ref a1), .val (.ref bv), .val (.int (6 : Int32)), .val (.int (1 : Int32)), .val (.ref w0)] [])
  refine own_st (fun _ k => XS.goto X3.here hx rfl (pc0 := 37) (pc' := 9) rfl (hb hby own_d6_37) (by decide) (by decide) k) ?_
  show own_Go _ _ _ _ T3 (mkF m 9 #[.val (.ref a1), .val (.ref bv), .val (.int (6 : Int32)), .val (.int (1 : Int32)), .val (.ref w0)] [])
  refine own_st (fun _ k => XS.iloadN X3.here hx rfl (hb hby own_d6_9) rfl k) ?_
  show own_Go _ _ _ _ T3 (mkF m 10 #[.val (.ref a1), .val (.ref bv), .val (.int (6 : Int32)), .val (.int (1 : Int32)), .val (.ref w0)] [(.int (1 : Int32))])
  refine own_st (fun _ k => XS.iloadN X3.here hx rfl (hb hby own_d6_10) rfl k) ?_
  show own_Go _ _ _ _ T3 (mkF m 11 #[.val (.ref a1), .val (.ref bv), .val (.int (6 : Int32)), .val (.int (1 : Int32)), .val (.ref w0)] [(.int (6 : Int32)), (.int (1 : Int32))])
  refine own_st (fun _ k => XS.icmpNo X3.here hx rfl (hb hby own_d6_11) rfl (tlt (by decide : (1 : Int32) < (6 : Int32))).2.1 k) ?_
  show own_Go _ _ _ _ T3 (mkF m 14 #[.val (.ref a1), .val (.ref bv), .val (.int (6 : Int32)), .val (.int (1 : Int32)), .val (.ref w0)] [])
  refine own_st (fun _ k => XS.aloadN X3.here hx rfl (hb hby own_d6_14) rfl rfl k) ?_
  show own_Go _ _ _ _ T3 (mkF m 15 #[.val (.ref a1), .val (.ref bv), .val (.int (6 : Int32)), .val (.int (1 : Int32)), .val (.ref w0)] [(.ref bv)])
  refine own_st (fun _ k => XS.iloadN X3.here hx rfl (hb hby own_d6_15) rfl k) ?_
  show own_Go _ _ _ _ T3 (mkF m 16 #[.val (.ref a1), .val (.ref bv), .val (.int (6 : Int32)), .val (.int (1 : Int32)), .val (.ref w0)] [(.int (1 : Int32)), (.ref bv)])
  refine own_st (own_ldR X3 hx hZ e3 Vb rfl (j := (1 : Int32)) (by decide) (v := (.ref w1)) rfl (g := (mkF m 16 #[.val (.ref a1), .val (.ref bv), .val (.int (6 : Int32)), .val (.int (1 : Int32)), .val (.ref w0)] [(.int (1 : Int32)), (.ref bv)])) rfl rfl (hb hby own_d6_16)) ?_
  show own_Go _ _ _ _ T3 (mkF m 17 #[.val (.ref a1), .val (.ref bv), .val (.int (6 : Int32)), .val (.int (1 : Int32)), .val (.ref w0)] [(.ref w1)])
  refine own_st (fun _ k => XS.astore X3.here hx rfl (hb hby own_d6_17) rfl rfl (l' := #[.val (.ref a1), .val (.ref bv), .val (.int (6 : Int32)), .val (.int (1 : Int32)), .val (.ref w1)]) rfl k) ?_
  show own_Go _ _ _ _ T3 (mkF m 19 #[.val (.ref a1), .val (.ref bv), .val (.int (6 : Int32)), .val (.int (1 : Int32)), .val (.ref w1)] [])
  refine own_st (fun _ k => XS.aload X3.here hx rfl (hb hby own_d6_19) rfl rfl k) ?_
  show own_Go _ _ _ _ T3 (mkF m 21 #[.val (.ref a1), .val (.ref bv), .val (.int (6 : Int32)), .val (.int (1 : Int32)), .val (.ref w1)] [(.ref w1)])
  obtain ⟨T4, X4, e4, st4⟩ := getF X3 hx hZ hown (host := "") (Or.inl (own_w54 hw)) Via.refl e3 (Fs1.ext O1) (g := (mkF m 21 #[.val (.ref a1), .val (.ref bv), .val (.int (6 : Int32)), .val (.int (1 : Int32)), .val (.ref w1)] [(.ref w1)])) rfl rfl (hb hby own_d6_21)
  refine own_st st4 ?_
  show own_Go _ _ _ _ T4 (mkF m 24 #[.val (.ref a1), .val (.ref bv), .val (.int (6 : Int32)), .val (.int (1 : Int32)), .val (.ref w1)] [(.ref u1)])
  refine own_st (fun _ k => XS.aloadN X4.here hx rfl (hb hby own_d6_24) rfl rfl k) ?_
  show own_Go _ _ _ _ T4 (mkF m 25 #[.val (.ref a1), .val (.ref bv), .val (.int (6 : Int32)), .val (.int (1 : Int32)), .val (.ref w1)] [(.ref a1), (.ref u1)])
  obtain ⟨v5, T5, L5, hQ5, X5, st5⟩ := own_callV X4 hx hZ (y := (⟨"java/lang/String", "equals", "(Ljava/lang/Object;)Z"⟩ : MethodName)) hown (own_w56 hw) (own_w57 hw) (own_w59 hw) (own_w58 hw) (own_w6 hw) (own_w60 hw) (by decide) (own_se22 l hw [] u1 a1 y_1 ba k_1 ka cs (60 : Int32) (62 : Int32) y0 y1 T1.heap n0 (Nat.le_trans Z0 O1.1) (Scs.ext O1) hcs dn1 (Ea.ext O1) (Gv1.ext O1) (Gc1.ext O1) (Vy1.ext O1) (Fva.ext O1) (Fca.ext O1) (Va.ext O1)) e4 (Eu1.ext O1) (g := (mkF m 25 #[.val (.ref a1), .val (.ref bv), .val (.int (6 : Int32)), .val (.int (1 : Int32)), .val (.ref w1)] [(.ref a1), (.ref u1)])) rfl (by rw [hml]; rfl) (argsL := [(.ref a1)]) (rest := []) (lenOf own_pd9 rfl) rfl rfl (W := 0) (Nat.le_of_eq rfl) (hb hby own_d6_25) (by decide) (by decide) (by decide) (by decide)
  obtain ⟨rfl, N5, e5⟩ := hQ5
  have N5' := Fr.app N3' N5
  refine own_st st5 ?_
  show own_Go _ _ _ _ T5 (mkF m 28 #[.val (.ref a1), .val (.ref bv), .val (.int (6 : Int32)), .val (.int (1 : Int32)), .val (.ref w1)] [(.int (own_eq2 (60 : Int32) (62 : Int32) y0 y1))])
  by_cases hq1 : (own_eq2 (60 : Int32) (62 : Int32) y0 y1) = (0 : Int32)
  · refine own_st (fun _ k => XS.ifYes X5.here hx rfl (pc0 := 28) (pc' := 34) rfl (hb hby own_d6_28) rfl ((if0 _ _).trans (teq (hq1 : (own_eq2 (60 : Int32) (62 : Int32) y0 y1) = (0 : Int32))).1) (by decide) (by decide) k) ?_
    show own_Go _ _ _ _ T5 (mkF m 34 #[.val (.ref a1), .val (.ref bv), .val (.int (6 : Int32)), .val (.int (1 : Int32)), .val (.ref w1)] [])
    refine own_st (fun _ k => XS.iinc X5.here hx rfl (hb hby own_d6_34) rfl (l' := #[.val (.ref a1), .val (.ref bv), .val (.int (6 : Int32)), .val (.int ((1 : Int32) + (1 : Int32))), .val (.ref w1)]) rfl k) ?_
    show own_Go _ _ _ _ T5 (mkF m 37 #[.val (.ref a1), .val (.ref bv), .val (.int (6 : Int32)), .val (.int ((1 : Int32) + (1 : Int32))), .val (.ref w1)] [])
    rw [show ((1 : Int32) + (1 : Int32)) = (2 : Int32) from by decide]
    show own_Go _ _ _ _ T5 (mkF m 37 #[.val (.ref a1), .val (.ref bv), .val (.int (6 : Int32)), .val (.int (2 : Int32)), .val (.ref w1)] [])
    refine own_st (fun _ k => XS.goto X5.here hx rfl (pc0 := 37) (pc' := 9) rfl (hb hby own_d6_37) (by decide) (by decide) k) ?_
    show own_Go _ _ _ _ T5 (mkF m 9 #[.val (.ref a1), .val (.ref bv), .val (.int (6 : Int32)), .val (.int (2 : Int32)), .val (.ref w1)] [])
    refine own_st (fun _ k => XS.iloadN X5.here hx rfl (hb hby own_d6_9) rfl k) ?_
    show own_Go _ _ _ _ T5 (mkF m 10 #[.val (.ref a1), .val (.ref bv), .val (.int (6 : Int32)), .val (.int (2 : Int32)), .val (.ref w1)] [(.int (2 : Int32))])
    refine own_st (fun _ k => XS.iloadN X5.here hx rfl (hb hby own_d6_10) rfl k) ?_
    show own_Go _ _ _ _ T5 (mkF m 11 #[.val (.ref a1), .val (.ref bv), .val (.int (6 : Int32)), .val (.int (2 : Int32)), .val (.ref w1)] [(.int (6 : Int32)), (.int (2 : Int32))])
    refine own_st (fun _ k => XS.icmpNo X5.here hx rfl (hb hby own_d6_11) rfl (tlt (by decide : (2 : Int32) < (6 : Int32))).2.1 k) ?_
    show own_Go _ _ _ _ T5 (mkF m 14 #[.val (.ref a1), .val (.ref bv), .val (.int (6 : Int32)), .val (.int (2 : Int32)), .val (.ref w1)] [])
    refine own_st (fun _ k => XS.aloadN X5.here hx rfl (hb hby own_d6_14) rfl rfl k) ?_
    show own_Go _ _ _ _ T5 (mkF m 15 #[.val (.ref a1), .val (.ref bv), .val (.int (6 : Int32)), .val (.int (2 : Int32)), .val (.ref w1)] [(.ref bv)])
    refine own_st (fun _ k => XS.iloadN X5.here hx rfl (hb hby own_d6_15) rfl k) ?_
    show own_Go _ _ _ _ T5 (mkF m 16 #[.val (.ref a1), .val (.ref bv), .val (.int (6 : Int32)), .val (.int (2 : Int32)), .val (.ref w1)] [(.int (2 : Int32)), (.ref bv)])
    refine own_st (own_ldR X5 hx hZ e5 Vb rfl (j := (2 : Int32)) (by decide) (v := (.ref w2)) rfl (g := (mkF m 16 #[.val (.ref a1), .val (.ref bv), .val (.int (6 : Int32)), .val (.int (2 : Int32)), .val (.ref w1)] [(.int (2 : Int32)), (.ref bv)])) rfl rfl (hb hby own_d6_16)) ?_
    show own_Go _ _ _ _ T5 (mkF m 17 #[.val (.ref a1), .val (.ref bv), .val (.int (6 : Int32)), .val (.int (2 : Int32)), .val (.ref w1)] [(.ref w2)])
    refine own_st (fun _ k => XS.astore X5.here hx rfl (hb hby own_d6_17) rfl rfl (l' := #[.val (.ref a1), .val (.ref bv), .val (.int (6 : Int32)), .val (.int (2 : Int32)), .val (.ref w2)]) rfl k) ?_
    show own_Go _ _ _ _ T5 (mkF m 19 #[.val (.ref a1), .val (.ref bv), .val (.int (6 : Int32)), .val (.int (2 : Int32)), .val (.ref w2)] [])
    refine own_st (fun _ k => XS.aload X5.here hx rfl (hb hby own_d6_19) rfl rfl k) ?_
    show own_Go _ _ _ _ T5 (mkF m 21 #[.val (.ref a1), .val (.ref bv), .val (.int (6 : Int32)), .val (.int (2 : Int32)), .val (.ref w2)] [(.ref w2)])
    obtain ⟨T6, X6, e6, st6⟩ := getF X5 hx hZ hown (host := "") (Or.inl (own_w54 hw)) Via.refl e5 (Fs2.ext O1) (g := (mkF m 21 #[.val (.ref a1), .val (.ref bv), .val (.int (6 : Int32)), .val (.int (2 : Int32)), .val (.ref w2)] [(.ref w2)])) rfl rfl (hb hby own_d6_21)
    refine own_st st6 ?_
    show own_Go _ _ _ _ T6 (mkF m 24 #[.val (.ref a1), .val (.ref bv), .val (.int (6 : Int32)), .val (.int (2 : Int32)), .val (.ref w2)] [(.ref u2)])
    refine own_st (fun _ k => XS.aloadN X6.here hx rfl (hb hby own_d6_24) rfl rfl k) ?_
    show own_Go _ _ _ _ T6 (mkF m 25 #[.val (.ref a1), .val (.ref bv), .val (.int (6 : Int32)), .val (.int (2 : Int32)), .val (.ref w2)] [(.ref a1), (.ref u2)])
    obtain ⟨v7, T7, L7, hQ7, X7, st7⟩ := own_callV X6 hx hZ (y := (⟨"java/lang/String", "equals", "(Ljava/lang/Object;)Z"⟩ : MethodName)) hown (own_w56 hw) (own_w57 hw) (own_w59 hw) (own_w58 hw) (own_w6 hw) (own_w60 hw) (by decide) (own_se12 l hw [] u2 a1 y_2 ba k_2 ka cs (60 : Int32) y0 y1 T1.heap n0 (Nat.le_trans Z0 O1.1) (Scs.ext O1) hcs dn2 (Ea.ext O1) (Gv2.ext O1) (Gc2.ext O1) (Vy2.ext O1) (Fva.ext O1) (Fca.ext O1) (Va.ext O1)) e6 (Eu2.ext O1) (g := (mkF m 25 #[.val (.ref a1), .val (.ref bv), .val (.int (6 : Int32)), .val (.int (2 : Int32)), .val (.ref w2)] [(.ref a1), (.ref u2)])) rfl (by rw [hml]; rfl) (argsL := [(.ref a1)]) (rest := []) (lenOf own_pd9 rfl) rfl rfl (W := 0) (Nat.le_of_eq rfl) (hb hby own_d6_25) (by decide) (by decide) (by decide) (by decide)
    obtain ⟨rfl, N7, e7⟩ := hQ7
    have N7' := Fr.app N5' N7
    refine own_st st7 ?_
    show own_Go _ _ _ _ T7 (mkF m 28 #[.val (.ref a1), .val (.ref bv), .val (.int (6 : Int32)), .val (.int (2 : Int32)), .val (.ref w2)] [(.int (0 : Int32))])
    refine own_st (fun _ k => XS.ifYes X7.here hx rfl (pc0 := 28) (pc' := 34) rfl (hb hby own_d6_28) rfl ((if0 _ _).trans (teq (by decide : (0 : Int32) = (0 : Int32))).1) (by decide) (by decide) k) ?_
    show own_Go _ _ _ _ T7 (mkF m 34 #[.val (.ref a1), .val (.ref bv), .val (.int (6 : Int32)), .val (.int (2 : Int32)), .val (.ref w2)] [])
    refine own_st (fun _ k => XS.iinc X7.here hx rfl (hb hby own_d6_34) rfl (l' := #[.val (.ref a1), .val (.ref bv), .val (.int (6 : Int32)), .val (.int ((2 : Int32) + (1 : Int32))), .val (.ref w2)]) rfl k) ?_
    show own_Go _ _ _ _ T7 (mkF m 37 #[.val (.ref a1), .val (.ref bv), .val (.int (6 : Int32)), .val (.int ((2 : Int32) + (1 : Int32))), .val (.ref w2)] [])
    rw [show ((2 : Int32) + (1 : Int32)) = (3 : Int32) from by decide]
    show own_Go _ _ _ _ T7 (mkF m 37 #[.val (.ref a1), .val (.ref bv), .val (.int (6 : Int32)), .val (.int (3 : Int32)), .val (.ref w2)] [])
    refine own_st (fun _ k => XS.goto X7.here hx rfl (pc0 := 37) (pc' := 9) rfl (hb hby own_d6_37) (by decide) (by decide) k) ?_
    show own_Go _ _ _ _ T7 (mkF m 9 #[.val (.ref a1), .val (.ref bv), .val (.int (6 : Int32)), .val (.int (3 : Int32)), .val (.ref w2)] [])
    refine own_st (fun _ k => XS.iloadN X7.here hx rfl (hb hby own_d6_9) rfl k) ?_
    show own_Go _ _ _ _ T7 (mkF m 10 #[.val (.ref a1), .val (.ref bv), .val (.int (6 : Int32)), .val (.int (3 : Int32)), .val (.ref w2)] [(.int (3 : Int32))])
    refine own_st (fun _ k => XS.iloadN X7.here hx rfl (hb hby own_d6_10) rfl k) ?_
    show own_Go _ _ _ _ T7 (mkF m 11 #[.val (.ref a1), .val (.ref bv), .val (.int (6 : Int32)), .val (.int (3 : Int32)), .val (.ref w2)] [(.int (6 : Int32)), (.int (3 : Int32))])
    refine own_st (fun _ k => XS.icmpNo X7.here hx rfl (hb hby own_d6_11) rfl (tlt (by decide : (3 : Int32) < (6 : Int32))).2.1 k) ?_
    show own_Go _ _ _ _ T7 (mkF m 14 #[.val (.ref a1), .val (.ref bv), .val (.int (6 : Int32)), .val (.int (3 : Int32)), .val (.ref w2)] [])
    refine own_st (fun _ k => XS.aloadN X7.here hx rfl (hb hby own_d6_14) rfl rfl k) ?_
    show own_Go _ _ _ _ T7 (mkF m 15 #[.val (.ref a1), .val (.ref bv), .val (.int (6 : Int32)), .val (.int (3 : Int32)), .val (.ref w2)] [(.ref bv)])
    refine own_st (fun _ k => XS.iloadN X7.here hx rfl (hb hby own_d6_15) rfl k) ?_
    show own_Go _ _ _ _ T7 (mkF m 16 #[.val (.ref a1), .val (.ref bv), .val (.int (6 : Int32)), .val (.int (3 : Int32)), .val (.ref w2)] [(.int (3 : Int32)), (.ref bv)])
    refine own_st (own_ldR X7 hx hZ e7 Vb rfl (j := (3 : Int32)) (by decide) (v := (.ref w3)) rfl (g := (mkF m 16 #[.val (.ref a1), .val (.ref bv), .val (.int (6 : Int32)), .val (.int (3 : Int32)), .val (.ref w2)] [(.int (3 : Int32)), (.ref bv)])) rfl rfl (hb hby own_d6_16)) ?_
    show own_Go _ _ _ _ T7 (mkF m 17 #[.val (.ref a1), .val (.ref bv), .val (.int (6 : Int32)), .val (.int (3 : Int32)), .val (.ref w2)] [(.ref w3)])
    refine own_st (fun _ k => XS.astore X7.here hx rfl (hb hby own_d6_17) rfl rfl (l' := #[.val (.ref a1), .val (.ref bv), .val (.int (6 : Int32)), .val (.int (3 : Int32)), .val (.ref w3)]) rfl k) ?_
    show own_Go _ _ _ _ T7 (mkF m 19 #[.val (.ref a1), .val (.ref bv), .val (.int (6 : Int32)), .val (.int (3 : Int32)), .val (.ref w3)] [])
    refine own_st (fun _ k => XS.aload X7.here hx rfl (hb hby own_d6_19) rfl rfl k) ?_
    show own_Go _ _ _ _ T7 (mkF m 21 #[.val (.ref a1), .val (.ref bv), .val (.int (6 : Int32)), .val (.int (3 : Int32)), .val (.ref w3)] [(.ref w3)])
    obtain ⟨T8, X8, e8, st8⟩ := getF X7 hx hZ hown (host := "") (Or.inl (own_w54 hw)) Via.refl e7 (Fs3.ext O1) (g := (mkF m 21 #[.val (.ref a1), .val (.ref bv), .val (.int (6 : Int32)), .val (.int (3 : Int32)), .val (.ref w3)] [(.ref w3)])) rfl rfl (hb hby own_d6_21)
    refine own_st st8 ?_
    show own_Go _ _ _ _ T8 (mkF m 24 #[.val (.ref a1), .val (.ref bv), .val (.int (6 : Int32)), .val (.int (3 : Int32)), .val (.ref w3)] [(.ref u3)])
    refine own_st (fun _ k => XS.aloadN X8.here hx rfl (hb hby own_d6_24) rfl rfl k) ?_
    show own_Go _ _ _ _ T8 (mkF m 25 #[.val (.ref a1), .val (.ref bv), .val (.int (6 : Int32)), .val (.int (3 : Int32)), .val (.ref w3)] [(.ref a1), (.ref u3)])
    obtain ⟨v9, T9, L9, hQ9, X9, st9⟩ := own_callV X8 hx hZ (y := (⟨"java/lang/String", "equals", "(Ljava/lang/Object;)Z"⟩ : MethodName)) hown (own_w56 hw) (own_w57 hw) (own_w59 hw) (own_w58 hw) (own_w6 hw) (own_w60 hw) (by decide) (own_se22 l hw [] u3 a1 y_3 ba k_3 ka cs (60 : Int32) (61 : Int32) y0 y1 T1.heap n0 (Nat.le_trans Z0 O1.1) (Scs.ext O1) hcs dn3 (Ea.ext O1) (Gv3.ext O1) (Gc3.ext O1) (Vy3.ext O1) (Fva.ext O1) (Fca.ext O1) (Va.ext O1)) e8 (Eu3.ext O1) (g := (mkF m 25 #[.val (.ref a1), .val (.ref bv), .val (.int (6 : Int32)), .val (.int (3 : Int32)), .val (.ref w3)] [(.ref a1), (.ref u3)])) rfl (by rw [hml]; rfl) (argsL := [(.ref a1)]) (rest := []) (lenOf own_pd9 rfl) rfl rfl (W := 0) (Nat.le_of_eq rfl) (hb hby own_d6_25) (by decide) (by decide) (by decide) (by decide)
    obtain ⟨rfl, N9, e9⟩ := hQ9
    have N9' := Fr.app N7' N9
    refine own_st st9 ?_
    show own_Go _ _ _ _ T9 (mkF m 28 #[.val (.ref a1), .val (.ref bv), .val (.int (6 : Int32)), .val (.int (3 : Int32)), .val (.ref w3)] [(.int (own_eq2 (60 : Int32) (61 : Int32) y0 y1))])
    by_cases hq3 : (own_eq2 (60 : Int32) (61 : Int32) y0 y1) = (0 : Int32)
    · refine own_st (fun _ k => XS.ifYes X9.here hx rfl (pc0 := 28) (pc' := 34) rfl (hb hby own_d6_28) rfl ((if0 _ _).trans (teq (hq3 : (own_eq2 (60 : Int32) (61 : Int32) y0 y1) = (0 : Int32))).1) (by decide) (by decide) k) ?_
      show own_Go _ _ _ _ T9 (mkF m 34 #[.val (.ref a1), .val (.ref bv), .val (.int (6 : Int32)), .val (.int (3 : Int32)), .val (.ref w3)] [])
      refine own_st (fun _ k => XS.iinc X9.here hx rfl (hb hby own_d6_34) rfl (l' := #[.val (.ref a1), .val (.ref bv), .val (.int (6 : Int32)), .val (.int ((3 : Int32) + (1 : Int32))), .val (.ref w3)]) rfl k) ?_
      show own_Go _ _ _ _ T9 (mkF m 37 #[.val (.ref a1), .val (.ref bv), .val (.int (6 : Int32)), .val (.int ((3 : Int32) + (1 : Int32))), .val (.ref w3)] [])
      rw [show ((3 : Int32) + (1 : Int32)) = (4 : Int32) from by decide]
      show own_Go _ _ _ _ T9 (mkF m 37 #[.val (.ref a1), .val (.ref bv), .val (.int (6 : Int32)), .val (.int (4 : Int32)), .val (.ref w3)] [])
      refine own_st (fun _ k => XS.goto X9.here hx rfl (pc0 := 37) (pc' := 9) rfl (hb hby own_d6_37) (by decide) (by decide) k) ?_
      show own_Go _ _ _ _ T9 (mkF m 9 #[.val (.ref a1), .val (.ref bv), .val (.int (6 : Int32)), .val (.int (4 : Int32)), .val (.ref w3)] [])
      refine own_st (fun _ k => XS.iloadN X9.here hx rfl (hb hby own_d6_9) rfl k) ?_
      show own_Go _ _ _ _ T9 (mkF m 10 #[.val (.ref a1), .val (.ref bv), .val (.int (6 : Int32)), .val (.int (4 : Int32)), .val (.ref w3)] [(.int (4 : Int32))])
      refine own_st (fun _ k => XS.iloadN X9.here hx rfl (hb hby own_d6_10) rfl k) ?_
      show own_Go _ _ _ _ T9 (mkF m 11 #[.val (.ref a1), .val (.ref bv), .val (.int (6 : Int32)), .val (.int (4 : Int32)), .val (.ref w3)] [(.int (6 : Int32)), (.int (4 : Int32))])
      refine own_st (fun _ k => XS.icmpNo X9.here hx rfl (hb hby own_d6_11) rfl (tlt (by decide : (4 : Int32) < (6 : Int32))).2.1 k) ?_
      show own_Go _ _ _ _ T9 (mkF m 14 #[.val (.ref a1), .val (.ref bv), .val (.int (6 : Int32)), .val (.int (4 : Int32)), .val (.ref w3)] [])
      refine own_st (fun _ k => XS.aloadN X9.here hx rfl (hb hby own_d6_14) rfl rfl k) ?_
      show own_Go _ _ _ _ T9 (mkF m 15 #[.val (.ref a1), .val (.ref bv), .val (.int (6 : Int32)), .val (.int (4 : Int32)), .val (.ref w3)] [(.ref bv)])
      refine own_st (fun _ k => XS.iloadN X9.here hx rfl (hb hby own_d6_15) rfl k) ?_
      show own_Go _ _ _ _ T9 (mkF m 16 #[.val (.ref a1), .val (.ref bv), .val (.int (6 : Int32)), .val (.int (4 : Int32)), .val (.ref w3)] [(.int (4 : Int32)), (.ref bv)])
      refine own_st (own_ldR X9 hx hZ e9 Vb rfl (j := (4 : Int32)) (by decide) (v := (.ref w4)) rfl (g := (mkF m 16 #[.val (.ref a1), .val (.ref bv), .val (.int (6 : Int32)), .val (.int (4 : Int32)), .val (.ref w3)] [(.int (4 : Int32)), (.ref bv)])) rfl rfl (hb hby own_d6_16)) ?_
      show own_Go _ _ _ _ T9 (mkF m 17 #[.val (.ref a1), .val (.ref bv), .val (.int (6 : Int32)), .val (.int (4 : Int32)), .val (.ref w3)] [(.ref w4)])
      refine own_st (fun _ k => XS.astore X9.here hx rfl (hb hby own_d6_17) rfl rfl (l' := #[.val (.ref a1), .val (.ref bv), .val (.int (6 : Int32)), .val (.int (4 : Int32)), .val (.ref w4)]) rfl k) ?_
      show own_Go _ _ _ _ T9 (mkF m 19 #[.val (.ref a1), .val (.ref bv), .val (.int (6 : Int32)), .val (.int (4 : Int32)), .val (.ref w4)] [])
      refine own_st (fun _ k => XS.aload X9.here hx rfl (hb hby own_d6_19) rfl rfl k) ?_
      show own_Go _ _ _ _ T9 (mkF m 21 #[.val (.ref a1), .val (.ref bv), .val (.int (6 : Int32)), .val (.int (4 : Int32)), .val (.ref w4)] [(.ref w4)])
      obtain ⟨T10, X10, e10, st10⟩ := getF X9 hx hZ hown (host := "") (Or.inl (own_w54 hw)) Via.refl e9 (Fs4.ext O1) (g := (mkF m 21 #[.val (.ref a1), .val (.ref bv), .val (.int (6 : Int32)), .val (.int (4 : Int32)), .val (.ref w4)] [(.ref w4)])) rfl rfl (hb hby own_d6_21)
      refine own_st st10 ?_
      show own_Go _ _ _ _ T10 (mkF m 24 #[.val (.ref a1), .val (.ref bv), .val (.int (6 : Int32)), .val (.int (4 : Int32)), .val (.ref w4)] [(.ref u4)])
      refine own_st (fun _ k => XS.aloadN X10.here hx rfl (hb hby own_d6_24) rfl rfl k) ?_
      show own_Go _ _ _ _ T10 (mkF m 25 #[.val (.ref a1), .val (.ref bv), .val (.int (6 : Int32)), .val (.int (4 : Int32)), .val (.ref w4)] [(.ref a1), (.ref u4)])
      obtain ⟨v11, T11, L11, hQ11, X11, st11⟩ := own_callV X10 hx hZ (y := (⟨"java/lang/String", "equals", "(Ljava/lang/Object;)Z"⟩ : MethodName)) hown (own_w56 hw) (own_w57 hw) (own_w59 hw) (own_w58 hw) (own_w6 hw) (own_w60 hw) (by decide) (own_se12 l hw [] u4 a1 y_4 ba k_4 ka cs (62 : Int32) y0 y1 T1.heap n0 (Nat.le_trans Z0 O1.1) (Scs.ext O1) hcs dn4 (Ea.ext O1) (Gv4.ext O1) (Gc4.ext O1) (Vy4.ext O1) (Fva.ext O1) (Fca.ext O1) (Va.ext O1)) e10 (Eu4.ext O1) (g := (mkF m 25 #[.val (.ref a1), .val (.ref bv), .val (.int (6 : Int32)), .val (.int (4 : Int32)), .val (.ref w4)] [(.ref a1), (.ref u4)])) rfl (by rw [hml]; rfl) (argsL := [(.ref a1)]) (rest := []) (lenOf own_pd9 rfl) rfl rfl (W := 0) (Nat.le_of_eq rfl) (hb hby own_d6_25) (by decide) (by decide) (by decide) (by decide)
      obtain ⟨rfl, N11, e11⟩ := hQ11
      have N11' := Fr.app N9' N11
      refine own_st st11 ?_
      show own_Go _ _ _ _ T11 (mkF m 28 #[.val (.ref a1), .val (.ref bv), .val (.int (6 : Int32)), .val (.int (4 : Int32)), .val (.ref w4)] [(.int (0 : Int32))])
      refine own_st (fun _ k => XS.ifYes X11.here hx rfl (pc0 := 28) (pc' := 34) rfl (hb hby own_d6_28) rfl ((if0 _ _).trans (teq (by decide : (0 : Int32) = (0 : Int32))).1) (by decide) (by decide) k) ?_
      show own_Go _ _ _ _ T11 (mkF m 34 #[.val (.ref a1), .val (.ref bv), .val (.int (6 : Int32)), .val (.int (4 : Int32)), .val (.ref w4)] [])
      refine own_st (fun _ k => XS.iinc X11.here hx rfl (hb hby own_d6_34) rfl (l' := #[.val (.ref a1), .val (.ref bv), .val (.int (6 : Int32)), .val (.int ((4 : Int32) + (1 : Int32))), .val (.ref w4)]) rfl k) ?_
      show own_Go _ _ _ _ T11 (mkF m 37 #[.val (.ref a1), .val (.ref bv), .val (.int (6 : Int32)), .val (.int ((4 : Int32) + (1 : Int32))), .val (.ref w4)] [])
      rw [show ((4 : Int32) + (1 : Int32)) = (5 : Int32) from by decide]
      show own_Go _ _ _ _ T11 (mkF m 37 #[.val (.ref a1), .val (.ref bv), .val (.int (6 : Int32)), .val (.int (5 : Int32)), .val (.ref w4)] [])
      refine own_st (fun _ k => XS.goto X11.here hx rfl (pc0 := 37) (pc' := 9) rfl (hb hby own_d6_37) (by decide) (by decide) k) ?_
      show own_Go _ _ _ _ T11 (mkF m 9 #[.val (.ref a1), .val (.ref bv), .val (.int (6 : Int32)), .val (.int (5 : Int32)), .val (.ref w4)] [])
      refine own_st (fun _ k => XS.iloadN X11.here hx rfl (hb hby own_d6_9) rfl k) ?_
      show own_Go _ _ _ _ T11 (mkF m 10 #[.val (.ref a1), .val (.ref bv), .val (.int (6 : Int32)), .val (.int (5 : Int32)), .val (.ref w4)] [(.int (5 : Int32))])
      refine own_st (fun _ k => XS.iloadN X11.here hx rfl (hb hby own_d6_10) rfl k) ?_
      show own_Go _ _ _ _ T11 (mkF m 11 #[.val (.ref a1), .val (.ref bv), .val (.int (6 : Int32)), .val (.int (5 : Int32)), .val (.ref w4)] [(.int (6 : Int32)), (.int (5 : Int32))])
      refine own_st (fun _ k => XS.icmpNo X11.here hx rfl (hb hby own_d6_11) rfl (tlt (by decide : (5 : Int32) < (6 : Int32))).2.1 k) ?_
      show own_Go _ _ _ _ T11 (mkF m 14 #[.val (.ref a1), .val (.ref bv), .val (.int (6 : Int32)), .val (.int (5 : Int32)), .val (.ref w4)] [])
      refine own_st (fun _ k => XS.aloadN X11.here hx rfl (hb hby own_d6_14) rfl rfl k) ?_
      show own_Go _ _ _ _ T11 (mkF m 15 #[.val (.ref a1), .val (.ref bv), .val (.int (6 : Int32)), .val (.int (5 : Int32)), .val (.ref w4)] [(.ref bv)])
      refine own_st (fun _ k => XS.iloadN X11.here hx rfl (hb hby own_d6_15) rfl k) ?_
      show own_Go _ _ _ _ T11 (mkF m 16 #[.val (.ref a1), .val (.ref bv), .val (.int (6 : Int32)), .val (.int (5 : Int32)), .val (.ref w4)] [(.int (5 : Int32)), (.ref bv)])
      refine own_st (own_ldR X11 hx hZ e11 Vb rfl (j := (5 : Int32)) (by decide) (v := (.ref w5)) rfl (g := (mkF m 16 #[.val (.ref a1), .val (.ref bv), .val (.int (6 : Int32)), .val (.int (5 : Int32)), .val (.ref w4)] [(.int (5 : Int32)), (.ref bv)])) rfl rfl (hb hby own_d6_16)) ?_
      show own_Go _ _ _ _ T11 (mkF m 17 #[.val (.ref a1), .val (.ref bv), .val (.int (6 : Int32)), .val (.int (5 : Int32)), .val (.ref w4)] [(.ref w5)])
      refine own_st (fun _ k => XS.astore X11.here hx rfl (hb hby own_d6_17) rfl rfl (l' := #[.val (.ref a1), .val (.ref bv), .val (.int (6 : Int32)), .val (.int (5 : Int32)), .val (.ref w5)]) rfl k) ?_
      show own_Go _ _ _ _ T11 (mkF m 19 #[.val (.ref a1), .val (.ref bv), .val (.int (6 : Int32)), .val (.int (5 : Int32)), .val (.ref w5)] [])
      refine own_st (fun _ k => XS.aload X11.here hx rfl (hb hby own_d6_19) rfl rfl k) ?_
      show own_Go _ _ _ _ T11 (mkF m 21 #[.val (.ref a1), .val (.ref bv), .val (.int (6 : Int32)), .val (.int (5 : Int32)), .val (.ref w5)] [(.ref w5)])
      obtain ⟨T12, X12, e12, st12⟩ := getF X11 hx hZ hown (host := "") (Or.inl (own_w54 hw)) Via.refl e11 (Fs5.ext O1) (g := (mkF m 21 #[.val (.ref a1), .val (.ref bv), .val (.int (6 : Int32)), .val (.int (5 : Int32)), .val (.ref w5)] [(.ref w5)])) rfl rfl (hb hby own_d6_21)
      refine own_st st12 ?_
      show own_Go _ _ _ _ T12 (mkF m 24 #[.val (.ref a1), .val (.ref bv), .val (.int (6 : Int32)), .val (.int (5 : Int32)), .val (.ref w5)] [(.ref u5)])
      refine own_st (fun _ k => XS.aloadN X12.here hx rfl (hb hby own_d6_24) rfl rfl k) ?_
      show own_Go _ _ _ _ T12 (mkF m 25 #[.val (.ref a1), .val (.ref bv), .val (.int (6 : Int32)), .val (.int (5 : Int32)), .val (.ref w5)] [(.ref a1), (.ref u5)])
      obtain ⟨v13, T13, L13, hQ13, X13, st13⟩ := own_callV X12 hx hZ (y := (⟨"java/lang/String", "equals", "(Ljava/lang/Object;)Z"⟩ : MethodName)) hown (own_w56 hw) (own_w57 hw) (own_w59 hw) (own_w58 hw) (own_w6 hw) (own_w60 hw) (by decide) (own_se22 l hw [] u5 a1 y_5 ba k_5 ka cs (62 : Int32) (61 : Int32) y0 y1 T1.heap n0 (Nat.le_trans Z0 O1.1) (Scs.ext O1) hcs dn5 (Ea.ext O1) (Gv5.ext O1) (Gc5.ext O1) (Vy5.ext O1) (Fva.ext O1) (Fca.ext O1) (Va.ext O1)) e12 (Eu5.ext O1) (g := (mkF m 25 #[.val (.ref a1), .val (.ref bv), .val (.int (6 : Int32)), .val (.int (5 : Int32)), .val (.ref w5)] [(.ref a1), (.ref u5)])) rfl (by rw [hml]; rfl) (argsL := [(.ref a1)]) (rest := []) (lenOf own_pd9 rfl) rfl rfl (W := 0) (Nat.le_of_eq rfl) (hb hby own_d6_25) (by decide) (by decide) (by decide) (by decide)
      obtain ⟨rfl, N13, e13⟩ := hQ13
      have N13' := Fr.app N11' N13
      refine own_st st13 ?_
      show own_Go _ _ _ _ T13 (mkF m 28 #[.val (.ref a1), .val (.ref bv), .val (.int (6 : Int32)), .val (.int (5 : Int32)), .val (.ref w5)] [(.int (own_eq2 (62 : Int32) (61 : Int32) y0 y1))])
      by_cases hq5 : (own_eq2 (62 : Int32) (61 : Int32) y0 y1) = (0 : Int32)
      · refine own_st (fun _ k => XS.ifYes X13.here hx rfl (pc0 := 28) (pc' := 34) rfl (hb hby own_d6_28) rfl ((if0 _ _).trans (teq (hq5 : (own_eq2 (62 : Int32) (61 : Int32) y0 y1) = (0 : Int32))).1) (by decide) (by decide) k) ?_
        show own_Go _ _ _ _ T13 (mkF m 34 #[.val (.ref a1), .val (.ref bv), .val (.int (6 : Int32)), .val (.int (5 : Int32)), .val (.ref w5)] [])
        refine own_st (fun _ k => XS.iinc X13.here hx rfl (hb hby own_d6_34) rfl (l' := #[.val (.ref a1), .val (.ref bv), .val (.int (6 : Int32)), .val (.int ((5 : Int32) + (1 : Int32))), .val (.ref w5)]) rfl k) ?_
        show own_Go _ _ _ _ T13 (mkF m 37 #[.val (.ref a1), .val (.ref bv), .val (.int (6 : Int32)), .val (.int ((5 : Int32) + (1 : Int32))), .val (.ref w5)] [])
        rw [show ((5 : Int32) + (1 : Int32)) = (6 : Int32) from by decide]
        show own_Go _ _ _ _ T13 (mkF m 37 #[.val (.ref a1), .val (.ref bv), .val (.int (6 : Int32)), .val (.int (6 : Int32)), .val (.ref w5)] [])
        refine own_st (fun _ k => XS.goto X13.here hx rfl (pc0 := 37) (pc' := 9) rfl (hb hby own_d6_37) (by decide) (by decide) k) ?_
        show own_Go _ _ _ _ T13 (mkF m 9 #[.val (.ref a1), .val (.ref bv), .val (.int (6 : Int32)), .val (.int (6 : Int32)), .val (.ref w5)] [])
        refine own_st (fun _ k => XS.iloadN X13.here hx rfl (hb hby own_d6_9) rfl k) ?_
        show own_Go _ _ _ _ T13 (mkF m 10 #[.val (.ref a1), .val (.ref bv), .val (.int (6 : Int32)), .val (.int (6 : Int32)), .val (.ref w5)] [(.int (6 : Int32))])
        refine own_st (fun _ k => XS.iloadN X13.here hx rfl (hb hby own_d6_10) rfl k) ?_
        show own_Go _ _ _ _ T13 (mkF m 11 #[.val (.ref a1), .val (.ref bv), .val (.int (6 : Int32)), .val (.int (6 : Int32)), .val (.ref w5)] [(.int (6 : Int32)), (.int (6 : Int32))])
        refine own_st (fun _ k => XS.icmpYes X13.here hx rfl (pc0 := 11) (pc' := 40) rfl (hb hby own_d6_11) rfl (flt (by decide : ¬ ((6 : Int32) < (6 : Int32)))).2.1 (by decide) (by decide) k) ?_
        show own_Go _ _ _ _ T13 (mkF m 40 #[.val (.ref a1), .val (.ref bv), .val (.int (6 : Int32)), .val (.int (6 : Int32)), .val (.ref w5)] [])
        refine own_st (fun _ k => XS.aconstNull X13.here hx rfl (hb hby own_d6_40) k) ?_
        show own_Go _ _ _ _ T13 (mkF m 41 #[.val (.ref a1), .val (.ref bv), .val (.int (6 : Int32)), .val (.int (6 : Int32)), .val (.ref w5)] [.null])
        exact own_retA X13 hx hret rfl hlk rfl (hb hby own_d6_41) ⟨by simp [own_wv1, own_wv2, *], N13', by rw [e13]; exact O1⟩ (by decide) (by decide)
      · refine own_st (fun _ k => XS.ifNo X13.here hx rfl (hb hby own_d6_28) rfl ((if0 _ _).trans (feq (hq5 : ¬ ((own_eq2 (62 : Int32) (61 : Int32) y0 y1) = (0 : Int32)))).1) k) ?_
        show own_Go _ _ _ _ T13 (mkF m 31 #[.val (.ref a1), .val (.ref bv), .val (.int (6 : Int32)), .val (.int (5 : Int32)), .val (.ref w5)] [])
        refine own_st (fun _ k => XS.aload X13.here hx rfl (hb hby own_d6_31) rfl rfl k) ?_
        show own_Go _ _ _ _ T13 (mkF m 33 #[.val (.ref a1), .val (.ref bv), .val (.int (6 : Int32)), .val (.int (5 : Int32)), .val (.ref w5)] [(.ref w5)])
        exact own_retA X13 hx hret rfl hlk rfl (hb hby own_d6_33) ⟨by simp [own_wv1, own_wv2, *], N13', by rw [e13]; exact O1⟩ (by decide) (by decide)
    · refine own_st (fun _ k => XS.ifNo X9.here hx rfl (hb hby own_d6_28) rfl ((if0 _ _).trans (feq (hq3 : ¬ ((own_eq2 (60 : Int32) (61 : Int32) y0 y1) = (0 : Int32)))).1) k) ?_
      show own_Go _ _ _ _ T9 (mkF m 31 #[.val (.ref a1), .val (.ref bv), .val (.int (6 : Int32)), .val (.int (3 : Int32)), .val (.ref w3)] [])
      refine own_st (fun _ k => XS.aload X9.here hx rfl (hb hby own_d6_31) rfl rfl k) ?_
      show own_Go _ _ _ _ T9 (mkF m 33 #[.val (.ref a1), .val (.ref bv), .val (.int (6 : Int32)), .val (.int (3 : Int32)), .val (.ref w3)] [(.ref w3)])
      exact own_retA X9 hx hret rfl hlk rfl (hb hby own_d6_33) ⟨by simp [own_wv1, own_wv2, *], N9', by rw [e9]; exact O1⟩ (by decide) (by decide)
  · refine own_st (fun _ k => XS.ifNo X5.here hx rfl (hb hby own_d6_28) rfl ((if0 _ _).trans (feq (hq1 : ¬ ((own_eq2 (60 : Int32) (62 : Int32) y0 y1) = (0 : Int32)))).1) k) ?_
    show own_Go _ _ _ _ T5 (mkF m 31 #[.val (.ref a1), .val (.ref bv), .val (.int (6 : Int32)), .val (.int (1 : Int32)), .val (.ref w1)] [])
    refine own_st (fun _ k => XS.aload X5.here hx rfl (hb hby own_d6_31) rfl rfl k) ?_
    show own_Go _ _ _ _ T5 (mkF m 33 #[.val (.ref a1), .val (.ref bv), .val (.int (6 : Int32)), .val (.int (1 : Int32)), .val (.ref w1)] [(.ref w1)])
    exact own_retA X5 hx hret rfl hlk rfl (hb hby own_d6_33) ⟨by simp [own_wv1, own_wv2, *], N5', by rw [e5]; exact O1⟩ (by decide) (by decide)
def own_wr3_Q (Z : State) (a1 ba : Addr) (ka : ClassId) (wv w0 w1 w2 w3 w4 w5 u0 u1 u2 u3 u4 u5 y_0 y_1 y_2 y_3 y_4 y_5 : Addr) (kv k_0 k_1 k_2 k_3 k_4 k_5 : ClassId) (cs : Int32) (y0 y1 y2 : Int32) (h0 : Heap) (n0 : Nat) (v : Option Value) (h : Heap) (L : List Loc) : Prop := v = some .null ∧ Fr n0 L ∧ Ext h0 h
set_option maxRecDepth 65536 in
set_option maxHeartbeats 40000000 in
theorem own_wr3 (l : Launch) {Z : State} {a0 : Array Value} (hw : own_W Z a0) (ws : List Jvm.Cond) (a1 ba : Addr) (ka : ClassId) (wv w0 w1 w2 w3 w4 w5 u0 u1 u2 u3 u4 u5 y_0 y_1 y_2 y_3 y_4 y_5 : Addr) (kv k_0 k_1 k_2 k_3 k_4 k_5 : ClassId) (cs : Int32) (y0 y1 y2 : Int32) (h0 : Heap) (n0 : Nat) (Z0 : n0 ≤ h0.size) (Scs : Sta Z h0 "java/lang/String" "COMPACT_STRINGS" "Z" (.int cs)) (hcs : ¬ cs = 0) (Sv : Sta Z h0 "com/example/overflowstream/overflowstream/Query$Operator" "$VALUES" "[Lcom/example/overflowstream/overflowstream/Query$Operator;" (.ref wv)) (Vv : Arv Z h0 wv kv (.object "com/example/overflowstream/overflowstream/Query$Operator") 6 [(.ref w0), (.ref w1), (.ref w2), (.ref w3), (.ref w4), (.ref w5)] .null) (Ev : Exa Z h0 wv "[Lcom/example/overflowstream/overflowstream/Query$Operator;") (Fs0 : Fld Z h0 w0 "com/example/overflowstream/overflowstream/Query$Operator" "symbol" "Ljava/lang/String;" (.ref u0)) (Eu0 : Exa Z h0 u0 "java/lang/String") (Gv0 : Fld Z h0 u0 "java/lang/String" "value" "[B" (.ref y_0)) (Gc0 : Fld Z h0 u0 "java/lang/String" "coder" "B" (.int (0 : Int32))) (Vy0 : Arv Z h0 y_0 k_0 .byte (1 : Int32) [(.int (61 : Int32))] (.int (0 : Int32))) (Fs1 : Fld Z h0 w1 "com/example/overflowstream/overflowstream/Query$Operator" "symbol" "Ljava/lang/String;" (.ref u1)) (Eu1 : Exa Z h0 u1 "java/lang/String") (Gv1 : Fld Z h0 u1 "java/lang/String" "value" "[B" (.ref y_1)) (Gc1 : Fld Z h0 u1 "java/lang/String" "coder" "B" (.int (0 : Int32))) (Vy1 : Arv Z h0 y_1 k_1 .byte (2 : Int32) [(.int (60 : Int32)), (.int (62 : Int32))] (.int (0 : Int32))) (Fs2 : Fld Z h0 w2 "com/example/overflowstream/overflowstream/Query$Operator" "symbol" "Ljava/lang/String;" (.ref u2)) (Eu2 : Exa Z h0 u2 "java/lang/String") (Gv2 : Fld Z h0 u2 "java/lang/String" "value" "[B" (.ref y_2)) (Gc2 : Fld Z h0 u2 "java/lang/String" "coder" "B" (.int (0 : Int32))) (Vy2 : Arv Z h0 y_2 k_2 .byte (1 : Int32) [(.int (60 : Int32))] (.int (0 : Int32))) (Fs3 : Fld Z h0 w3 "com/example/overflowstream/overflowstream/Query$Operator" "symbol" "Ljava/lang/String;" (.ref u3)) (Eu3 : Exa Z h0 u3 "java/lang/String") (Gv3 : Fld Z h0 u3 "java/lang/String" "value" "[B" (.ref y_3)) (Gc3 : Fld Z h0 u3 "java/lang/String" "coder" "B" (.int (0 : Int32))) (Vy3 : Arv Z h0 y_3 k_3 .byte (2 : Int32) [(.int (60 : Int32)), (.int (61 : Int32))] (.int (0 : Int32))) (Fs4 : Fld Z h0 w4 "com/example/overflowstream/overflowstream/Query$Operator" "symbol" "Ljava/lang/String;" (.ref u4)) (Eu4 : Exa Z h0 u4 "java/lang/String") (Gv4 : Fld Z h0 u4 "java/lang/String" "value" "[B" (.ref y_4)) (Gc4 : Fld Z h0 u4 "java/lang/String" "coder" "B" (.int (0 : Int32))) (Vy4 : Arv Z h0 y_4 k_4 .byte (1 : Int32) [(.int (62 : Int32))] (.int (0 : Int32))) (Fs5 : Fld Z h0 w5 "com/example/overflowstream/overflowstream/Query$Operator" "symbol" "Ljava/lang/String;" (.ref u5)) (Eu5 : Exa Z h0 u5 "java/lang/String") (Gv5 : Fld Z h0 u5 "java/lang/String" "value" "[B" (.ref y_5)) (Gc5 : Fld Z h0 u5 "java/lang/String" "coder" "B" (.int (0 : Int32))) (Vy5 : Arv Z h0 y_5 k_5 .byte (2 : Int32) [(.int (62 : Int32)), (.int (61 : Int32))] (.int (0 : Int32))) (dn0 : ¬ u0 = a1) (dn1 : ¬ u1 = a1) (dn2 : ¬ u2 = a1) (dn3 : ¬ u3 = a1) (dn4 : ¬ u4 = a1) (dn5 : ¬ u5 = a1) (Ea : Exa Z h0 a1 "java/lang/String") (Fva : Fld Z h0 a1 "java/lang/String" "value" "[B" (.ref ba)) (Fca : Fld Z h0 a1 "java/lang/String" "coder" "B" (.int (0 : Int32))) (Va : Arv Z h0 ba ka .byte (3 : Int32) [(.int y0), (.int y1), (.int y2)] (.int (0 : Int32))) :
    MetFree l (⟨"com/example/overflowstream/overflowstream/Query$Operator", "written", "(Ljava/lang/String;)Lcom/example/overflowstream/overflowstream/Query$Operator;"⟩ : MethodName) (head1 (Jvm.Cond.code (⟨"com/example/overflowstream/overflowstream/Query$Operator", "written", "(Ljava/lang/String;)Lcom/example/overflowstream/overflowstream/Query$Operator;"⟩ : MethodName) prog_36_method_4_code 5 (some (.object "com/example/overflowstream/overflowstream/Query$Operator")) :: ws) ({ frames := 2, cells := 1, slots := 6, locals := 28 } : Room)) (fun a U => a = #[(.ref a1)] ∧ Z.Warmed39 U.vm ∧ U.heap = h0) (fun _ _ _ _ _ => True) (fun _ U o U' => ∃ v L, o = .returned v ∧ own_wr3_Q Z a1 ba ka wv w0 w1 w2 w3 w4 w5 u0 u1 u2 u3 u4 u5 y_0 y_1 y_2 y_3 y_4 y_5 kv k_0 k_1 k_2 k_3 k_4 k_5 cs y0 y1 y2 h0 n0 v U'.heap L ∧ FrameEnd U o U' L ({ frames := 2, cells := 1, slots := 6, locals := 28 } : Room).cells ({ frames := 2, cells := 1, slots := 6, locals := 28 } : Room).slots) := by
  refine own_enter (C := ({ frames := 2, cells := 1, slots := 6, locals := 28 } : Room).cells) (S := ({ frames := 2, cells := 1, slots := 6, locals := 28 } : Room).slots) (plainFor_of_name own_pn4) ?_
  intro p e s m below meth c T0 X0 I e0
  obtain ⟨hx, hby, hml, hown, hnm, hret, hlk, hZ⟩ := I
  have N0 := Fr.nil n0
  have O0 := own_extr h0
  refine own_cast (own_ef6 m a1) ?_
  show own_Go _ _ _ _ T0 (mkF m 0 #[.val (.ref a1), .unset, .unset, .unset, .unset] [])
  obtain ⟨v1, T1, L1, hQ1, X1, st1⟩ := own_callS X0 hx hZ (y := (⟨"com/example/overflowstream/overflowstream/Query$Operator", "values", "()[Lcom/example/overflowstream/overflowstream/Query$Operator;"⟩ : MethodName)) hown (own_w33 hw) (own_w34 hw) (own_w31 hw) (own_w35 hw) (by decide) (own_vals l hw [] wv w0 w1 w2 w3 w4 w5 kv h0 n0 (Nat.le_trans Z0 O0.1) (Sv.ext O0) (Vv.ext O0) (Ev.ext O0)) e0 (g := (mkF m 0 #[.val (.ref a1), .unset, .unset, .unset, .unset] [])) rfl (by rw [hml]; rfl) (argsL := []) (rest := []) (lenOf own_pd8 rfl) rfl rfl (W := 0) (Nat.le_of_eq rfl) (hb hby own_d6_0) (by decide) (by decide) (by decide) (by decide)
  obtain ⟨bv, kb, rfl, N1, Et1, gb, sb, Vb⟩ := hQ1
  have O1 := own_extt O0 Et1
  have N1' := Fr.app N0 N1
  refine own_st st1 ?_
  show own_Go _ _ _ _ T1 (mkF m 3 #[.val (.ref a1), .unset, .unset, .unset, .unset] [(.ref bv)])
  refine own_st (fun _ k => XS.astoreN X1.here hx rfl (hb hby own_d6_3) rfl rfl (l' := #[.val (.ref a1), .val (.ref bv), .unset, .unset, .unset]) rfl k) ?_
  show own_Go _ _ _ _ T1 (mkF m 4 #[.val (.ref a1), .val (.ref bv), .unset, .unset, .unset] [])
  refine own_st (fun _ k => XS.aloadN X1.here hx rfl (hb hby own_d6_4) rfl rfl k) ?_
  show own_Go _ _ _ _ T1 (mkF m 5 #[.val (.ref a1), .val (.ref bv), .unset, .unset, .unset] [(.ref bv)])
  refine own_st (own_len X1 hx hZ rfl Vb (g := (mkF m 5 #[.val (.ref a1), .val (.ref bv), .unset, .unset, .unset] [(.ref bv)])) rfl rfl (hb hby own_d6_5)) ?_
  show own_Go _ _ _ _ T1 (mkF m 6 #[.val (.ref a1), .val (.ref bv), .unset, .unset, .unset] [(.int (6 : Int32))])
  refine own_st (fun _ k => XS.istoreN X1.here hx rfl (hb hby own_d6_6) rfl (l' := #[.val (.ref a1), .val (.ref bv), .val (.int (6 : Int32)), .unset, .unset]) rfl k) ?_
  show own_Go _ _ _ _ T1 (mkF m 7 #[.val (.ref a1), .val (.ref bv), .val (.int (6 : Int32)), .unset, .unset] [])
  refine own_st (fun _ k => XS.iconst X1.here hx rfl (hb hby own_d6_7) k) ?_
  show own_Go _ _ _ _ T1 (mkF m 8 #[.val (.ref a1), .val (.ref bv), .val (.int (6 : Int32)), .unset, .unset] [(.int (0 : Int32))])
  refine own_st (fun _ k => XS.istoreN X1.here hx rfl (hb hby own_d6_8) rfl (l' := #[.val (.ref a1), .val (.ref bv), .val (.int (6 : Int32)), .val (.int (0 : Int32)), .unset]) rfl k) ?_
  show own_Go _ _ _ _ T1 (mkF m 9 #[.val (.ref a1), .val (.ref bv), .val (.int (6 : Int32)), .val (.int (0 : Int32)), .unset] [])
  refine own_st (fun _ k => XS.iloadN X1.here hx rfl (hb hby own_d6_9) rfl k) ?_
  show own_Go _ _ _ _ T1 (mkF m 10 #[.val (.ref a1), .val (.ref bv), .val (.int (6 : Int32)), .val (.int (0 : Int32)), .unset] [(.int (0 : Int32))])
  refine own_st (fun _ k => XS.iloadN X1.here hx rfl (hb hby own_d6_10) rfl k) ?_
  show own_Go _ _ _ _ T1 (mkF m 11 #[.val (.ref a1), .val (.ref bv), .val (.int (6 : Int32)), .val (.int (0 : Int32)), .unset] [(.int (6 : Int32)), (.int (0 : Int32))])
  refine own_st (fun _ k => XS.icmpNo X1.here hx rfl (hb hby own_d6_11) rfl (tlt (by decide : (0 : Int32) < (6 : Int32))).2.1 k) ?_
  show own_Go _ _ _ _ T1 (mkF m 14 #[.val (.ref a1), .val (.ref bv), .val (.int (6 : Int32)), .val (.int (0 : Int32)), .unset] [])
  refine own_st (fun _ k => XS.aloadN X1.here hx rfl (hb hby own_d6_14) rfl rfl k) ?_
  show own_Go _ _ _ _ T1 (mkF m 15 #[.val (.ref a1), .val (.ref bv), .val (.int (6 : Int32)), .val (.int (0 : Int32)), .unset] [(.ref bv)])
  refine own_st (fun _ k => XS.iloadN X1.here hx rfl (hb hby own_d6_15) rfl k) ?_
  show own_Go _ _ _ _ T1 (mkF m 16 #[.val (.ref a1), .val (.ref bv), .val (.int (6 : Int32)), .val (.int (0 : Int32)), .unset] [(.int (0 : Int32)), (.ref bv)])
  refine own_st (own_ldR X1 hx hZ rfl Vb rfl (j := (0 : Int32)) (by decide) (v := (.ref w0)) rfl (g := (mkF m 16 #[.val (.ref a1), .val (.ref bv), .val (.int (6 : Int32)), .val (.int (0 : Int32)), .unset] [(.int (0 : Int32)), (.ref bv)])) rfl rfl (hb hby own_d6_16)) ?_
  show own_Go _ _ _ _ T1 (mkF m 17 #[.val (.ref a1), .val (.ref bv), .val (.int (6 : Int32)), .val (.int (0 : Int32)), .unset] [(.ref w0)])
  refine own_st (fun _ k => XS.astore X1.here hx rfl (hb hby own_d6_17) rfl rfl (l' := #[.val (.ref a1), .val (.ref bv), .val (.int (6 : Int32)), .val (.int (0 : Int32)), .val (.ref w0)]) rfl k) ?_
  show own_Go _ _ _ _ T1 (mkF m 19 #[.val (.ref a1), .val (.ref bv), .val (.int (6 : Int32)), .val (.int (0 : Int32)), .val (.ref w0)] [])
  refine own_st (fun _ k => XS.aload X1.here hx rfl (hb hby own_d6_19) rfl rfl k) ?_
  show own_Go _ _ _ _ T1 (mkF m 21 #[.val (.ref a1), .val (.ref bv), .val (.int (6 : Int32)), .val (.int (0 : Int32)), .val (.ref w0)] [(.ref w0)])
  obtain ⟨T2, X2, e2, st2⟩ := getF X1 hx hZ hown (host := "") (Or.inl (own_w54 hw)) Via.refl rfl (Fs0.ext O1) (g := (mkF m 21 #[.val (.ref a1), .val (.ref bv), .val (.int (6 : Int32)), .val (.int (0 : Int32)), .val (.ref w0)] [(.ref w0)])) rfl rfl (hb hby own_d6_21)
  refine own_st st2 ?_
  show own_Go _ _ _ _ T2 (mkF m 24 #[.val (.ref a1), .val (.ref bv), .val (.int (6 : Int32)), .val (.int (0 : Int32)), .val (.ref w0)] [(.ref u0)])
  refine own_st (fun _ k => XS.aloadN X2.here hx rfl (hb hby own_d6_24) rfl rfl k) ?_
  show own_Go _ _ _ _ T2 (mkF m 25 #[.val (.ref a1), .val (.ref bv), .val (.int (6 : Int32)), .val (.int (0 : Int32)), .val (.ref w0)] [(.ref a1), (.ref u0)])
  obtain ⟨v3, T3, L3, hQ3, X3, st3⟩ := own_callV X2 hx hZ (y := (⟨"java/lang/String", "equals", "(Ljava/lang/Object;)Z"⟩ : MethodName)) hown (own_w56 hw) (own_w57 hw) (own_w59 hw) (own_w58 hw) (own_w6 hw) (own_w60 hw) (by decide) (own_se13 l hw [] u0 a1 y_0 ba k_0 ka cs (61 : Int32) y0 y1 y2 T1.heap n0 (Nat.le_trans Z0 O1.1) (Scs.ext O1) hcs dn0 (Ea.ext O1) (Gv0.ext O1) (Gc0.ext O1) (Vy0.ext O1) (Fva.ext O1) (Fca.ext O1) (Va.ext O1)) e2 (Eu0.ext O1) (g := (mkF m 25 #[.val (.ref a1), .val (.ref bv), .val (.int (6 : Int32)), .val (.int (0 : Int32)), .val (.ref w0)] [(.ref a1), (.ref u0)])) rfl (by rw [hml]; rfl) (argsL := [(.ref a1)]) (rest := []) (lenOf own_pd9 rfl) rfl rfl (W := 0) (Nat.le_of_eq rfl) (hb hby own_d6_25) (by decide) (by decide) (by decide) (by decide)
  obtain ⟨rfl, N3, e3⟩ := hQ3
  have N3' := Fr.app N1' N3
  refine own_st st3 ?_
  show own_Go _ _ _ _ T3 (mkF m 28 #[.val (.ref a1), .val (.ref bv), .val (.int (6 : Int32)), .val (.int (0 : Int32)), .val (.ref w0)] [(.int (0 : Int32))])
  refine own_st (fun _ k => XS.ifYes X3.here hx rfl (pc0 := 28) (pc' := 34) rfl (hb hby own_d6_28) rfl ((if0 _ _).trans (teq (by decide : (0 : Int32) = (0 : Int32))).1) (by decide) (by decide) k) ?_
  show own_Go _ _ _ _ T3 (mkF m 34 #[.val (.ref a1), .val (.ref bv), .val (.int (6 : Int32)), .val (.int (0 : Int32)), .val (.ref w0)] [])
  refine own_st (fun _ k => XS.iinc X3.here hx rfl (hb hby own_d6_34) rfl (l' := #[.val (.ref a1), .val (.ref bv), .val (.int (6 : Int32)), .val (.int ((0 : Int32) + (1 : Int32))), .val (.ref w0)]) rfl k) ?_
  show own_Go _ _ _ _ T3 (mkF m 37 #[.val (.ref a1), .val (.ref bv), .val (.int (6 : Int32)), .val (.int ((0 : Int32) + (1 : Int32))), .val (.ref w0)] [])
  rw [show ((0 : Int32) + (1 : Int32)) = (1 : Int32) from by decide]
  show own_Go _ _ _ _ T3 (mkF m 37 #[.val (.ref a1), .val (.ref bv), .val (.int (6 : Int32)), .val (.int (1 : Int32)), .val (.ref w0)] [])
  refine own_st (fun _ k => XS.goto X3.here hx rfl (pc0 := 37) (pc' := 9) rfl (hb hby own_d6_37) (by decide) (by decide) k) ?_
  show own_Go _ _ _ _ T3 (mkF m 9 #[.val (.ref a1), .val (.ref bv), .val (.int (6 : Int32)), .val (.int (1 : Int32)), .val (.ref w0)] [])
  refine own_st (fun _ k => XS.iloadN X3.here hx rfl (hb hby own_d6_9) rfl k) ?_
  show own_Go _ _ _ _ T3 (mkF m 10 #[.val (.ref a1), .val (.ref bv), .val (.int (6 : Int32)), .val (.int (1 : Int32)), .val (.ref w0)] [(.int (1 : Int32))])
  refine own_st (fun _ k => XS.iloadN X3.here hx rfl (hb hby own_d6_10) rfl k) ?_
  show own_Go _ _ _ _ T3 (mkF m 11 #[.val (.ref a1), .val (.ref bv), .val (.int (6 : Int32)), .val (.int (1 : Int32)), .val (.ref w0)] [(.int (6 : Int32)), (.int (1 : Int32))])
  refine own_st (fun _ k => XS.icmpNo X3.here hx rfl (hb hby own_d6_11) rfl (tlt (by decide : (1 : Int32) < (6 : Int32))).2.1 k) ?_
  show own_Go _ _ _ _ T3 (mkF m 14 #[.val (.ref a1), .val (.ref bv), .val (.int (6 : Int32)), .val (.int (1 : Int32)), .val (.ref w0)] [])
  refine own_st (fun _ k => XS.aloadN X3.here hx rfl (hb hby own_d6_14) rfl rfl k) ?_
  show own_Go _ _ _ _ T3 (mkF m 15 #[.val (.ref a1), .val (.ref bv), .val (.int (6 : Int32)), .val (.int (1 : Int32)), .val (.ref w0)] [(.ref bv)])
  refine own_st (fun _ k => XS.iloadN X3.here hx rfl (hb hby own_d6_15) rfl k) ?_
  show own_Go _ _ _ _ T3 (mkF m 16 #[.val (.ref a1), .val (.ref bv), .val (.int (6 : Int32)), .val (.int (1 : Int32)), .val (.ref w0)] [(.int (1 : Int32)), (.ref bv)])
  refine own_st (own_ldR X3 hx hZ e3 Vb rfl (j := (1 : Int32)) (by decide) (v := (.ref w1)) rfl (g := (mkF m 16 #[.val (.ref a1), .val (.ref bv), .val (.int (6 : Int32)), .val (.int (1 : Int32)), .val (.ref w0)] [(.int (1 : Int32)), (.ref bv)])) rfl rfl (hb hby own_d6_16)) ?_
  show own_Go _ _ _ _ T3 (mkF m 17 #[.val (.ref a1), .val (.ref bv), .val (.int (6 : Int32)), .val (.int (1 : Int32)), .val (.ref w0)] [(.ref w1)])
  refine own_st (fun _ k => XS.astore X3.here hx rfl (hb hby own_d6_17) rfl rfl (l' := #[.val (.ref a1), .val (.ref bv), .val (.int (6 : Int32)), .val (.int (1 : Int32)), .val (.ref w1)]) rfl k) ?_
  show own_Go _ _ _ _ T3 (mkF m 19 #[.val (.ref a1), .val (.ref bv), .val (.int (6 : Int32)), .val (.int (1 : Int32)), .val (.ref w1)] [])
  refine own_st (fun _ k => XS.aload X3.here hx rfl (hb hby own_d6_19) rfl rfl k) ?_
  show own_Go _ _ _ _ T3 (mkF m 21 #[.val (.ref a1), .val (.ref bv), .val (.int (6 : Int32)), .val (.int (1 : Int32)), .val (.ref w1)] [(.ref w1)])
  obtain ⟨T4, X4, e4, st4⟩ := getF X3 hx hZ hown (host := "") (Or.inl (own_w54 hw)) Via.refl e3 (Fs1.ext O1) (g := (mkF m 21 #[.val (.ref a1), .val (.ref bv), .val (.int (6 : Int32)), .val (.int (1 : Int32)), .val (.ref w1)] [(.ref w1)])) rfl rfl (hb hby own_d6_21)
  refine own_st st4 ?_
  show own_Go _ _ _ _ T4 (mkF m 24 #[.val (.ref a1), .val (.ref bv), .val (.int (6 : Int32)), .val (.int (1 : Int32)), .val (.ref w1)] [(.ref u1)])
  refine own_st (fun _ k => XS.aloadN X4.here hx rfl (hb hby own_d6_24) rfl rfl k) ?_
  show own_Go _ _ _ _ T4 (mkF m 25 #[.val (.ref a1), .val (.ref bv), .val (.int (6 : Int32)), .val (.int (1 : Int32)), .val (.ref w1)] [(.ref a1), (.ref u1)])
  obtain ⟨v5, T5, L5, hQ5, X5, st5⟩ := own_callV X4 hx hZ (y := (⟨"java/lang/String", "equals", "(Ljava/lang/Object;)Z"⟩ : MethodName)) hown (own_w56 hw) (own_w57 hw) (own_w59 hw) (own_w58 hw) (own_w6 hw) (own_w60 hw) (by decide) (own_se23 l hw [] u1 a1 y_1 ba k_1 ka cs (60 : Int32) (62 : Int32) y0 y1 y2 T1.heap n0 (Nat.le_trans Z0 O1.1) (Scs.ext O1) hcs dn1 (Ea.ext O1) (Gv1.ext O1) (Gc1.ext O1) (Vy1.ext O1) (Fva.ext O1) (Fca.ext O1) (Va.ext O1)) e4 (Eu1.ext O1) (g := (mkF m 25 #[.val (.ref a1), .val (.ref bv), .val (.int (6 : Int32)), .val (.int (1 : Int32)), .val (.ref w1)] [(.ref a1), (.ref u1)])) rfl (by rw [hml]; rfl) (argsL := [(.ref a1)]) (rest := []) (lenOf own_pd9 rfl) rfl rfl (W := 0) (Nat.le_of_eq rfl) (hb hby own_d6_25) (by decide) (by decide) (by decide) (by decide)
  obtain ⟨rfl, N5, e5⟩ := hQ5
  have N5' := Fr.app N3' N5
  refine own_st st5 ?_
  show own_Go _ _ _ _ T5 (mkF m 28 #[.val (.ref a1), .val (.ref bv), .val (.int (6 : Int32)), .val (.int (1 : Int32)), .val (.ref w1)] [(.int (0 : Int32))])
  refine own_st (fun _ k => XS.ifYes X5.here hx rfl (pc0 := 28) (pc' := 34) rfl (hb hby own_d6_28) rfl ((if0 _ _).trans (teq (by decide : (0 : Int32) = (0 : Int32))).1) (by decide) (by decide) k) ?_
  show own_Go _ _ _ _ T5 (mkF m 34 #[.val (.ref a1), .val (.ref bv), .val (.int (6 : Int32)), .val (.int (1 : Int32)), .val (.ref w1)] [])
  refine own_st (fun _ k => XS.iinc X5.here hx rfl (hb hby own_d6_34) rfl (l' := #[.val (.ref a1), .val (.ref bv), .val (.int (6 : Int32)), .val (.int ((1 : Int32) + (1 : Int32))), .val (.ref w1)]) rfl k) ?_
  show own_Go _ _ _ _ T5 (mkF m 37 #[.val (.ref a1), .val (.ref bv), .val (.int (6 : Int32)), .val (.int ((1 : Int32) + (1 : Int32))), .val (.ref w1)] [])
  rw [show ((1 : Int32) + (1 : Int32)) = (2 : Int32) from by decide]
  show own_Go _ _ _ _ T5 (mkF m 37 #[.val (.ref a1), .val (.ref bv), .val (.int (6 : Int32)), .val (.int (2 : Int32)), .val (.ref w1)] [])
  refine own_st (fun _ k => XS.goto X5.here hx rfl (pc0 := 37) (pc' := 9) rfl (hb hby own_d6_37) (by decide) (by decide) k) ?_
  show own_Go _ _ _ _ T5 (mkF m 9 #[.val (.ref a1), .val (.ref bv), .val (.int (6 : Int32)), .val (.int (2 : Int32)), .val (.ref w1)] [])
  refine own_st (fun _ k => XS.iloadN X5.here hx rfl (hb hby own_d6_9) rfl k) ?_
  show own_Go _ _ _ _ T5 (mkF m 10 #[.val (.ref a1), .val (.ref bv), .val (.int (6 : Int32)), .val (.int (2 : Int32)), .val (.ref w1)] [(.int (2 : Int32))])
  refine own_st (fun _ k => XS.iloadN X5.here hx rfl (hb hby own_d6_10) rfl k) ?_
  show own_Go _ _ _ _ T5 (mkF m 11 #[.val (.ref a1), .val (.ref bv), .val (.int (6 : Int32)), .val (.int (2 : Int32)), .val (.ref w1)] [(.int (6 : Int32)), (.int (2 : Int32))])
  refine own_st (fun _ k => XS.icmpNo X5.here hx rfl (hb hby own_d6_11) rfl (tlt (by decide : (2 : Int32) < (6 : Int32))).2.1 k) ?_
  show own_Go _ _ _ _ T5 (mkF m 14 #[.val (.ref a1), .val (.ref bv), .val (.int (6 : Int32)), .val (.int (2 : Int32)), .val (.ref w1)] [])
  refine own_st (fun _ k => XS.aloadN X5.here hx rfl (hb hby own_d6_14) rfl rfl k) ?_
  show own_Go _ _ _ _ T5 (mkF m 15 #[.val (.ref a1), .val (.ref bv), .val (.int (6 : Int32)), .val (.int (2 : Int32)), .val (.ref w1)] [(.ref bv)])
  refine own_st (fun _ k => XS.iloadN X5.here hx rfl (hb hby own_d6_15) rfl k) ?_
  show own_Go _ _ _ _ T5 (mkF m 16 #[.val (.ref a1), .val (.ref bv), .val (.int (6 : Int32)), .val (.int (2 : Int32)), .val (.ref w1)] [(.int (2 : Int32)), (.ref bv)])
  refine own_st (own_ldR X5 hx hZ e5 Vb rfl (j := (2 : Int32)) (by decide) (v := (.ref w2)) rfl (g := (mkF m 16 #[.val (.ref a1), .val (.ref bv), .val (.int (6 : Int32)), .val (.int (2 : Int32)), .val (.ref w1)] [(.int (2 : Int32)), (.ref bv)])) rfl rfl (hb hby own_d6_16)) ?_
  show own_Go _ _ _ _ T5 (mkF m 17 #[.val (.ref a1), .val (.ref bv), .val (.int (6 : Int32)), .val (.int (2 : Int32)), .val (.ref w1)] [(.ref w2)])
  refine own_st (fun _ k => XS.astore X5.here hx rfl (hb hby own_d6_17) rfl rfl (l' := #[.val (.ref a1), .val (.ref bv), .val (.int (6 : Int32)), .val (.int (2 : Int32)), .val (.ref w2)]) rfl k) ?_
  show own_Go _ _ _ _ T5 (mkF m 19 #[.val (.ref a1), .val (.ref bv), .val (.int (6 : Int32)), .val (.int (2 : Int32)), .val (.ref w2)] [])
  refine own_st (fun _ k => XS.aload X5.here hx rfl (hb hby own_d6_19) rfl rfl k) ?_
  show own_Go _ _ _ _ T5 (mkF m 21 #[.val (.ref a1), .val (.ref bv), .val (.int (6 : Int32)), .val (.int (2 : Int32)), .val (.ref w2)] [(.ref w2)])
  obtain ⟨T6, X6, e6, st6⟩ := getF X5 hx hZ hown (host := "") (Or.inl (own_w54 hw)) Via.refl e5 (Fs2.ext O1) (g := (mkF m 21 #[.val (.ref a1), .val (.ref bv), .val (.int (6 : Int32)), .val (.int (2 : Int32)), .val (.ref w2)] [(.ref w2)])) rfl rfl (hb hby own_d6_21)
  refine own_st st6 ?_
  show own_Go _ _ _ _ T6 (mkF m 24 #[.val (.ref a1), .val (.ref bv), .val (.int (6 : Int32)), .val (.int (2 : Int32)), .val (.ref w2)] [(.ref u2)])
  refine own_st (fun _ k => XS.aloadN X6.here hx rfl (hb hby own_d6_24) rfl rfl k) ?_
  show own_Go _ _ _ _ T6 (mkF m 25 #[.val (.ref a1), .val (.ref bv), .val (.int (6 : Int32)), .val (.int (2 : Int32)), .val (.ref w2)] [(.ref a1), (.ref u2)])
  obtain ⟨v7, T7, L7, hQ7, X7, st7⟩ := own_callV X6 hx hZ (y := (⟨"java/lang/String", "equals", "(Ljava/lang/Object;)Z"⟩ : MethodName)) hown (own_w56 hw) (own_w57 hw) (own_w59 hw) (own_w58 hw) (own_w6 hw) (own_w60 hw) (by decide) (own_se13 l hw [] u2 a1 y_2 ba k_2 ka cs (60 : Int32) y0 y1 y2 T1.heap n0 (Nat.le_trans Z0 O1.1) (Scs.ext O1) hcs dn2 (Ea.ext O1) (Gv2.ext O1) (Gc2.ext O1) (Vy2.ext O1) (Fva.ext O1) (Fca.ext O1) (Va.ext O1)) e6 (Eu2.ext O1) (g := (mkF m 25 #[.val (.ref a1), .val (.ref bv), .val (.int (6 : Int32)), .val (.int (2 : Int32)), .val (.ref w2)] [(.ref a1), (.ref u2)])) rfl (by rw [hml]; rfl) (argsL := [(.ref a1)]) (rest := []) (lenOf own_pd9 rfl) rfl rfl (W := 0) (Nat.le_of_eq rfl) (hb hby own_d6_25) (by decide) (by decide) (by decide) (by decide)
  obtain ⟨rfl, N7, e7⟩ := hQ7
  have N7' := Fr.app N5' N7
  refine own_st st7 ?_
  show own_Go _ _ _ _ T7 (mkF m 28 #[.val (.ref a1), .val (.ref bv), .val (.int (6 : Int32)), .val (.int (2 : Int32)), .val (.ref w2)] [(.int (0 : Int32))])
  refine own_st (fun _ k => XS.ifYes X7.here hx rfl (pc0 := 28) (pc' := 34) rfl (hb hby own_d6_28) rfl ((if0 _ _).trans (teq (by decide : (0 : Int32) = (0 : Int32))).1) (by decide) (by decide) k) ?_
  show own_Go _ _ _ _ T7 (mkF m 34 #[.val (.ref a1), .val (.ref bv), .val (.int (6 : Int32)), .val (.int (2 : Int32)), .val (.ref w2)] [])
  refine own_st (fun _ k => XS.iinc X7.here hx rfl (hb hby own_d6_34) rfl (l' := #[.val (.ref a1), .val (.ref bv), .val (.int (6 : Int32)), .val (.int ((2 : Int32) + (1 : Int32))), .val (.ref w2)]) rfl k) ?_
  show own_Go _ _ _ _ T7 (mkF m 37 #[.val (.ref a1), .val (.ref bv), .val (.int (6 : Int32)), .val (.int ((2 : Int32) + (1 : Int32))), .val (.ref w2)] [])
  rw [show ((2 : Int32) + (1 : Int32)) = (3 : Int32) from by decide]
  show own_Go _ _ _ _ T7 (mkF m 37 #[.val (.ref a1), .val (.ref bv), .val (.int (6 : Int32)), .val (.int (3 : Int32)), .val (.ref w2)] [])
  refine own_st (fun _ k => XS.goto X7.here hx rfl (pc0 := 37) (pc' := 9) rfl (hb hby own_d6_37) (by decide) (by decide) k) ?_
  show own_Go _ _ _ _ T7 (mkF m 9 #[.val (.ref a1), .val (.ref bv), .val (.int (6 : Int32)), .val (.int (3 : Int32)), .val (.ref w2)] [])
  refine own_st (fun _ k => XS.iloadN X7.here hx rfl (hb hby own_d6_9) rfl k) ?_
  show own_Go _ _ _ _ T7 (mkF m 10 #[.val (.ref a1), .val (.ref bv), .val (.int (6 : Int32)), .val (.int (3 : Int32)), .val (.ref w2)] [(.int (3 : Int32))])
  refine own_st (fun _ k => XS.iloadN X7.here hx rfl (hb hby own_d6_10) rfl k) ?_
  show own_Go _ _ _ _ T7 (mkF m 11 #[.val (.ref a1), .val (.ref bv), .val (.int (6 : Int32)), .val (.int (3 : Int32)), .val (.ref w2)] [(.int (6 : Int32)), (.int (3 : Int32))])
  refine own_st (fun _ k => XS.icmpNo X7.here hx rfl (hb hby own_d6_11) rfl (tlt (by decide : (3 : Int32) < (6 : Int32))).2.1 k) ?_
  show own_Go _ _ _ _ T7 (mkF m 14 #[.val (.ref a1), .val (.ref bv), .val (.int (6 : Int32)), .val (.int (3 : Int32)), .val (.ref w2)] [])
  refine own_st (fun _ k => XS.aloadN X7.here hx rfl (hb hby own_d6_14) rfl rfl k) ?_
  show own_Go _ _ _ _ T7 (mkF m 15 #[.val (.ref a1), .val (.ref bv), .val (.int (6 : Int32)), .val (.int (3 : Int32)), .val (.ref w2)] [(.ref bv)])
  refine own_st (fun _ k => XS.iloadN X7.here hx rfl (hb hby own_d6_15) rfl k) ?_
  show own_Go _ _ _ _ T7 (mkF m 16 #[.val (.ref a1), .val (.ref bv), .val (.int (6 : Int32)), .val (.int (3 : Int32)), .val (.ref w2)] [(.int (3 : Int32)), (.ref bv)])
  refine own_st (own_ldR X7 hx hZ e7 Vb rfl (j := (3 : Int32)) (by decide) (v := (.ref w3)) rfl (g := (mkF m 16 #[.val (.ref a1), .val (.ref bv), .val (.int (6 : Int32)), .val (.int (3 : Int32)), .val (.ref w2)] [(.int (3 : Int32)), (.ref bv)])) rfl rfl (hb hby own_d6_16)) ?_
  show own_Go _ _ _ _ T7 (mkF m 17 #[.val (.ref a1), .val (.ref bv), .val (.int (6 : Int32)), .val (.int (3 : Int32)), .val (.ref w2)] [(.ref w3)])
  refine own_st (fun _ k => XS.astore X7.here hx rfl (hb hby own_d6_17) rfl rfl (l' := #[.val (.ref a1), .val (.ref bv), .val (.int (6 : Int32)), .val (.int (3 : Int32)), .val (.ref w3)]) rfl k) ?_
  show own_Go _ _ _ _ T7 (mkF m 19 #[.val (.ref a1), .val (.ref bv), .val (.int (6 : Int32)), .val (.int (3 : Int32)), .val (.ref w3)] [])
  refine own_st (fun _ k => XS.aload X7.here hx rfl (hb hby own_d6_19) rfl rfl k) ?_
  show own_Go _ _ _ _ T7 (mkF m 21 #[.val (.ref a1), .val (.ref bv), .val (.int (6 : Int32)), .val (.int (3 : Int32)), .val (.ref w3)] [(.ref w3)])
  obtain ⟨T8, X8, e8, st8⟩ := getF X7 hx hZ hown (host := "") (Or.inl (own_w54 hw)) Via.refl e7 (Fs3.ext O1) (g := (mkF m 21 #[.val (.ref a1), .val (.ref bv), .val (.int (6 : Int32)), .val (.int (3 : Int32)), .val (.ref w3)] [(.ref w3)])) rfl rfl (hb hby own_d6_21)
  refine own_st st8 ?_
  show own_Go _ _ _ _ T8 (mkF m 24 #[.val (.ref a1), .val (.ref bv), .val (.int (6 : Int32)), .val (.int (3 : Int32)), .val (.ref w3)] [(.ref u3)])
  refine own_st (fun _ k => XS.aloadN X8.here hx rfl (hb hby own_d6_24) rfl rfl k) ?_
  show own_Go _ _ _ _ T8 (mkF m 25 #[.val (.ref a1), .val (.ref bv), .val (.int (6 : Int32)), .val (.int (3 : Int32)), .val (.ref w3)] [(.ref a1), (.ref u3)])
  obtain ⟨v9, T9, L9, hQ9, X9, st9⟩ := own_callV X8 hx hZ (y := (⟨"java/lang/String", "equals", "(Ljava/lang/Object;)Z"⟩ : MethodName)) hown (own_w56 hw) (own_w57 hw) (own_w59 hw) (own_w58 hw) (own_w6 hw) (own_w60 hw) (by decide) (own_se23 l hw [] u3 a1 y_3 ba k_3 ka cs (60 : Int32) (61 : Int32) y0 y1 y2 T1.heap n0 (Nat.le_trans Z0 O1.1) (Scs.ext O1) hcs dn3 (Ea.ext O1) (Gv3.ext O1) (Gc3.ext O1) (Vy3.ext O1) (Fva.ext O1) (Fca.ext O1) (Va.ext O1)) e8 (Eu3.ext O1) (g := (mkF m 25 #[.val (.ref a1), .val (.ref bv), .val (.int (6 : Int32)), .val (.int (3 : Int32)), .val (.ref w3)] [(.ref a1), (.ref u3)])) rfl (by rw [hml]; rfl) (argsL := [(.ref a1)]) (rest := []) (lenOf own_pd9 rfl) rfl rfl (W := 0) (Nat.le_of_eq rfl) (hb hby own_d6_25) (by decide) (by decide) (by decide) (by decide)
  obtain ⟨rfl, N9, e9⟩ := hQ9
  have N9' := Fr.app N7' N9
  refine own_st st9 ?_
  show own_Go _ _ _ _ T9 (mkF m 28 #[.val (.ref a1), .val (.ref bv), .val (.int (6 : Int32)), .val (.int (3 : Int32)), .val (.ref w3)] [(.int (0 : Int32))])
  refine own_st (fun _ k => XS.ifYes X9.here hx rfl (pc0 := 28) (pc' := 34) rfl (hb hby own_d6_28) rfl ((if0 _ _).trans (teq (by decide : (0 : Int32) = (0 : Int32))).1) (by decide) (by decide) k) ?_
  show own_Go _ _ _ _ T9 (mkF m 34 #[.val (.ref a1), .val (.ref bv), .val (.int (6 : Int32)), .val (.int (3 : Int32)), .val (.ref w3)] [])
  refine own_st (fun _ k => XS.iinc X9.here hx rfl (hb hby own_d6_34) rfl (l' := #[.val (.ref a1), .val (.ref bv), .val (.int (6 : Int32)), .val (.int ((3 : Int32) + (1 : Int32))), .val (.ref w3)]) rfl k) ?_
  show own_Go _ _ _ _ T9 (mkF m 37 #[.val (.ref a1), .val (.ref bv), .val (.int (6 : Int32)), .val (.int ((3 : Int32) + (1 : Int32))), .val (.ref w3)] [])
  rw [show ((3 : Int32) + (1 : Int32)) = (4 : Int32) from by decide]
  show own_Go _ _ _ _ T9 (mkF m 37 #[.val (.ref a1), .val (.ref bv), .val (.int (6 : Int32)), .val (.int (4 : Int32)), .val (.ref w3)] [])
  refine own_st (fun _ k => XS.goto X9.here hx rfl (pc0 := 37) (pc' := 9) rfl (hb hby own_d6_37) (by decide) (by decide) k) ?_
  show own_Go _ _ _ _ T9 (mkF m 9 #[.val (.ref a1), .val (.ref bv), .val (.int (6 : Int32)), .val (.int (4 : Int32)), .val (.ref w3)] [])
  refine own_st (fun _ k => XS.iloadN X9.here hx rfl (hb hby own_d6_9) rfl k) ?_
  show own_Go _ _ _ _ T9 (mkF m 10 #[.val (.ref a1), .val (.ref bv), .val (.int (6 : Int32)), .val (.int (4 : Int32)), .val (.ref w3)] [(.int (4 : Int32))])
  refine own_st (fun _ k => XS.iloadN X9.here hx rfl (hb hby own_d6_10) rfl k) ?_
  show own_Go _ _ _ _ T9 (mkF m 11 #[.val (.ref a1), .val (.ref bv), .val (.int (6 : Int32)), .val (.int (4 : Int32)), .val (.ref w3)] [(.int (6 : Int32)), (.int (4 : Int32))])
  refine own_st (fun _ k => XS.icmpNo X9.here hx rfl (hb hby own_d6_11) rfl (tlt (by decide : (4 : Int32) < (6 : Int32))).2.1 k) ?_
  show own_Go _ _ _ _ T9 (mkF m 14 #[.val (.ref a1), .val (.ref bv), .val (.int (6 : Int32)), .val (.int (4 : Int32)), .val (.ref w3)] [])
  refine own_st (fun _ k => XS.aloadN X9.here hx rfl (hb hby own_d6_14) rfl rfl k) ?_
  show own_Go _ _ _ _ T9 (mkF m 15 #[.val (.ref a1), .val (.ref bv), .val (.int (6 : Int32)), .val (.int (4 : Int32)), .val (.ref w3)] [(.ref bv)])
  refine own_st (fun _ k => XS.iloadN X9.here hx rfl (hb hby own_d6_15) rfl k) ?_
  show own_Go _ _ _ _ T9 (mkF m 16 #[.val (.ref a1), .val (.ref bv), .val (.int (6 : Int32)), .val (.int (4 : Int32)), .val (.ref w3)] [(.int (4 : Int32)), (.ref bv)])
  refine own_st (own_ldR X9 hx hZ e9 Vb rfl (j := (4 : Int32)) (by decide) (v := (.ref w4)) rfl (g := (mkF m 16 #[.val (.ref a1), .val (.ref bv), .val (.int (6 : Int32)), .val (.int (4 : Int32)), .val (.ref w3)] [(.int (4 : Int32)), (.ref bv)])) rfl rfl (hb hby own_d6_16)) ?_
  show own_Go _ _ _ _ T9 (mkF m 17 #[.val (.ref a1), .val (.ref bv), .val (.int (6 : Int32)), .val (.int (4 : Int32)), .val (.ref w3)] [(.ref w4)])
  refine own_st (fun _ k => XS.astore X9.here hx rfl (hb hby own_d6_17) rfl rfl (l' := #[.val (.ref a1), .val (.ref bv), .val (.int (6 : Int32)), .val (.int (4 : Int32)), .val (.ref w4)]) rfl k) ?_
  show own_Go _ _ _ _ T9 (mkF m 19 #[.val (.ref a1), .val (.ref bv), .val (.int (6 : Int32)), .val (.int (4 : Int32)), .val (.ref w4)] [])
  refine own_st (fun _ k => XS.aload X9.here hx rfl (hb hby own_d6_19) rfl rfl k) ?_
  show own_Go _ _ _ _ T9 (mkF m 21 #[.val (.ref a1), .val (.ref bv), .val (.int (6 : Int32)), .val (.int (4 : Int32)), .val (.ref w4)] [(.ref w4)])
  obtain ⟨T10, X10, e10, st10⟩ := getF X9 hx hZ hown (host := "") (Or.inl (own_w54 hw)) Via.refl e9 (Fs4.ext O1) (g := (mkF m 21 #[.val (.ref a1), .val (.ref bv), .val (.int (6 : Int32)), .val (.int (4 : Int32)), .val (.ref w4)] [(.ref w4)])) rfl rfl (hb hby own_d6_21)
  refine own_st st10 ?_
  show own_Go _ _ _ _ T10 (mkF m 24 #[.val (.ref a1), .val (.ref bv), .val (.int (6 : Int32)), .val (.int (4 : Int32)), .val (.ref w4)] [(.ref u4)])
  refine own_st (fun _ k => XS.aloadN X10.here hx rfl (hb hby own_d6_24) rfl rfl k) ?_
  show own_Go _ _ _ _ T10 (mkF m 25 #[.val (.ref a1), .val (.ref bv), .val (.int (6 : Int32)), .val (.int (4 : Int32)), .val (.ref w4)] [(.ref a1), (.ref u4)])
  obtain ⟨v11, T11, L11, hQ11, X11, st11⟩ := own_callV X10 hx hZ (y := (⟨"java/lang/String", "equals", "(Ljava/lang/Object;)Z"⟩ : MethodName)) hown (own_w56 hw) (own_w57 hw) (own_w59 hw) (own_w58 hw) (own_w6 hw) (own_w60 hw) (by decide) (own_se13 l hw [] u4 a1 y_4 ba k_4 ka cs (62 : Int32) y0 y1 y2 T1.heap n0 (Nat.le_trans Z0 O1.1) (Scs.ext O1) hcs dn4 (Ea.ext O1) (Gv4.ext O1) (Gc4.ext O1) (Vy4.ext O1) (Fva.ext O1) (Fca.ext O1) (Va.ext O1)) e10 (Eu4.ext O1) (g := (mkF m 25 #[.val (.ref a1), .val (.ref bv), .val (.int (6 : Int32)), .val (.int (4 : Int32)), .val (.ref w4)] [(.ref a1), (.ref u4)])) rfl (by rw [hml]; rfl) (argsL := [(.ref a1)]) (rest := []) (lenOf own_pd9 rfl) rfl rfl (W := 0) (Nat.le_of_eq rfl) (hb hby own_d6_25) (by decide) (by decide) (by decide) (by decide)
  obtain ⟨rfl, N11, e11⟩ := hQ11
  have N11' := Fr.app N9' N11
  refine own_st st11 ?_
  show own_Go _ _ _ _ T11 (mkF m 28 #[.val (.ref a1), .val (.ref bv), .val (.int (6 : Int32)), .val (.int (4 : Int32)), .val (.ref w4)] [(.int (0 : Int32))])
  refine own_st (fun _ k => XS.ifYes X11.here hx rfl (pc0 := 28) (pc' := 34) rfl (hb hby own_d6_28) rfl ((if0 _ _).trans (teq (by decide : (0 : Int32) = (0 : Int32))).1) (by decide) (by decide) k) ?_
  show own_Go _ _ _ _ T11 (mkF m 34 #[.val (.ref a1), .val (.ref bv), .val (.int (6 : Int32)), .val (.int (4 : Int32)), .val (.ref w4)] [])
  refine own_st (fun _ k => XS.iinc X11.here hx rfl (hb hby own_d6_34) rfl (l' := #[.val (.ref a1), .val (.ref bv), .val (.int (6 : Int32)), .val (.int ((4 : Int32) + (1 : Int32))), .val (.ref w4)]) rfl k) ?_
  show own_Go _ _ _ _ T11 (mkF m 37 #[.val (.ref a1), .val (.ref bv), .val (.int (6 : Int32)), .val (.int ((4 : Int32) + (1 : Int32))), .val (.ref w4)] [])
  rw [show ((4 : Int32) + (1 : Int32)) = (5 : Int32) from by decide]
  show own_Go _ _ _ _ T11 (mkF m 37 #[.val (.ref a1), .val (.ref bv), .val (.int (6 : Int32)), .val (.int (5 : Int32)), .val (.ref w4)] [])
  refine own_st (fun _ k => XS.goto X11.here hx rfl (pc0 := 37) (pc' := 9) rfl (hb hby own_d6_37) (by decide) (by decide) k) ?_
  show own_Go _ _ _ _ T11 (mkF m 9 #[.val (.ref a1), .val (.ref bv), .val (.int (6 : Int32)), .val (.int (5 : Int32)), .val (.ref w4)] [])
  refine own_st (fun _ k => XS.iloadN X11.here hx rfl (hb hby own_d6_9) rfl k) ?_
  show own_Go _ _ _ _ T11 (mkF m 10 #[.val (.ref a1), .val (.ref bv), .val (.int (6 : Int32)), .val (.int (5 : Int32)), .val (.ref w4)] [(.int (5 : Int32))])
  refine own_st (fun _ k => XS.iloadN X11.here hx rfl (hb hby own_d6_10) rfl k) ?_
  show own_Go _ _ _ _ T11 (mkF m 11 #[.val (.ref a1), .val (.ref bv), .val (.int (6 : Int32)), .val (.int (5 : Int32)), .val (.ref w4)] [(.int (6 : Int32)), (.int (5 : Int32))])
  refine own_st (fun _ k => XS.icmpNo X11.here hx rfl (hb hby own_d6_11) rfl (tlt (by decide : (5 : Int32) < (6 : Int32))).2.1 k) ?_
  show own_Go _ _ _ _ T11 (mkF m 14 #[.val (.ref a1), .val (.ref bv), .val (.int (6 : Int32)), .val (.int (5 : Int32)), .val (.ref w4)] [])
  refine own_st (fun _ k => XS.aloadN X11.here hx rfl (hb hby own_d6_14) rfl rfl k) ?_
  show own_Go _ _ _ _ T11 (mkF m 15 #[.val (.ref a1), .val (.ref bv), .val (.int (6 : Int32)), .val (.int (5 : Int32)), .val (.ref w4)] [(.ref bv)])
  refine own_st (fun _ k => XS.iloadN X11.here hx rfl (hb hby own_d6_15) rfl k) ?_
  show own_Go _ _ _ _ T11 (mkF m 16 #[.val (.ref a1), .val (.ref bv), .val (.int (6 : Int32)), .val (.int (5 : Int32)), .val (.ref w4)] [(.int (5 : Int32)), (.ref bv)])
  refine own_st (own_ldR X11 hx hZ e11 Vb rfl (j := (5 : Int32)) (by decide) (v := (.ref w5)) rfl (g := (mkF m 16 #[.val (.ref a1), .val (.ref bv), .val (.int (6 : Int32)), .val (.int (5 : Int32)), .val (.ref w4)] [(.int (5 : Int32)), (.ref bv)])) rfl rfl (hb hby own_d6_16)) ?_
  show own_Go _ _ _ _ T11 (mkF m 17 #[.val (.ref a1), .val (.ref bv), .val (.int (6 : Int32)), .val (.int (5 : Int32)), .val (.ref w4)] [(.ref w5)])
  refine own_st (fun _ k => XS.astore X11.here hx rfl (hb hby own_d6_17) rfl rfl (l' := #[.val (.ref a1), .val (.ref bv), .val (.int (6 : Int32)), .val (.int (5 : Int32)), .val (.ref w5)]) rfl k) ?_
  show own_Go _ _ _ _ T11 (mkF m 19 #[.val (.ref a1), .val (.ref bv), .val (.int (6 : Int32)), .val (.int (5 : Int32)), .val (.ref w5)] [])
  refine own_st (fun _ k => XS.aload X11.here hx rfl (hb hby own_d6_19) rfl rfl k) ?_
  show own_Go _ _ _ _ T11 (mkF m 21 #[.val (.ref a1), .val (.ref bv), .val (.int (6 : Int32)), .val (.int (5 : Int32)), .val (.ref w5)] [(.ref w5)])
  obtain ⟨T12, X12, e12, st12⟩ := getF X11 hx hZ hown (host := "") (Or.inl (own_w54 hw)) Via.refl e11 (Fs5.ext O1) (g := (mkF m 21 #[.val (.ref a1), .val (.ref bv), .val (.int (6 : Int32)), .val (.int (5 : Int32)), .val (.ref w5)] [(.ref w5)])) rfl rfl (hb hby own_d6_21)
  refine own_st st12 ?_
  show own_Go _ _ _ _ T12 (mkF m 24 #[.val (.ref a1), .val (.ref bv), .val (.int (6 : Int32)), .val (.int (5 : Int32)), .val (.ref w5)] [(.ref u5)])
  refine own_st (fun _ k => XS.aloadN X12.here hx rfl (hb hby own_d6_24) rfl rfl k) ?_
  show own_Go _ _ _ _ T12 (mkF m 25 #[.val (.ref a1), .val (.ref bv), .val (.int (6 : Int32)), .val (.int (5 : Int32)), .val (.ref w5)] [(.ref a1), (.ref u5)])
  obtain ⟨v13, T13, L13, hQ13, X13, st13⟩ := own_callV X12 hx hZ (y := (⟨"java/lang/String", "equals", "(Ljava/lang/Object;)Z"⟩ : MethodName)) hown (own_w56 hw) (own_w57 hw) (own_w59 hw) (own_w58 hw) (own_w6 hw) (own_w60 hw) (by decide) (own_se23 l hw [] u5 a1 y_5 ba k_5 ka cs (62 : Int32) (61 : Int32) y0 y1 y2 T1.heap n0 (Nat.le_trans Z0 O1.1) (Scs.ext O1) hcs dn5 (Ea.ext O1) (Gv5.ext O1) (Gc5.ext O1) (Vy5.ext O1) (Fva.ext O1) (Fca.ext O1) (Va.ext O1)) e12 (Eu5.ext O1) (g := (mkF m 25 #[.val (.ref a1), .val (.ref bv), .val (.int (6 : Int32)), .val (.int (5 : Int32)), .val (.ref w5)] [(.ref a1), (.ref u5)])) rfl (by rw [hml]; rfl) (argsL := [(.ref a1)]) (rest := []) (lenOf own_pd9 rfl) rfl rfl (W := 0) (Nat.le_of_eq rfl) (hb hby own_d6_25) (by decide) (by decide) (by decide) (by decide)
  obtain ⟨rfl, N13, e13⟩ := hQ13
  have N13' := Fr.app N11' N13
  refine own_st st13 ?_
  show own_Go _ _ _ _ T13 (mkF m 28 #[.val (.ref a1), .val (.ref bv), .val (.int (6 : Int32)), .val (.int (5 : Int32)), .val (.ref w5)] [(.int (0 : Int32))])
  refine own_st (fun _ k => XS.ifYes X13.here hx rfl (pc0 := 28) (pc' := 34) rfl (hb hby own_d6_28) rfl ((if0 _ _).trans (teq (by decide : (0 : Int32) = (0 : Int32))).1) (by decide) (by decide) k) ?_
  show own_Go _ _ _ _ T13 (mkF m 34 #[.val (.ref a1), .val (.ref bv), .val (.int (6 : Int32)), .val (.int (5 : Int32)), .val (.ref w5)] [])
  refine own_st (fun _ k => XS.iinc X13.here hx rfl (hb hby own_d6_34) rfl (l' := #[.val (.ref a1), .val (.ref bv), .val (.int (6 : Int32)), .val (.int ((5 : Int32) + (1 : Int32))), .val (.ref w5)]) rfl k) ?_
  show own_Go _ _ _ _ T13 (mkF m 37 #[.val (.ref a1), .val (.ref bv), .val (.int (6 : Int32)), .val (.int ((5 : Int32) + (1 : Int32))), .val (.ref w5)] [])
  rw [show ((5 : Int32) + (1 : Int32)) = (6 : Int32) from by decide]
  show own_Go _ _ _ _ T13 (mkF m 37 #[.val (.ref a1), .val (.ref bv), .val (.int (6 : Int32)), .val (.int (6 : Int32)), .val (.ref w5)] [])
  refine own_st (fun _ k => XS.goto X13.here hx rfl (pc0 := 37) (pc' := 9) rfl (hb hby own_d6_37) (by decide) (by decide) k) ?_
  show own_Go _ _ _ _ T13 (mkF m 9 #[.val (.ref a1), .val (.ref bv), .val (.int (6 : Int32)), .val (.int (6 : Int32)), .val (.ref w5)] [])
  refine own_st (fun _ k => XS.iloadN X13.here hx rfl (hb hby own_d6_9) rfl k) ?_
  show own_Go _ _ _ _ T13 (mkF m 10 #[.val (.ref a1), .val (.ref bv), .val (.int (6 : Int32)), .val (.int (6 : Int32)), .val (.ref w5)] [(.int (6 : Int32))])
  refine own_st (fun _ k => XS.iloadN X13.here hx rfl (hb hby own_d6_10) rfl k) ?_
  show own_Go _ _ _ _ T13 (mkF m 11 #[.val (.ref a1), .val (.ref bv), .val (.int (6 : Int32)), .val (.int (6 : Int32)), .val (.ref w5)] [(.int (6 : Int32)), (.int (6 : Int32))])
  refine own_st (fun _ k => XS.icmpYes X13.here hx rfl (pc0 := 11) (pc' := 40) rfl (hb hby own_d6_11) rfl (flt (by decide : ¬ ((6 : Int32) < (6 : Int32)))).2.1 (by decide) (by decide) k) ?_
  show own_Go _ _ _ _ T13 (mkF m 40 #[.val (.ref a1), .val (.ref bv), .val (.int (6 : Int32)), .val (.int (6 : Int32)), .val (.ref w5)] [])
  refine own_st (fun _ k => XS.aconstNull X13.here hx rfl (hb hby own_d6_40) k) ?_
  show own_Go _ _ _ _ T13 (mkF m 41 #[.val (.ref a1), .val (.ref bv), .val (.int (6 : Int32)), .val (.int (6 : Int32)), .val (.ref w5)] [.null])
  exact own_retA X13 hx hret rfl hlk rfl (hb hby own_d6_41) ⟨by simp [own_wv1, own_wv2, *], N13', by rw [e13]; exact O1⟩ (by decide) (by decide)
def own_ex_Q (Z : State) (n c0 c1 : Int32) (w0 w1 w2 w3 w4 w5 : Addr) (h0 : Heap) (n0 : Nat) (v : Option Value) (h : Heap) (L : List Loc) : Prop := v = some (own_exv n c0 c1 w0 w1 w2 w3 w4 w5) ∧ Fr n0 L ∧ h = h0
set_option maxRecDepth 65536 in
set_option maxHeartbeats 40000000 in
theorem own_ex (l : Launch) {Z : State} {a0 : Array Value} (hw : own_W Z a0) (ws : List Jvm.Cond) (n c0 c1 : Int32) (w0 w1 w2 w3 w4 w5 : Addr) (h0 : Heap) (n0 : Nat) (Z0 : n0 ≤ h0.size) (S0 : Sta Z h0 "com/example/overflowstream/overflowstream/Query$Operator" "EQUAL" "Lcom/example/overflowstream/overflowstream/Query$Operator;" (.ref w0)) (S1 : Sta Z h0 "com/example/overflowstream/overflowstream/Query$Operator" "NOT_EQUAL" "Lcom/example/overflowstream/overflowstream/Query$Operator;" (.ref w1)) (S2 : Sta Z h0 "com/example/overflowstream/overflowstream/Query$Operator" "LESS" "Lcom/example/overflowstream/overflowstream/Query$Operator;" (.ref w2)) (S3 : Sta Z h0 "com/example/overflowstream/overflowstream/Query$Operator" "LESS_OR_EQUAL" "Lcom/example/overflowstream/overflowstream/Query$Operator;" (.ref w3)) (S4 : Sta Z h0 "com/example/overflowstream/overflowstream/Query$Operator" "GREATER" "Lcom/example/overflowstream/overflowstream/Query$Operator;" (.ref w4)) (S5 : Sta Z h0 "com/example/overflowstream/overflowstream/Query$Operator" "GREATER_OR_EQUAL" "Lcom/example/overflowstream/overflowstream/Query$Operator;" (.ref w5)) :
    MetFree l (⟨"com/example/overflowstream/overflowstream/OperatorWrittenPinLaw", "expected", "(ICC)Lcom/example/overflowstream/overflowstream/Query$Operator;"⟩ : MethodName) (head1 (Jvm.Cond.code (⟨"com/example/overflowstream/overflowstream/OperatorWrittenPinLaw", "expected", "(ICC)Lcom/example/overflowstream/overflowstream/Query$Operator;"⟩ : MethodName) method_3_code 3 (some (.object "com/example/overflowstream/overflowstream/Query$Operator")) :: ws) ({ frames := 0, cells := 0, slots := 0, locals := 0 } : Room)) (fun a U => a = #[(.int n), (.int c0), (.int c1)] ∧ Z.Warmed39 U.vm ∧ U.heap = h0) (fun _ _ _ _ _ => True) (fun _ U o U' => ∃ v L, o = .returned v ∧ own_ex_Q Z n c0 c1 w0 w1 w2 w3 w4 w5 h0 n0 v U'.heap L ∧ FrameEnd U o U' L ({ frames := 0, cells := 0, slots := 0, locals := 0 } : Room).cells ({ frames := 0, cells := 0, slots := 0, locals := 0 } : Room).slots) := by
  refine own_enter (C := ({ frames := 0, cells := 0, slots := 0, locals := 0 } : Room).cells) (S := ({ frames := 0, cells := 0, slots := 0, locals := 0 } : Room).slots) (plainFor_of_name own_pn0) ?_
  intro p e s m below meth c T0 X0 I e0
  obtain ⟨hx, hby, hml, hown, hnm, hret, hlk, hZ⟩ := I
  have N0 := Fr.nil n0
  have O0 := own_extr h0
  refine own_cast (own_ef5 m n c0 c1) ?_
  show own_Go _ _ _ _ T0 (mkF m 0 #[.val (.int n), .val (.int c0), .val (.int c1)] [])
  refine own_st (fun _ k => XS.iloadN X0.here hx rfl (hb hby own_d5_0) rfl k) ?_
  show own_Go _ _ _ _ T0 (mkF m 1 #[.val (.int n), .val (.int c0), .val (.int c1)] [(.int n)])
  refine own_st (fun _ k => XS.iconst X0.here hx rfl (hb hby own_d5_1) k) ?_
  show own_Go _ _ _ _ T0 (mkF m 2 #[.val (.int n), .val (.int c0), .val (.int c1)] [(.int (1 : Int32)), (.int n)])
  by_cases h1 : n = (1 : Int32)
  · refine own_st (fun _ k => XS.icmpNo X0.here hx rfl (hb hby own_d5_2) rfl (teq (h1 : n = (1 : Int32))).2 k) ?_
    show own_Go _ _ _ _ T0 (mkF m 5 #[.val (.int n), .val (.int c0), .val (.int c1)] [])
    refine own_st (fun _ k => XS.iloadN X0.here hx rfl (hb hby own_d5_5) rfl k) ?_
    show own_Go _ _ _ _ T0 (mkF m 6 #[.val (.int n), .val (.int c0), .val (.int c1)] [(.int c0)])
    refine own_st (fun _ k => XS.bipush X0.here hx rfl (hb hby own_d5_6) k) ?_
    show own_Go _ _ _ _ T0 (mkF m 8 #[.val (.int n), .val (.int c0), .val (.int c1)] [(.int (61 : Int32)), (.int c0)])
    by_cases h2 : c0 = (61 : Int32)
    · refine own_st (fun _ k => XS.icmpNo X0.here hx rfl (hb hby own_d5_8) rfl (teq (h2 : c0 = (61 : Int32))).2 k) ?_
      show own_Go _ _ _ _ T0 (mkF m 11 #[.val (.int n), .val (.int c0), .val (.int c1)] [])
      obtain ⟨T1, X1, e1, st1⟩ := getS2 X0 hx hZ hown (host := "") (Or.inl (own_w91 hw)) Via.refl e0 (S0.ext O0) (g := (mkF m 11 #[.val (.int n), .val (.int c0), .val (.int c1)] [])) rfl (hb hby own_d5_11)
      refine own_st st1 ?_
      show own_Go _ _ _ _ T1 (mkF m 14 #[.val (.int n), .val (.int c0), .val (.int c1)] [(.ref w0)])
      exact own_retA X1 hx hret rfl hlk rfl (hb hby own_d5_14) ⟨by simp [own_exv, *], N0, e1⟩ (by decide) (by decide)
    · refine own_st (fun _ k => XS.icmpYes X0.here hx rfl (pc0 := 8) (pc' := 15) rfl (hb hby own_d5_8) rfl (feq (h2 : ¬ (c0 = (61 : Int32)))).2 (by decide) (by decide) k) ?_
      show own_Go _ _ _ _ T0 (mkF m 15 #[.val (.int n), .val (.int c0), .val (.int c1)] [])
      refine own_st (fun _ k => XS.iloadN X0.here hx rfl (hb hby own_d5_15) rfl k) ?_
      show own_Go _ _ _ _ T0 (mkF m 16 #[.val (.int n), .val (.int c0), .val (.int c1)] [(.int c0)])
      refine own_st (fun _ k => XS.bipush X0.here hx rfl (hb hby own_d5_16) k) ?_
      show own_Go _ _ _ _ T0 (mkF m 18 #[.val (.int n), .val (.int c0), .val (.int c1)] [(.int (60 : Int32)), (.int c0)])
      by_cases h3 : c0 = (60 : Int32)
      · refine own_st (fun _ k => XS.icmpNo X0.here hx rfl (hb hby own_d5_18) rfl (teq (h3 : c0 = (60 : Int32))).2 k) ?_
        show own_Go _ _ _ _ T0 (mkF m 21 #[.val (.int n), .val (.int c0), .val (.int c1)] [])
        obtain ⟨T2, X2, e2, st2⟩ := getS2 X0 hx hZ hown (host := "") (Or.inl (own_w89 hw)) Via.refl e0 (S2.ext O0) (g := (mkF m 21 #[.val (.int n), .val (.int c0), .val (.int c1)] [])) rfl (hb hby own_d5_21)
        refine own_st st2 ?_
        show own_Go _ _ _ _ T2 (mkF m 24 #[.val (.int n), .val (.int c0), .val (.int c1)] [(.ref w2)])
        exact own_retA X2 hx hret rfl hlk rfl (hb hby own_d5_24) ⟨by simp [own_exv, *], N0, e2⟩ (by decide) (by decide)
      · refine own_st (fun _ k => XS.icmpYes X0.here hx rfl (pc0 := 18) (pc' := 25) rfl (hb hby own_d5_18) rfl (feq (h3 : ¬ (c0 = (60 : Int32)))).2 (by decide) (by decide) k) ?_
        show own_Go _ _ _ _ T0 (mkF m 25 #[.val (.int n), .val (.int c0), .val (.int c1)] [])
        refine own_st (fun _ k => XS.iloadN X0.here hx rfl (hb hby own_d5_25) rfl k) ?_
        show own_Go _ _ _ _ T0 (mkF m 26 #[.val (.int n), .val (.int c0), .val (.int c1)] [(.int c0)])
        refine own_st (fun _ k => XS.bipush X0.here hx rfl (hb hby own_d5_26) k) ?_
        show own_Go _ _ _ _ T0 (mkF m 28 #[.val (.int n), .val (.int c0), .val (.int c1)] [(.int (62 : Int32)), (.int c0)])
        by_cases h4 : c0 = (62 : Int32)
        · refine own_st (fun _ k => XS.icmpNo X0.here hx rfl (hb hby own_d5_28) rfl (teq (h4 : c0 = (62 : Int32))).2 k) ?_
          show own_Go _ _ _ _ T0 (mkF m 31 #[.val (.int n), .val (.int c0), .val (.int c1)] [])
          obtain ⟨T3, X3, e3, st3⟩ := getS2 X0 hx hZ hown (host := "") (Or.inl (own_w90 hw)) Via.refl e0 (S4.ext O0) (g := (mkF m 31 #[.val (.int n), .val (.int c0), .val (.int c1)] [])) rfl (hb hby own_d5_31)
          refine own_st st3 ?_
          show own_Go _ _ _ _ T3 (mkF m 34 #[.val (.int n), .val (.int c0), .val (.int c1)] [(.ref w4)])
          exact own_retA X3 hx hret rfl hlk rfl (hb hby own_d5_34) ⟨by simp [own_exv, *], N0, e3⟩ (by decide) (by decide)
        · refine own_st (fun _ k => XS.icmpYes X0.here hx rfl (pc0 := 28) (pc' := 35) rfl (hb hby own_d5_28) rfl (feq (h4 : ¬ (c0 = (62 : Int32)))).2 (by decide) (by decide) k) ?_
          show own_Go _ _ _ _ T0 (mkF m 35 #[.val (.int n), .val (.int c0), .val (.int c1)] [])
          refine own_st (fun _ k => XS.aconstNull X0.here hx rfl (hb hby own_d5_35) k) ?_
          show own_Go _ _ _ _ T0 (mkF m 36 #[.val (.int n), .val (.int c0), .val (.int c1)] [.null])
          exact own_retA X0 hx hret rfl hlk rfl (hb hby own_d5_36) ⟨by simp [own_exv, *], N0, e0⟩ (by decide) (by decide)
  · refine own_st (fun _ k => XS.icmpYes X0.here hx rfl (pc0 := 2) (pc' := 37) rfl (hb hby own_d5_2) rfl (feq (h1 : ¬ (n = (1 : Int32)))).2 (by decide) (by decide) k) ?_
    show own_Go _ _ _ _ T0 (mkF m 37 #[.val (.int n), .val (.int c0), .val (.int c1)] [])
    refine own_st (fun _ k => XS.iloadN X0.here hx rfl (hb hby own_d5_37) rfl k) ?_
    show own_Go _ _ _ _ T0 (mkF m 38 #[.val (.int n), .val (.int c0), .val (.int c1)] [(.int n)])
    refine own_st (fun _ k => XS.iconst X0.here hx rfl (hb hby own_d5_38) k) ?_
    show own_Go _ _ _ _ T0 (mkF m 39 #[.val (.int n), .val (.int c0), .val (.int c1)] [(.int (2 : Int32)), (.int n)])
    by_cases h5 : n = (2 : Int32)
    · refine own_st (fun _ k => XS.icmpNo X0.here hx rfl (hb hby own_d5_39) rfl (teq (h5 : n = (2 : Int32))).2 k) ?_
      show own_Go _ _ _ _ T0 (mkF m 42 #[.val (.int n), .val (.int c0), .val (.int c1)] [])
      refine own_st (fun _ k => XS.iloadN X0.here hx rfl (hb hby own_d5_42) rfl k) ?_
      show own_Go _ _ _ _ T0 (mkF m 43 #[.val (.int n), .val (.int c0), .val (.int c1)] [(.int c0)])
      refine own_st (fun _ k => XS.bipush X0.here hx rfl (hb hby own_d5_43) k) ?_
      show own_Go _ _ _ _ T0 (mkF m 45 #[.val (.int n), .val (.int c0), .val (.int c1)] [(.int (60 : Int32)), (.int c0)])
      by_cases h6 : c0 = (60 : Int32)
      · refine own_st (fun _ k => XS.icmpNo X0.here hx rfl (hb hby own_d5_45) rfl (teq (h6 : c0 = (60 : Int32))).2 k) ?_
        show own_Go _ _ _ _ T0 (mkF m 48 #[.val (.int n), .val (.int c0), .val (.int c1)] [])
        refine own_st (fun _ k => XS.iloadN X0.here hx rfl (hb hby own_d5_48) rfl k) ?_
        show own_Go _ _ _ _ T0 (mkF m 49 #[.val (.int n), .val (.int c0), .val (.int c1)] [(.int c1)])
        refine own_st (fun _ k => XS.bipush X0.here hx rfl (hb hby own_d5_49) k) ?_
        show own_Go _ _ _ _ T0 (mkF m 51 #[.val (.int n), .val (.int c0), .val (.int c1)] [(.int (62 : Int32)), (.int c1)])
        by_cases h7 : c1 = (62 : Int32)
        · refine own_st (fun _ k => XS.icmpNo X0.here hx rfl (hb hby own_d5_51) rfl (teq (h7 : c1 = (62 : Int32))).2 k) ?_
          show own_Go _ _ _ _ T0 (mkF m 54 #[.val (.int n), .val (.int c0), .val (.int c1)] [])
          obtain ⟨T4, X4, e4, st4⟩ := getS2 X0 hx hZ hown (host := "") (Or.inl (own_w93 hw)) Via.refl e0 (S1.ext O0) (g := (mkF m 54 #[.val (.int n), .val (.int c0), .val (.int c1)] [])) rfl (hb hby own_d5_54)
          refine own_st st4 ?_
          show own_Go _ _ _ _ T4 (mkF m 57 #[.val (.int n), .val (.int c0), .val (.int c1)] [(.ref w1)])
          exact own_retA X4 hx hret rfl hlk rfl (hb hby own_d5_57) ⟨by simp [own_exv, *], N0, e4⟩ (by decide) (by decide)
        · refine own_st (fun _ k => XS.icmpYes X0.here hx rfl (pc0 := 51) (pc' := 58) rfl (hb hby own_d5_51) rfl (feq (h7 : ¬ (c1 = (62 : Int32)))).2 (by decide) (by decide) k) ?_
          show own_Go _ _ _ _ T0 (mkF m 58 #[.val (.int n), .val (.int c0), .val (.int c1)] [])
          refine own_st (fun _ k => XS.iloadN X0.here hx rfl (hb hby own_d5_58) rfl k) ?_
          show own_Go _ _ _ _ T0 (mkF m 59 #[.val (.int n), .val (.int c0), .val (.int c1)] [(.int c1)])
          refine own_st (fun _ k => XS.bipush X0.here hx rfl (hb hby own_d5_59) k) ?_
          show own_Go _ _ _ _ T0 (mkF m 61 #[.val (.int n), .val (.int c0), .val (.int c1)] [(.int (61 : Int32)), (.int c1)])
          by_cases h8 : c1 = (61 : Int32)
          · refine own_st (fun _ k => XS.icmpNo X0.here hx rfl (hb hby own_d5_61) rfl (teq (h8 : c1 = (61 : Int32))).2 k) ?_
            show own_Go _ _ _ _ T0 (mkF m 64 #[.val (.int n), .val (.int c0), .val (.int c1)] [])
            obtain ⟨T5, X5, e5, st5⟩ := getS2 X0 hx hZ hown (host := "") (Or.inl (own_w92 hw)) Via.refl e0 (S3.ext O0) (g := (mkF m 64 #[.val (.int n), .val (.int c0), .val (.int c1)] [])) rfl (hb hby own_d5_64)
            refine own_st st5 ?_
            show own_Go _ _ _ _ T5 (mkF m 67 #[.val (.int n), .val (.int c0), .val (.int c1)] [(.ref w3)])
            exact own_retA X5 hx hret rfl hlk rfl (hb hby own_d5_67) ⟨by simp [own_exv, *], N0, e5⟩ (by decide) (by decide)
          · refine own_st (fun _ k => XS.icmpYes X0.here hx rfl (pc0 := 61) (pc' := 68) rfl (hb hby own_d5_61) rfl (feq (h8 : ¬ (c1 = (61 : Int32)))).2 (by decide) (by decide) k) ?_
            show own_Go _ _ _ _ T0 (mkF m 68 #[.val (.int n), .val (.int c0), .val (.int c1)] [])
            refine own_st (fun _ k => XS.aconstNull X0.here hx rfl (hb hby own_d5_68) k) ?_
            show own_Go _ _ _ _ T0 (mkF m 69 #[.val (.int n), .val (.int c0), .val (.int c1)] [.null])
            exact own_retA X0 hx hret rfl hlk rfl (hb hby own_d5_69) ⟨by simp [own_exv, *], N0, e0⟩ (by decide) (by decide)
      · refine own_st (fun _ k => XS.icmpYes X0.here hx rfl (pc0 := 45) (pc' := 70) rfl (hb hby own_d5_45) rfl (feq (h6 : ¬ (c0 = (60 : Int32)))).2 (by decide) (by decide) k) ?_
        show own_Go _ _ _ _ T0 (mkF m 70 #[.val (.int n), .val (.int c0), .val (.int c1)] [])
        refine own_st (fun _ k => XS.iloadN X0.here hx rfl (hb hby own_d5_70) rfl k) ?_
        show own_Go _ _ _ _ T0 (mkF m 71 #[.val (.int n), .val (.int c0), .val (.int c1)] [(.int c0)])
        refine own_st (fun _ k => XS.bipush X0.here hx rfl (hb hby own_d5_71) k) ?_
        show own_Go _ _ _ _ T0 (mkF m 73 #[.val (.int n), .val (.int c0), .val (.int c1)] [(.int (62 : Int32)), (.int c0)])
        by_cases h9 : c0 = (62 : Int32)
        · refine own_st (fun _ k => XS.icmpNo X0.here hx rfl (hb hby own_d5_73) rfl (teq (h9 : c0 = (62 : Int32))).2 k) ?_
          show own_Go _ _ _ _ T0 (mkF m 76 #[.val (.int n), .val (.int c0), .val (.int c1)] [])
          refine own_st (fun _ k => XS.iloadN X0.here hx rfl (hb hby own_d5_76) rfl k) ?_
          show own_Go _ _ _ _ T0 (mkF m 77 #[.val (.int n), .val (.int c0), .val (.int c1)] [(.int c1)])
          refine own_st (fun _ k => XS.bipush X0.here hx rfl (hb hby own_d5_77) k) ?_
          show own_Go _ _ _ _ T0 (mkF m 79 #[.val (.int n), .val (.int c0), .val (.int c1)] [(.int (61 : Int32)), (.int c1)])
          by_cases h10 : c1 = (61 : Int32)
          · refine own_st (fun _ k => XS.icmpNo X0.here hx rfl (hb hby own_d5_79) rfl (teq (h10 : c1 = (61 : Int32))).2 k) ?_
            show own_Go _ _ _ _ T0 (mkF m 82 #[.val (.int n), .val (.int c0), .val (.int c1)] [])
            obtain ⟨T6, X6, e6, st6⟩ := getS2 X0 hx hZ hown (host := "") (Or.inl (own_w94 hw)) Via.refl e0 (S5.ext O0) (g := (mkF m 82 #[.val (.int n), .val (.int c0), .val (.int c1)] [])) rfl (hb hby own_d5_82)
            refine own_st st6 ?_
            show own_Go _ _ _ _ T6 (mkF m 85 #[.val (.int n), .val (.int c0), .val (.int c1)] [(.ref w5)])
            exact own_retA X6 hx hret rfl hlk rfl (hb hby own_d5_85) ⟨by simp [own_exv, *], N0, e6⟩ (by decide) (by decide)
          · refine own_st (fun _ k => XS.icmpYes X0.here hx rfl (pc0 := 79) (pc' := 86) rfl (hb hby own_d5_79) rfl (feq (h10 : ¬ (c1 = (61 : Int32)))).2 (by decide) (by decide) k) ?_
            show own_Go _ _ _ _ T0 (mkF m 86 #[.val (.int n), .val (.int c0), .val (.int c1)] [])
            refine own_st (fun _ k => XS.aconstNull X0.here hx rfl (hb hby own_d5_86) k) ?_
            show own_Go _ _ _ _ T0 (mkF m 87 #[.val (.int n), .val (.int c0), .val (.int c1)] [.null])
            exact own_retA X0 hx hret rfl hlk rfl (hb hby own_d5_87) ⟨by simp [own_exv, *], N0, e0⟩ (by decide) (by decide)
        · refine own_st (fun _ k => XS.icmpYes X0.here hx rfl (pc0 := 73) (pc' := 86) rfl (hb hby own_d5_73) rfl (feq (h9 : ¬ (c0 = (62 : Int32)))).2 (by decide) (by decide) k) ?_
          show own_Go _ _ _ _ T0 (mkF m 86 #[.val (.int n), .val (.int c0), .val (.int c1)] [])
          refine own_st (fun _ k => XS.aconstNull X0.here hx rfl (hb hby own_d5_86) k) ?_
          show own_Go _ _ _ _ T0 (mkF m 87 #[.val (.int n), .val (.int c0), .val (.int c1)] [.null])
          exact own_retA X0 hx hret rfl hlk rfl (hb hby own_d5_87) ⟨by simp [own_exv, *], N0, e0⟩ (by decide) (by decide)
    · refine own_st (fun _ k => XS.icmpYes X0.here hx rfl (pc0 := 39) (pc' := 88) rfl (hb hby own_d5_39) rfl (feq (h5 : ¬ (n = (2 : Int32)))).2 (by decide) (by decide) k) ?_
      show own_Go _ _ _ _ T0 (mkF m 88 #[.val (.int n), .val (.int c0), .val (.int c1)] [])
      refine own_st (fun _ k => XS.aconstNull X0.here hx rfl (hb hby own_d5_88) k) ?_
      show own_Go _ _ _ _ T0 (mkF m 89 #[.val (.int n), .val (.int c0), .val (.int c1)] [.null])
      exact own_retA X0 hx hret rfl hlk rfl (hb hby own_d5_89) ⟨by simp [own_exv, *], N0, e0⟩ (by decide) (by decide)
def own_law_Q (Z : State) (p1 p2 p3 p4 : Int32) (wv w0 w1 w2 w3 w4 w5 u0 u1 u2 u3 u4 u5 y_0 y_1 y_2 y_3 y_4 y_5 : Addr) (kv k_0 k_1 k_2 k_3 k_4 k_5 : ClassId) (cs : Int32) (h0 : Heap) (n0 : Nat) (v : Option Value) (h : Heap) (vm : Vm) (L : List Loc) : Prop := v = some (.int 1) ∧ Fr n0 L
set_option maxRecDepth 65536 in
set_option maxHeartbeats 40000000 in
theorem own_law (l : Launch) {Z : State} {a0 : Array Value} (hw : own_W Z a0) (ws : List Jvm.Cond) (p1 p2 p3 p4 : Int32) (wv w0 w1 w2 w3 w4 w5 u0 u1 u2 u3 u4 u5 y_0 y_1 y_2 y_3 y_4 y_5 : Addr) (kv k_0 k_1 k_2 k_3 k_4 k_5 : ClassId) (cs : Int32) (h0 : Heap) (n0 : Nat) (Z0 : n0 ≤ h0.size) (hh : Jvm.Lit.constHeld Z "java/lang/String" 7) (hcw : Jvm.Lit.compactW.before a0 Z = true) (OZ : Ext Z.heap h0) (Scs : Sta Z h0 "java/lang/String" "COMPACT_STRINGS" "Z" (.int cs)) (hcs : ¬ cs = 0) (Sv : Sta Z h0 "com/example/overflowstream/overflowstream/Query$Operator" "$VALUES" "[Lcom/example/overflowstream/overflowstream/Query$Operator;" (.ref wv)) (Vv : Arv Z h0 wv kv (.object "com/example/overflowstream/overflowstream/Query$Operator") 6 [(.ref w0), (.ref w1), (.ref w2), (.ref w3), (.ref w4), (.ref w5)] .null) (Ev : Exa Z h0 wv "[Lcom/example/overflowstream/overflowstream/Query$Operator;") (Fs0 : Fld Z h0 w0 "com/example/overflowstream/overflowstream/Query$Operator" "symbol" "Ljava/lang/String;" (.ref u0)) (Eu0 : Exa Z h0 u0 "java/lang/String") (Gv0 : Fld Z h0 u0 "java/lang/String" "value" "[B" (.ref y_0)) (Gc0 : Fld Z h0 u0 "java/lang/String" "coder" "B" (.int (0 : Int32))) (Vy0 : Arv Z h0 y_0 k_0 .byte (1 : Int32) [(.int (61 : Int32))] (.int (0 : Int32))) (Fs1 : Fld Z h0 w1 "com/example/overflowstream/overflowstream/Query$Operator" "symbol" "Ljava/lang/String;" (.ref u1)) (Eu1 : Exa Z h0 u1 "java/lang/String") (Gv1 : Fld Z h0 u1 "java/lang/String" "value" "[B" (.ref y_1)) (Gc1 : Fld Z h0 u1 "java/lang/String" "coder" "B" (.int (0 : Int32))) (Vy1 : Arv Z h0 y_1 k_1 .byte (2 : Int32) [(.int (60 : Int32)), (.int (62 : Int32))] (.int (0 : Int32))) (Fs2 : Fld Z h0 w2 "com/example/overflowstream/overflowstream/Query$Operator" "symbol" "Ljava/lang/String;" (.ref u2)) (Eu2 : Exa Z h0 u2 "java/lang/String") (Gv2 : Fld Z h0 u2 "java/lang/String" "value" "[B" (.ref y_2)) (Gc2 : Fld Z h0 u2 "java/lang/String" "coder" "B" (.int (0 : Int32))) (Vy2 : Arv Z h0 y_2 k_2 .byte (1 : Int32) [(.int (60 : Int32))] (.int (0 : Int32))) (Fs3 : Fld Z h0 w3 "com/example/overflowstream/overflowstream/Query$Operator" "symbol" "Ljava/lang/String;" (.ref u3)) (Eu3 : Exa Z h0 u3 "java/lang/String") (Gv3 : Fld Z h0 u3 "java/lang/String" "value" "[B" (.ref y_3)) (Gc3 : Fld Z h0 u3 "java/lang/String" "coder" "B" (.int (0 : Int32))) (Vy3 : Arv Z h0 y_3 k_3 .byte (2 : Int32) [(.int (60 : Int32)), (.int (61 : Int32))] (.int (0 : Int32))) (Fs4 : Fld Z h0 w4 "com/example/overflowstream/overflowstream/Query$Operator" "symbol" "Ljava/lang/String;" (.ref u4)) (Eu4 : Exa Z h0 u4 "java/lang/String") (Gv4 : Fld Z h0 u4 "java/lang/String" "value" "[B" (.ref y_4)) (Gc4 : Fld Z h0 u4 "java/lang/String" "coder" "B" (.int (0 : Int32))) (Vy4 : Arv Z h0 y_4 k_4 .byte (1 : Int32) [(.int (62 : Int32))] (.int (0 : Int32))) (Fs5 : Fld Z h0 w5 "com/example/overflowstream/overflowstream/Query$Operator" "symbol" "Ljava/lang/String;" (.ref u5)) (Eu5 : Exa Z h0 u5 "java/lang/String") (Gv5 : Fld Z h0 u5 "java/lang/String" "value" "[B" (.ref y_5)) (Gc5 : Fld Z h0 u5 "java/lang/String" "coder" "B" (.int (0 : Int32))) (Vy5 : Arv Z h0 y_5 k_5 .byte (2 : Int32) [(.int (62 : Int32)), (.int (61 : Int32))] (.int (0 : Int32))) (S0 : Sta Z h0 "com/example/overflowstream/overflowstream/Query$Operator" "EQUAL" "Lcom/example/overflowstream/overflowstream/Query$Operator;" (.ref w0)) (S1 : Sta Z h0 "com/example/overflowstream/overflowstream/Query$Operator" "NOT_EQUAL" "Lcom/example/overflowstream/overflowstream/Query$Operator;" (.ref w1)) (S2 : Sta Z h0 "com/example/overflowstream/overflowstream/Query$Operator" "LESS" "Lcom/example/overflowstream/overflowstream/Query$Operator;" (.ref w2)) (S3 : Sta Z h0 "com/example/overflowstream/overflowstream/Query$Operator" "LESS_OR_EQUAL" "Lcom/example/overflowstream/overflowstream/Query$Operator;" (.ref w3)) (S4 : Sta Z h0 "com/example/overflowstream/overflowstream/Query$Operator" "GREATER" "Lcom/example/overflowstream/overflowstream/Query$Operator;" (.ref w4)) (S5 : Sta Z h0 "com/example/overflowstream/overflowstream/Query$Operator" "GREATER_OR_EQUAL" "Lcom/example/overflowstream/overflowstream/Query$Operator;" (.ref w5)) :
    MetFree l x (head1 (Jvm.Cond.code x code maxLocals ret :: ws) room_1) (fun a U => a = #[(.int p1), (.int p2), (.int p3), (.int p4)] ∧ Z.Warmed39 U.vm ∧ U.heap = h0 ∧ (fun vm => IB Z vm []) U.vm) (fun _ _ _ _ _ => True) (fun _ U o U' => ∃ v L, o = .returned v ∧ own_law_Q Z p1 p2 p3 p4 wv w0 w1 w2 w3 w4 w5 u0 u1 u2 u3 u4 u5 y_0 y_1 y_2 y_3 y_4 y_5 kv k_0 k_1 k_2 k_3 k_4 k_5 cs h0 n0 v U'.heap U'.vm L ∧ ReturnedEndW U o U' L 24 1152) := by
  refine own_enterW (J := fun vm => IB Z vm []) (C := 24) (S := 1152) (plainFor_of_name own_pn0) ?_
  intro p e s m below meth c T0 X0 I e0 es hJ hS
  obtain ⟨hx, hby, hml, hown, hnm, hret, hlk, hZ⟩ := I
  have N0 := Fr.nil n0
  have O0 := own_extr h0
  have hk0 : 0 ≤ h0.size := Nat.zero_le _
  refine own_cast (own_ef0 m p1 p2 p3 p4) ?_
  show own_Go _ _ _ _ T0 (mkF m 0 #[.val (.int p1), .val (.int p2), .val (.int p3), .val (.int p4), .unset, .unset, .unset, .unset, .unset, .unset, .unset] [])
  refine own_st (fun _ k => XS.iloadN X0.here hx rfl (hb hby at_0) rfl k) ?_
  show own_Go _ _ _ _ T0 (mkF m 1 #[.val (.int p1), .val (.int p2), .val (.int p3), .val (.int p4), .unset, .unset, .unset, .unset, .unset, .unset, .unset] [(.int p1)])
  refine own_st (fun _ k => XS.iconst X0.here hx rfl (hb hby at_1) k) ?_
  show own_Go _ _ _ _ T0 (mkF m 2 #[.val (.int p1), .val (.int p2), .val (.int p3), .val (.int p4), .unset, .unset, .unset, .unset, .unset, .unset, .unset] [(.int (3 : Int32)), (.int p1)])
  refine own_st (fun _ k => XS.iand X0.here hx rfl (hb hby at_2) rfl k) ?_
  show own_Go _ _ _ _ T0 (mkF m 3 #[.val (.int p1), .val (.int p2), .val (.int p3), .val (.int p4), .unset, .unset, .unset, .unset, .unset, .unset, .unset] [(.int (p1 &&& (3 : Int32)))])
  refine own_st (fun _ k => XS.istore X0.here hx rfl (hb hby at_3) rfl (l' := #[.val (.int p1), .val (.int p2), .val (.int p3), .val (.int p4), .val (.int (p1 &&& (3 : Int32))), .unset, .unset, .unset, .unset, .unset, .unset]) rfl k) ?_
  show own_Go _ _ _ _ T0 (mkF m 5 #[.val (.int p1), .val (.int p2), .val (.int p3), .val (.int p4), .val (.int (p1 &&& (3 : Int32))), .unset, .unset, .unset, .unset, .unset, .unset] [])
  refine own_st (fun _ k => XS.iloadN X0.here hx rfl (hb hby at_5) rfl k) ?_
  show own_Go _ _ _ _ T0 (mkF m 6 #[.val (.int p1), .val (.int p2), .val (.int p3), .val (.int p4), .val (.int (p1 &&& (3 : Int32))), .unset, .unset, .unset, .unset, .unset, .unset] [(.int p2)])
  obtain ⟨v1, T1, L1, hQ1, X1, st1⟩ := own_callS X0 hx hZ (y := (⟨"com/example/overflowstream/overflowstream/OperatorWrittenPinLaw", "pick", "(I)C"⟩ : MethodName)) hown (own_w0 hw) (own_w1 hw) (own_w2 hw) (own_w3 hw) (by decide) (own_pick l hw [] p2 h0 n0 (Nat.le_trans Z0 O0.1)) e0 (g := (mkF m 6 #[.val (.int p1), .val (.int p2), .val (.int p3), .val (.int p4), .val (.int (p1 &&& (3 : Int32))), .unset, .unset, .unset, .unset, .unset, .unset] [(.int p2)])) rfl (by rw [hml]; rfl) (argsL := [(.int p2)]) (rest := []) (lenOf own_pd10 rfl) rfl rfl (W := 0) (Nat.le_of_eq rfl) (hb hby at_6) (by decide) (by decide) (by decide) (by decide)
  obtain ⟨rfl, N1, e1⟩ := hQ1
  have N1' := Fr.app N0 N1
  refine own_st st1 ?_
  show own_Go _ _ _ _ T1 (mkF m 9 #[.val (.int p1), .val (.int p2), .val (.int p3), .val (.int p4), .val (.int (p1 &&& (3 : Int32))), .unset, .unset, .unset, .unset, .unset, .unset] [(.int (own_pk p2))])
  refine own_st (fun _ k => XS.istore X1.here hx rfl (hb hby at_9) rfl (l' := #[.val (.int p1), .val (.int p2), .val (.int p3), .val (.int p4), .val (.int (p1 &&& (3 : Int32))), .val (.int (own_pk p2)), .unset, .unset, .unset, .unset, .unset]) rfl k) ?_
  show own_Go _ _ _ _ T1 (mkF m 11 #[.val (.int p1), .val (.int p2), .val (.int p3), .val (.int p4), .val (.int (p1 &&& (3 : Int32))), .val (.int (own_pk p2)), .unset, .unset, .unset, .unset, .unset] [])
  refine own_st (fun _ k => XS.iloadN X1.here hx rfl (hb hby at_11) rfl k) ?_
  show own_Go _ _ _ _ T1 (mkF m 12 #[.val (.int p1), .val (.int p2), .val (.int p3), .val (.int p4), .val (.int (p1 &&& (3 : Int32))), .val (.int (own_pk p2)), .unset, .unset, .unset, .unset, .unset] [(.int p3)])
  obtain ⟨v2, T2, L2, hQ2, X2, st2⟩ := own_callS X1 hx hZ (y := (⟨"com/example/overflowstream/overflowstream/OperatorWrittenPinLaw", "pick", "(I)C"⟩ : MethodName)) hown (own_w0 hw) (own_w1 hw) (own_w2 hw) (own_w3 hw) (by decide) (own_pick l hw [] p3 h0 n0 (Nat.le_trans Z0 O0.1)) e1 (g := (mkF m 12 #[.val (.int p1), .val (.int p2), .val (.int p3), .val (.int p4), .val (.int (p1 &&& (3 : Int32))), .val (.int (own_pk p2)), .unset, .unset, .unset, .unset, .unset] [(.int p3)])) rfl (by rw [hml]; rfl) (argsL := [(.int p3)]) (rest := []) (lenOf own_pd10 rfl) rfl rfl (W := 0) (Nat.le_of_eq rfl) (hb hby at_12) (by decide) (by decide) (by decide) (by decide)
  obtain ⟨rfl, N2, e2⟩ := hQ2
  have N2' := Fr.app N1' N2
  refine own_st st2 ?_
  show own_Go _ _ _ _ T2 (mkF m 15 #[.val (.int p1), .val (.int p2), .val (.int p3), .val (.int p4), .val (.int (p1 &&& (3 : Int32))), .val (.int (own_pk p2)), .unset, .unset, .unset, .unset, .unset] [(.int (own_pk p3))])
  refine own_st (fun _ k => XS.istore X2.here hx rfl (hb hby at_15) rfl (l' := #[.val (.int p1), .val (.int p2), .val (.int p3), .val (.int p4), .val (.int (p1 &&& (3 : Int32))), .val (.int (own_pk p2)), .val (.int (own_pk p3)), .unset, .unset, .unset, .unset]) rfl k) ?_
  show own_Go _ _ _ _ T2 (mkF m 17 #[.val (.int p1), .val (.int p2), .val (.int p3), .val (.int p4), .val (.int (p1 &&& (3 : Int32))), .val (.int (own_pk p2)), .val (.int (own_pk p3)), .unset, .unset, .unset, .unset] [])
  refine own_st (fun _ k => XS.iloadN X2.here hx rfl (hb hby at_17) rfl k) ?_
  show own_Go _ _ _ _ T2 (mkF m 18 #[.val (.int p1), .val (.int p2), .val (.int p3), .val (.int p4), .val (.int (p1 &&& (3 : Int32))), .val (.int (own_pk p2)), .val (.int (own_pk p3)), .unset, .unset, .unset, .unset] [(.int p4)])
  obtain ⟨v3, T3, L3, hQ3, X3, st3⟩ := own_callS X2 hx hZ (y := (⟨"com/example/overflowstream/overflowstream/OperatorWrittenPinLaw", "pick", "(I)C"⟩ : MethodName)) hown (own_w0 hw) (own_w1 hw) (own_w2 hw) (own_w3 hw) (by decide) (own_pick l hw [] p4 h0 n0 (Nat.le_trans Z0 O0.1)) e2 (g := (mkF m 18 #[.val (.int p1), .val (.int p2), .val (.int p3), .val (.int p4), .val (.int (p1 &&& (3 : Int32))), .val (.int (own_pk p2)), .val (.int (own_pk p3)), .unset, .unset, .unset, .unset] [(.int p4)])) rfl (by rw [hml]; rfl) (argsL := [(.int p4)]) (rest := []) (lenOf own_pd10 rfl) rfl rfl (W := 0) (Nat.le_of_eq rfl) (hb hby at_18) (by decide) (by decide) (by decide) (by decide)
  obtain ⟨rfl, N3, e3⟩ := hQ3
  have N3' := Fr.app N2' N3
  refine own_st st3 ?_
  show own_Go _ _ _ _ T3 (mkF m 21 #[.val (.int p1), .val (.int p2), .val (.int p3), .val (.int p4), .val (.int (p1 &&& (3 : Int32))), .val (.int (own_pk p2)), .val (.int (own_pk p3)), .unset, .unset, .unset, .unset] [(.int (own_pk p4))])
  refine own_st (fun _ k => XS.istore X3.here hx rfl (hb hby at_21) rfl (l' := #[.val (.int p1), .val (.int p2), .val (.int p3), .val (.int p4), .val (.int (p1 &&& (3 : Int32))), .val (.int (own_pk p2)), .val (.int (own_pk p3)), .val (.int (own_pk p4)), .unset, .unset, .unset]) rfl k) ?_
  show own_Go _ _ _ _ T3 (mkF m 23 #[.val (.int p1), .val (.int p2), .val (.int p3), .val (.int p4), .val (.int (p1 &&& (3 : Int32))), .val (.int (own_pk p2)), .val (.int (own_pk p3)), .val (.int (own_pk p4)), .unset, .unset, .unset] [])
  have hc0 := own_pk_ch p2
  generalize own_pk p2 = c0 at hc0 ⊢
  have hc1 := own_pk_ch p3
  generalize own_pk p3 = c1 at hc1 ⊢
  have hc2 := own_pk_ch p4
  generalize own_pk p4 = c2 at hc2 ⊢
  show own_Go _ _ _ _ T3 (mkF m 23 #[.val (.int p1), .val (.int p2), .val (.int p3), .val (.int p4), .val (.int (p1 &&& (3 : Int32))), .val (.int c0), .val (.int c1), .val (.int c2), .unset, .unset, .unset] [])
  rcases own_and3 p1 with hn | hn | hn | hn
  · rw [hn]
    show own_Go _ _ _ _ T3 (mkF m 23 #[.val (.int p1), .val (.int p2), .val (.int p3), .val (.int p4), .val (.int (0 : Int32)), .val (.int c0), .val (.int c1), .val (.int c2), .unset, .unset, .unset] [])
    refine own_st (fun _ k => XS.iload X3.here hx rfl (hb hby at_23) rfl k) ?_
    show own_Go _ _ _ _ T3 (mkF m 25 #[.val (.int p1), .val (.int p2), .val (.int p3), .val (.int p4), .val (.int (0 : Int32)), .val (.int c0), .val (.int c1), .val (.int c2), .unset, .unset, .unset] [(.int (0 : Int32))])
    refine own_st (fun _ k => XS.ifNo X3.here hx rfl (hb hby at_25) rfl ((if0 _ _).trans (teq (by decide : (0 : Int32) = (0 : Int32))).2) k) ?_
    show own_Go _ _ _ _ T3 (mkF m 28 #[.val (.int p1), .val (.int p2), .val (.int p3), .val (.int p4), .val (.int (0 : Int32)), .val (.int c0), .val (.int c1), .val (.int c2), .unset, .unset, .unset] [])
    obtain ⟨T4, hp4, X4, e4, Et4, A4, D4, -, st4⟩ := newO X3 hx hZ hown (own_w4 hw) (own_w5 hw) (own_w6 hw) e3 (g := (mkF m 28 #[.val (.int p1), .val (.int p2), .val (.int p3), .val (.int p4), .val (.int (0 : Int32)), .val (.int c0), .val (.int c1), .val (.int c2), .unset, .unset, .unset] [])) rfl (hb hby at_28) (by decide) (by decide)
    obtain ⟨b4, g4⟩ : ∃ z, z = h0.size := ⟨_, rfl⟩
    rw [← g4] at A4 D4 st4
    have s_b4 : h0.size ≤ b4 := Nat.le_trans O0.1 (Nat.le_of_eq g4.symm)
    have g_b4 : n0 ≤ b4 := Nat.le_trans Z0 s_b4
    have hk4 := Nat.le_trans hk0 Et4.1
    have O4 := own_extt O0 Et4
    have F_value_b4 : Fld Z hp4 b4 "java/lang/String" "value" "[B" .null := D4 (Or.inr (own_w20 hw)) (ty := (.array .byte)) (by decide)
    have F_coder_b4 : Fld Z hp4 b4 "java/lang/String" "coder" "B" (.int (0 : Int32)) := D4 (Or.inr (own_w21 hw)) (ty := .byte) (by decide)
    refine own_st st4 ?_
    show own_Go _ _ _ _ T4 (mkF m 31 #[.val (.int p1), .val (.int p2), .val (.int p3), .val (.int p4), .val (.int (0 : Int32)), .val (.int c0), .val (.int c1), .val (.int c2), .unset, .unset, .unset] [(.ref b4)])
    refine own_st (fun _ k => XS.dup X4.here hx rfl (hb hby at_31) rfl rfl k) ?_
    show own_Go _ _ _ _ T4 (mkF m 32 #[.val (.int p1), .val (.int p2), .val (.int p3), .val (.int p4), .val (.int (0 : Int32)), .val (.int c0), .val (.int c1), .val (.int c2), .unset, .unset, .unset] [(.ref b4), (.ref b4)])
    refine own_st (fun _ k => XS.iconst X4.here hx rfl (hb hby at_32) k) ?_
    show own_Go _ _ _ _ T4 (mkF m 33 #[.val (.int p1), .val (.int p2), .val (.int p3), .val (.int p4), .val (.int (0 : Int32)), .val (.int c0), .val (.int c1), .val (.int c2), .unset, .unset, .unset] [(.int (0 : Int32)), (.ref b4), (.ref b4)])
    obtain ⟨T5, hp5, kk5, X5, e5, Et5, A5, st5⟩ := newP X4 hx hZ (aty := .char) (own_w7 hw) e4 (g := (mkF m 33 #[.val (.int p1), .val (.int p2), .val (.int p3), .val (.int p4), .val (.int (0 : Int32)), .val (.int c0), .val (.int c1), .val (.int c2), .unset, .unset, .unset] [(.int (0 : Int32)), (.ref b4), (.ref b4)])) rfl (hb hby at_33) rfl (by decide) (cap := 0) (by decide) (by decide) (by decide) (by decide)
    obtain ⟨b5, g5⟩ : ∃ z, z = hp4.size := ⟨_, rfl⟩
    rw [← g5] at A5 st5
    have s_b5 : h0.size ≤ b5 := Nat.le_trans O4.1 (Nat.le_of_eq g5.symm)
    have g_b5 : n0 ≤ b5 := Nat.le_trans Z0 s_b5
    have lt_b4_b5 : b4 < b5 := Nat.lt_of_lt_of_le A4.lt (Nat.le_of_eq g5.symm)
    have hk5 := Nat.le_trans hk4 Et5.1
    have O5 := own_extt O4 Et5
    have Ex_b4_5 := A4.ext Et5
    have F_value_b4_5 := F_value_b4.ext Et5
    have F_coder_b4_5 := F_coder_b4.ext Et5
    have Va5 : Arv Z hp5 b5 kk5 .char (0 : Int32) [] (.int (0 : Int32)) := (Arv.new A5 (by decide)).pad (pad_rep [] (.int (0 : Int32)) 0)
    refine own_st st5 ?_
    show own_Go _ _ _ _ T5 (mkF m 35 #[.val (.int p1), .val (.int p2), .val (.int p3), .val (.int p4), .val (.int (0 : Int32)), .val (.int c0), .val (.int c1), .val (.int c2), .unset, .unset, .unset] [(.ref b5), (.ref b4), (.ref b4)])
    obtain ⟨v6, T6, L6, hQ6, X6, hS, hZ, hown, st6⟩ := own_callIW (J := fun vm => IB Z vm []) X5 hS (by rw [e5]; exact hk5) hx hZ (y := (⟨"java/lang/String", "<init>", "([C)V"⟩ : MethodName)) rfl hown (own_w8 hw) (own_w9 hw) (own_w6 hw) (own_w10 hw) (by decide) (own_cc0 l hw [] b4 b5 kk5 hp5 n0 (Nat.le_trans Z0 O5.1) hh hcw (own_extt OZ O5) g_b4 Ex_b4_5 F_value_b4_5 F_coder_b4_5 Va5) (fun vm q => own_ibw hJ q) e5 (g := (mkF m 35 #[.val (.int p1), .val (.int p2), .val (.int p3), .val (.int p4), .val (.int (0 : Int32)), .val (.int c0), .val (.int c1), .val (.int c2), .unset, .unset, .unset] [(.ref b5), (.ref b4), (.ref b4)])) rfl (by rw [hml]; rfl) (argsL := [(.ref b5)]) (rest := [(.ref b4)]) (lenOf own_pd11 rfl) rfl rfl (W := 1) (Nat.le_of_eq rfl) (hb hby at_35) (by decide) (by decide) (by decide) (by decide)
    obtain ⟨rfl, N6, K6, bv, kb, Fvb, Fcb, Vb⟩ := hQ6
    have hk6 : T6.heap.size ≤ T6.heap.size := Nat.le_refl _
    have O6 := own_extk O5 K6 s_b4
    have V_b5_6 := Va5.keep K6 (ninS (Nat.ne_of_gt lt_b4_b5) nin0)
    have Ex_b4_6 := Ex_b4_5.keep K6
    have N6' := Fr.app N3' N6
    refine own_st st6 ?_
    show own_Go _ _ _ _ T6 (mkF m 38 #[.val (.int p1), .val (.int p2), .val (.int p3), .val (.int p4), .val (.int (0 : Int32)), .val (.int c0), .val (.int c1), .val (.int c2), .unset, .unset, .unset] [(.ref b4)])
    have dn0 : ¬ u0 = b4 := fun e => absurd (e ▸ Eu0.lt) (Nat.not_lt.mpr s_b4)
    have dn1 : ¬ u1 = b4 := fun e => absurd (e ▸ Eu1.lt) (Nat.not_lt.mpr s_b4)
    have dn2 : ¬ u2 = b4 := fun e => absurd (e ▸ Eu2.lt) (Nat.not_lt.mpr s_b4)
    have dn3 : ¬ u3 = b4 := fun e => absurd (e ▸ Eu3.lt) (Nat.not_lt.mpr s_b4)
    have dn4 : ¬ u4 = b4 := fun e => absurd (e ▸ Eu4.lt) (Nat.not_lt.mpr s_b4)
    have dn5 : ¬ u5 = b4 := fun e => absurd (e ▸ Eu5.lt) (Nat.not_lt.mpr s_b4)
    refine own_st (fun _ k => XS.astore X6.here hx rfl (hb hby at_38) rfl rfl (l' := #[.val (.int p1), .val (.int p2), .val (.int p3), .val (.int p4), .val (.int (0 : Int32)), .val (.int c0), .val (.int c1), .val (.int c2), .val (.ref b4), .unset, .unset]) rfl k) ?_
    show own_Go _ _ _ _ T6 (mkF m 40 #[.val (.int p1), .val (.int p2), .val (.int p3), .val (.int p4), .val (.int (0 : Int32)), .val (.int c0), .val (.int c1), .val (.int c2), .val (.ref b4), .unset, .unset] [])
    refine own_st (fun _ k => XS.goto X6.here hx rfl (pc0 := 40) (pc' := 117) rfl (hb hby at_40) (by decide) (by decide) k) ?_
    show own_Go _ _ _ _ T6 (mkF m 117 #[.val (.int p1), .val (.int p2), .val (.int p3), .val (.int p4), .val (.int (0 : Int32)), .val (.int c0), .val (.int c1), .val (.int c2), .val (.ref b4), .unset, .unset] [])
    refine own_st (fun _ k => XS.iload X6.here hx rfl (hb hby at_117) rfl k) ?_
    show own_Go _ _ _ _ T6 (mkF m 119 #[.val (.int p1), .val (.int p2), .val (.int p3), .val (.int p4), .val (.int (0 : Int32)), .val (.int c0), .val (.int c1), .val (.int c2), .val (.ref b4), .unset, .unset] [(.int (0 : Int32))])
    refine own_st (fun _ k => XS.iload X6.here hx rfl (hb hby at_119) rfl k) ?_
    show own_Go _ _ _ _ T6 (mkF m 121 #[.val (.int p1), .val (.int p2), .val (.int p3), .val (.int p4), .val (.int (0 : Int32)), .val (.int c0), .val (.int c1), .val (.int c2), .val (.ref b4), .unset, .unset] [(.int c0), (.int (0 : Int32))])
    refine own_st (fun _ k => XS.iload X6.here hx rfl (hb hby at_121) rfl k) ?_
    show own_Go _ _ _ _ T6 (mkF m 123 #[.val (.int p1), .val (.int p2), .val (.int p3), .val (.int p4), .val (.int (0 : Int32)), .val (.int c0), .val (.int c1), .val (.int c2), .val (.ref b4), .unset, .unset] [(.int c1), (.int c0), (.int (0 : Int32))])
    show own_Go _ _ _ _ T6 (mkF m 123 #[.val (.int p1), .val (.int p2), .val (.int p3), .val (.int p4), .val (.int (0 : Int32)), .val (.int c0), .val (.int c1), .val (.int c2), .val (.ref b4), .unset, .unset] [(.int c1), (.int c0), (.int (0 : Int32))])
    obtain ⟨v7, T7, L7, hQ7, X7, st7⟩ := own_callS X6 hx hZ (y := (⟨"com/example/overflowstream/overflowstream/OperatorWrittenPinLaw", "expected", "(ICC)Lcom/example/overflowstream/overflowstream/Query$Operator;"⟩ : MethodName)) hown (own_w26 hw) (own_w27 hw) (own_w2 hw) (own_w28 hw) (by decide) (own_ex l hw [] (0 : Int32) c0 c1 w0 w1 w2 w3 w4 w5 T6.heap n0 (Nat.le_trans Z0 O6.1) (S0.ext O6) (S1.ext O6) (S2.ext O6) (S3.ext O6) (S4.ext O6) (S5.ext O6)) rfl (g := (mkF m 123 #[.val (.int p1), .val (.int p2), .val (.int p3), .val (.int p4), .val (.int (0 : Int32)), .val (.int c0), .val (.int c1), .val (.int c2), .val (.ref b4), .unset, .unset] [(.int c1), (.int c0), (.int (0 : Int32))])) rfl (by rw [hml]; rfl) (argsL := [(.int (0 : Int32)), (.int c0), (.int c1)]) (rest := []) (lenOf own_pd12 rfl) rfl rfl (W := 0) (Nat.le_of_eq rfl) (hb hby at_123) (by decide) (by decide) (by decide) (by decide)
    obtain ⟨rfl, N7, e7⟩ := hQ7
    have N7' := Fr.app N6' N7
    refine own_st st7 ?_
    show own_Go _ _ _ _ T7 (mkF m 126 #[.val (.int p1), .val (.int p2), .val (.int p3), .val (.int p4), .val (.int (0 : Int32)), .val (.int c0), .val (.int c1), .val (.int c2), .val (.ref b4), .unset, .unset] [(own_exv (0 : Int32) c0 c1 w0 w1 w2 w3 w4 w5)])
    show own_Go _ _ _ _ T7 (mkF m 126 #[.val (.int p1), .val (.int p2), .val (.int p3), .val (.int p4), .val (.int (0 : Int32)), .val (.int c0), .val (.int c1), .val (.int c2), .val (.ref b4), .unset, .unset] [(own_exv (0 : Int32) c0 c1 w0 w1 w2 w3 w4 w5)])
    rw [show (own_exv (0 : Int32) c0 c1 w0 w1 w2 w3 w4 w5) = .null from by (simp [own_exv])]
    show own_Go _ _ _ _ T7 (mkF m 126 #[.val (.int p1), .val (.int p2), .val (.int p3), .val (.int p4), .val (.int (0 : Int32)), .val (.int c0), .val (.int c1), .val (.int c2), .val (.ref b4), .unset, .unset] [.null])
    refine own_st (fun _ k => XS.astore X7.here hx rfl (hb hby at_126) rfl rfl (l' := #[.val (.int p1), .val (.int p2), .val (.int p3), .val (.int p4), .val (.int (0 : Int32)), .val (.int c0), .val (.int c1), .val (.int c2), .val (.ref b4), .val .null, .unset]) rfl k) ?_
    show own_Go _ _ _ _ T7 (mkF m 128 #[.val (.int p1), .val (.int p2), .val (.int p3), .val (.int p4), .val (.int (0 : Int32)), .val (.int c0), .val (.int c1), .val (.int c2), .val (.ref b4), .val .null, .unset] [])
    refine own_st (fun _ k => XS.aload X7.here hx rfl (hb hby at_128) rfl rfl k) ?_
    show own_Go _ _ _ _ T7 (mkF m 130 #[.val (.int p1), .val (.int p2), .val (.int p3), .val (.int p4), .val (.int (0 : Int32)), .val (.int c0), .val (.int c1), .val (.int c2), .val (.ref b4), .val .null, .unset] [(.ref b4)])
    obtain ⟨v8, T8, L8, hQ8, X8, st8⟩ := own_callS X7 hx hZ (y := (⟨"com/example/overflowstream/overflowstream/Query$Operator", "written", "(Ljava/lang/String;)Lcom/example/overflowstream/overflowstream/Query$Operator;"⟩ : MethodName)) hown (own_w29 hw) (own_w30 hw) (own_w31 hw) (own_w32 hw) (by decide) (own_wr0 l hw [] b4 bv kb wv w0 w1 w2 w3 w4 w5 u0 u1 u2 u3 u4 u5 y_0 y_1 y_2 y_3 y_4 y_5 kv k_0 k_1 k_2 k_3 k_4 k_5 cs  T6.heap n0 (Nat.le_trans Z0 O6.1) (Scs.ext O6) hcs (Sv.ext O6) (Vv.ext O6) (Ev.ext O6) (Fs0.ext O6) (Eu0.ext O6) (Gv0.ext O6) (Gc0.ext O6) (Vy0.ext O6) (Fs1.ext O6) (Eu1.ext O6) (Gv1.ext O6) (Gc1.ext O6) (Vy1.ext O6) (Fs2.ext O6) (Eu2.ext O6) (Gv2.ext O6) (Gc2.ext O6) (Vy2.ext O6) (Fs3.ext O6) (Eu3.ext O6) (Gv3.ext O6) (Gc3.ext O6) (Vy3.ext O6) (Fs4.ext O6) (Eu4.ext O6) (Gv4.ext O6) (Gc4.ext O6) (Vy4.ext O6) (Fs5.ext O6) (Eu5.ext O6) (Gv5.ext O6) (Gc5.ext O6) (Vy5.ext O6) dn0 dn1 dn2 dn3 dn4 dn5 Ex_b4_6 Fvb Fcb Vb) e7 (g := (mkF m 130 #[.val (.int p1), .val (.int p2), .val (.int p3), .val (.int p4), .val (.int (0 : Int32)), .val (.int c0), .val (.int c1), .val (.int c2), .val (.ref b4), .val .null, .unset] [(.ref b4)])) rfl (by rw [hml]; rfl) (argsL := [(.ref b4)]) (rest := []) (lenOf own_pd13 rfl) rfl rfl (W := 0) (Nat.le_of_eq rfl) (hb hby at_130) (by decide) (by decide) (by decide) (by decide)
    obtain ⟨rfl, N8, Et8⟩ := hQ8
    have hk8 := Nat.le_trans hk6 Et8.1
    have O8 := own_extt O6 Et8
    have V_bv_8 := Vb.ext Et8
    have Ex_b4_8 := Ex_b4_6.ext Et8
    have F_value_b4_8 := Fvb.ext Et8
    have F_coder_b4_8 := Fcb.ext Et8
    have N8' := Fr.app N7' N8
    refine own_st st8 ?_
    show own_Go _ _ _ _ T8 (mkF m 133 #[.val (.int p1), .val (.int p2), .val (.int p3), .val (.int p4), .val (.int (0 : Int32)), .val (.int c0), .val (.int c1), .val (.int c2), .val (.ref b4), .val .null, .unset] [.null])
    refine own_st (fun _ k => XS.astore X8.here hx rfl (hb hby at_133) rfl rfl (l' := #[.val (.int p1), .val (.int p2), .val (.int p3), .val (.int p4), .val (.int (0 : Int32)), .val (.int c0), .val (.int c1), .val (.int c2), .val (.ref b4), .val .null, .val .null]) rfl k) ?_
    show own_Go _ _ _ _ T8 (mkF m 135 #[.val (.int p1), .val (.int p2), .val (.int p3), .val (.int p4), .val (.int (0 : Int32)), .val (.int c0), .val (.int c1), .val (.int c2), .val (.ref b4), .val .null, .val .null] [])
    refine own_st (fun _ k => XS.aload X8.here hx rfl (hb hby at_135) rfl rfl k) ?_
    show own_Go _ _ _ _ T8 (mkF m 137 #[.val (.int p1), .val (.int p2), .val (.int p3), .val (.int p4), .val (.int (0 : Int32)), .val (.int c0), .val (.int c1), .val (.int c2), .val (.ref b4), .val .null, .val .null] [.null])
    refine own_st (fun _ k => XS.aload X8.here hx rfl (hb hby at_137) rfl rfl k) ?_
    show own_Go _ _ _ _ T8 (mkF m 139 #[.val (.int p1), .val (.int p2), .val (.int p3), .val (.int p4), .val (.int (0 : Int32)), .val (.int c0), .val (.int c1), .val (.int c2), .val (.ref b4), .val .null, .val .null] [.null, .null])
    refine own_st (fun _ k => Jvm.RoadKit.acmp (g := (mkF m 139 #[.val (.int p1), .val (.int p2), .val (.int p3), .val (.int p4), .val (.int (0 : Int32)), .val (.int c0), .val (.int c1), .val (.int c2), .val (.ref b4), .val .null, .val .null] [.null, .null])) X8 hx rfl rfl rfl (pc0 := 139) (pc' := 142) (same := true) rfl (hb hby at_139) rfl (decide_eq_true rfl) (by decide) (by decide) k) ?_
    show own_Go _ _ _ _ T8 (mkF m 142 #[.val (.int p1), .val (.int p2), .val (.int p3), .val (.int p4), .val (.int (0 : Int32)), .val (.int c0), .val (.int c1), .val (.int c2), .val (.ref b4), .val .null, .val .null] [])
    refine own_st (fun _ k => XS.iconst X8.here hx rfl (hb hby at_142) k) ?_
    show own_Go _ _ _ _ T8 (mkF m 143 #[.val (.int p1), .val (.int p2), .val (.int p3), .val (.int p4), .val (.int (0 : Int32)), .val (.int c0), .val (.int c1), .val (.int c2), .val (.ref b4), .val .null, .val .null] [(.int (1 : Int32))])
    refine own_st (fun _ k => XS.goto X8.here hx rfl (pc0 := 143) (pc' := 147) rfl (hb hby at_143) (by decide) (by decide) k) ?_
    show own_Go _ _ _ _ T8 (mkF m 147 #[.val (.int p1), .val (.int p2), .val (.int p3), .val (.int p4), .val (.int (0 : Int32)), .val (.int c0), .val (.int c1), .val (.int c2), .val (.ref b4), .val .null, .val .null] [(.int (1 : Int32))])
    exact own_retNW X8 hS hk8 hx hret (by simp) hlk (hb hby at_147) ⟨rfl, N8'⟩ (by decide) (by decide)
  · rw [hn]
    show own_Go _ _ _ _ T3 (mkF m 23 #[.val (.int p1), .val (.int p2), .val (.int p3), .val (.int p4), .val (.int (1 : Int32)), .val (.int c0), .val (.int c1), .val (.int c2), .unset, .unset, .unset] [])
    refine own_st (fun _ k => XS.iload X3.here hx rfl (hb hby at_23) rfl k) ?_
    show own_Go _ _ _ _ T3 (mkF m 25 #[.val (.int p1), .val (.int p2), .val (.int p3), .val (.int p4), .val (.int (1 : Int32)), .val (.int c0), .val (.int c1), .val (.int c2), .unset, .unset, .unset] [(.int (1 : Int32))])
    refine own_st (fun _ k => XS.ifYes X3.here hx rfl (pc0 := 25) (pc' := 43) rfl (hb hby at_25) rfl ((if0 _ _).trans (feq (by decide : ¬ ((1 : Int32) = (0 : Int32)))).2) (by decide) (by decide) k) ?_
    show own_Go _ _ _ _ T3 (mkF m 43 #[.val (.int p1), .val (.int p2), .val (.int p3), .val (.int p4), .val (.int (1 : Int32)), .val (.int c0), .val (.int c1), .val (.int c2), .unset, .unset, .unset] [])
    refine own_st (fun _ k => XS.iload X3.here hx rfl (hb hby at_43) rfl k) ?_
    show own_Go _ _ _ _ T3 (mkF m 45 #[.val (.int p1), .val (.int p2), .val (.int p3), .val (.int p4), .val (.int (1 : Int32)), .val (.int c0), .val (.int c1), .val (.int c2), .unset, .unset, .unset] [(.int (1 : Int32))])
    refine own_st (fun _ k => XS.iconst X3.here hx rfl (hb hby at_45) k) ?_
    show own_Go _ _ _ _ T3 (mkF m 46 #[.val (.int p1), .val (.int p2), .val (.int p3), .val (.int p4), .val (.int (1 : Int32)), .val (.int c0), .val (.int c1), .val (.int c2), .unset, .unset, .unset] [(.int (1 : Int32)), (.int (1 : Int32))])
    refine own_st (fun _ k => XS.icmpNo X3.here hx rfl (hb hby at_46) rfl (teq (by decide : (1 : Int32) = (1 : Int32))).2 k) ?_
    show own_Go _ _ _ _ T3 (mkF m 49 #[.val (.int p1), .val (.int p2), .val (.int p3), .val (.int p4), .val (.int (1 : Int32)), .val (.int c0), .val (.int c1), .val (.int c2), .unset, .unset, .unset] [])
    refine own_st (fun _ k => XS.iload X3.here hx rfl (hb hby at_49) rfl k) ?_
    show own_Go _ _ _ _ T3 (mkF m 51 #[.val (.int p1), .val (.int p2), .val (.int p3), .val (.int p4), .val (.int (1 : Int32)), .val (.int c0), .val (.int c1), .val (.int c2), .unset, .unset, .unset] [(.int c0)])
    obtain ⟨v9, T9, L9, hQ9, X9, st9⟩ := own_callS X3 hx hZ (y := (⟨"java/lang/String", "valueOf", "(C)Ljava/lang/String;"⟩ : MethodName)) hown (own_w77 hw) (own_w78 hw) (own_w6 hw) (own_w79 hw) (by decide) (own_vo l hw [] c0 cs h0 n0 (Nat.le_trans Z0 O0.1) hc0 (Scs.ext O0) hcs) e3 (g := (mkF m 51 #[.val (.int p1), .val (.int p2), .val (.int p3), .val (.int p4), .val (.int (1 : Int32)), .val (.int c0), .val (.int c1), .val (.int c2), .unset, .unset, .unset] [(.int c0)])) rfl (by rw [hml]; rfl) (argsL := [(.int c0)]) (rest := []) (lenOf own_pd14 rfl) rfl rfl (W := 0) (Nat.le_of_eq rfl) (hb hby at_51) (by decide) (by decide) (by decide) (by decide)
    obtain ⟨b, bv, kb, rfl, N9, Et9, sb, Eb, Fvb, Fcb, Vb⟩ := hQ9
    have sb0 := Nat.le_trans O0.1 sb
    have hk9 := Nat.le_trans hk0 Et9.1
    have O9 := own_extt O0 Et9
    have N9' := Fr.app N3' N9
    refine own_st st9 ?_
    show own_Go _ _ _ _ T9 (mkF m 54 #[.val (.int p1), .val (.int p2), .val (.int p3), .val (.int p4), .val (.int (1 : Int32)), .val (.int c0), .val (.int c1), .val (.int c2), .unset, .unset, .unset] [(.ref b)])
    have dn0 : ¬ u0 = b := fun e => absurd (e ▸ Eu0.lt) (Nat.not_lt.mpr sb0)
    have dn1 : ¬ u1 = b := fun e => absurd (e ▸ Eu1.lt) (Nat.not_lt.mpr sb0)
    have dn2 : ¬ u2 = b := fun e => absurd (e ▸ Eu2.lt) (Nat.not_lt.mpr sb0)
    have dn3 : ¬ u3 = b := fun e => absurd (e ▸ Eu3.lt) (Nat.not_lt.mpr sb0)
    have dn4 : ¬ u4 = b := fun e => absurd (e ▸ Eu4.lt) (Nat.not_lt.mpr sb0)
    have dn5 : ¬ u5 = b := fun e => absurd (e ▸ Eu5.lt) (Nat.not_lt.mpr sb0)
    refine own_st (fun _ k => XS.astore X9.here hx rfl (hb hby at_54) rfl rfl (l' := #[.val (.int p1), .val (.int p2), .val (.int p3), .val (.int p4), .val (.int (1 : Int32)), .val (.int c0), .val (.int c1), .val (.int c2), .val (.ref b), .unset, .unset]) rfl k) ?_
    show own_Go _ _ _ _ T9 (mkF m 56 #[.val (.int p1), .val (.int p2), .val (.int p3), .val (.int p4), .val (.int (1 : Int32)), .val (.int c0), .val (.int c1), .val (.int c2), .val (.ref b), .unset, .unset] [])
    refine own_st (fun _ k => XS.goto X9.here hx rfl (pc0 := 56) (pc' := 117) rfl (hb hby at_56) (by decide) (by decide) k) ?_
    show own_Go _ _ _ _ T9 (mkF m 117 #[.val (.int p1), .val (.int p2), .val (.int p3), .val (.int p4), .val (.int (1 : Int32)), .val (.int c0), .val (.int c1), .val (.int c2), .val (.ref b), .unset, .unset] [])
    refine own_st (fun _ k => XS.iload X9.here hx rfl (hb hby at_117) rfl k) ?_
    show own_Go _ _ _ _ T9 (mkF m 119 #[.val (.int p1), .val (.int p2), .val (.int p3), .val (.int p4), .val (.int (1 : Int32)), .val (.int c0), .val (.int c1), .val (.int c2), .val (.ref b), .unset, .unset] [(.int (1 : Int32))])
    refine own_st (fun _ k => XS.iload X9.here hx rfl (hb hby at_119) rfl k) ?_
    show own_Go _ _ _ _ T9 (mkF m 121 #[.val (.int p1), .val (.int p2), .val (.int p3), .val (.int p4), .val (.int (1 : Int32)), .val (.int c0), .val (.int c1), .val (.int c2), .val (.ref b), .unset, .unset] [(.int c0), (.int (1 : Int32))])
    refine own_st (fun _ k => XS.iload X9.here hx rfl (hb hby at_121) rfl k) ?_
    show own_Go _ _ _ _ T9 (mkF m 123 #[.val (.int p1), .val (.int p2), .val (.int p3), .val (.int p4), .val (.int (1 : Int32)), .val (.int c0), .val (.int c1), .val (.int c2), .val (.ref b), .unset, .unset] [(.int c1), (.int c0), (.int (1 : Int32))])
    show own_Go _ _ _ _ T9 (mkF m 123 #[.val (.int p1), .val (.int p2), .val (.int p3), .val (.int p4), .val (.int (1 : Int32)), .val (.int c0), .val (.int c1), .val (.int c2), .val (.ref b), .unset, .unset] [(.int c1), (.int c0), (.int (1 : Int32))])
    obtain ⟨v10, T10, L10, hQ10, X10, st10⟩ := own_callS X9 hx hZ (y := (⟨"com/example/overflowstream/overflowstream/OperatorWrittenPinLaw", "expected", "(ICC)Lcom/example/overflowstream/overflowstream/Query$Operator;"⟩ : MethodName)) hown (own_w26 hw) (own_w27 hw) (own_w2 hw) (own_w28 hw) (by decide) (own_ex l hw [] (1 : Int32) c0 c1 w0 w1 w2 w3 w4 w5 T9.heap n0 (Nat.le_trans Z0 O9.1) (S0.ext O9) (S1.ext O9) (S2.ext O9) (S3.ext O9) (S4.ext O9) (S5.ext O9)) rfl (g := (mkF m 123 #[.val (.int p1), .val (.int p2), .val (.int p3), .val (.int p4), .val (.int (1 : Int32)), .val (.int c0), .val (.int c1), .val (.int c2), .val (.ref b), .unset, .unset] [(.int c1), (.int c0), (.int (1 : Int32))])) rfl (by rw [hml]; rfl) (argsL := [(.int (1 : Int32)), (.int c0), (.int c1)]) (rest := []) (lenOf own_pd12 rfl) rfl rfl (W := 0) (Nat.le_of_eq rfl) (hb hby at_123) (by decide) (by decide) (by decide) (by decide)
    obtain ⟨rfl, N10, e10⟩ := hQ10
    have N10' := Fr.app N9' N10
    refine own_st st10 ?_
    show own_Go _ _ _ _ T10 (mkF m 126 #[.val (.int p1), .val (.int p2), .val (.int p3), .val (.int p4), .val (.int (1 : Int32)), .val (.int c0), .val (.int c1), .val (.int c2), .val (.ref b), .unset, .unset] [(own_exv (1 : Int32) c0 c1 w0 w1 w2 w3 w4 w5)])
    have z0_60 := own_byte hc0 (k := (60 : Int32)) (n := 60) (by decide) (by decide) (by decide)
    have z0_61 := own_byte hc0 (k := (61 : Int32)) (n := 61) (by decide) (by decide) (by decide)
    have z0_62 := own_byte hc0 (k := (62 : Int32)) (n := 62) (by decide) (by decide) (by decide)
    by_cases d61 : c0 = 61
    · show own_Go _ _ _ _ T10 (mkF m 126 #[.val (.int p1), .val (.int p2), .val (.int p3), .val (.int p4), .val (.int (1 : Int32)), .val (.int c0), .val (.int c1), .val (.int c2), .val (.ref b), .unset, .unset] [(own_exv (1 : Int32) c0 c1 w0 w1 w2 w3 w4 w5)])
      rw [show (own_exv (1 : Int32) c0 c1 w0 w1 w2 w3 w4 w5) = .ref w0 from by (simp [own_exv, d61])]
      show own_Go _ _ _ _ T10 (mkF m 126 #[.val (.int p1), .val (.int p2), .val (.int p3), .val (.int p4), .val (.int (1 : Int32)), .val (.int c0), .val (.int c1), .val (.int c2), .val (.ref b), .unset, .unset] [(.ref w0)])
      refine own_st (fun _ k => XS.astore X10.here hx rfl (hb hby at_126) rfl rfl (l' := #[.val (.int p1), .val (.int p2), .val (.int p3), .val (.int p4), .val (.int (1 : Int32)), .val (.int c0), .val (.int c1), .val (.int c2), .val (.ref b), .val (.ref w0), .unset]) rfl k) ?_
      show own_Go _ _ _ _ T10 (mkF m 128 #[.val (.int p1), .val (.int p2), .val (.int p3), .val (.int p4), .val (.int (1 : Int32)), .val (.int c0), .val (.int c1), .val (.int c2), .val (.ref b), .val (.ref w0), .unset] [])
      refine own_st (fun _ k => XS.aload X10.here hx rfl (hb hby at_128) rfl rfl k) ?_
      show own_Go _ _ _ _ T10 (mkF m 130 #[.val (.int p1), .val (.int p2), .val (.int p3), .val (.int p4), .val (.int (1 : Int32)), .val (.int c0), .val (.int c1), .val (.int c2), .val (.ref b), .val (.ref w0), .unset] [(.ref b)])
      obtain ⟨v11, T11, L11, hQ11, X11, st11⟩ := own_callS X10 hx hZ (y := (⟨"com/example/overflowstream/overflowstream/Query$Operator", "written", "(Ljava/lang/String;)Lcom/example/overflowstream/overflowstream/Query$Operator;"⟩ : MethodName)) hown (own_w29 hw) (own_w30 hw) (own_w31 hw) (own_w32 hw) (by decide) (own_wr1 l hw [] b bv kb wv w0 w1 w2 w3 w4 w5 u0 u1 u2 u3 u4 u5 y_0 y_1 y_2 y_3 y_4 y_5 kv k_0 k_1 k_2 k_3 k_4 k_5 cs (nar .byte (c0.toInt8.toInt32)) T9.heap n0 (Nat.le_trans Z0 O9.1) (Scs.ext O9) hcs (Sv.ext O9) (Vv.ext O9) (Ev.ext O9) (Fs0.ext O9) (Eu0.ext O9) (Gv0.ext O9) (Gc0.ext O9) (Vy0.ext O9) (Fs1.ext O9) (Eu1.ext O9) (Gv1.ext O9) (Gc1.ext O9) (Vy1.ext O9) (Fs2.ext O9) (Eu2.ext O9) (Gv2.ext O9) (Gc2.ext O9) (Vy2.ext O9) (Fs3.ext O9) (Eu3.ext O9) (Gv3.ext O9) (Gc3.ext O9) (Vy3.ext O9) (Fs4.ext O9) (Eu4.ext O9) (Gv4.ext O9) (Gc4.ext O9) (Vy4.ext O9) (Fs5.ext O9) (Eu5.ext O9) (Gv5.ext O9) (Gc5.ext O9) (Vy5.ext O9) dn0 dn1 dn2 dn3 dn4 dn5 Eb Fvb Fcb Vb) e10 (g := (mkF m 130 #[.val (.int p1), .val (.int p2), .val (.int p3), .val (.int p4), .val (.int (1 : Int32)), .val (.int c0), .val (.int c1), .val (.int c2), .val (.ref b), .val (.ref w0), .unset] [(.ref b)])) rfl (by rw [hml]; rfl) (argsL := [(.ref b)]) (rest := []) (lenOf own_pd13 rfl) rfl rfl (W := 0) (Nat.le_of_eq rfl) (hb hby at_130) (by decide) (by decide) (by decide) (by decide)
      obtain ⟨rfl, N11, Et11⟩ := hQ11
      have hk11 := Nat.le_trans hk9 Et11.1
      have O11 := own_extt O9 Et11
      have V_bv_11 := Vb.ext Et11
      have Ex_b_11 := Eb.ext Et11
      have F_value_b_11 := Fvb.ext Et11
      have F_coder_b_11 := Fcb.ext Et11
      have N11' := Fr.app N10' N11
      refine own_st st11 ?_
      show own_Go _ _ _ _ T11 (mkF m 133 #[.val (.int p1), .val (.int p2), .val (.int p3), .val (.int p4), .val (.int (1 : Int32)), .val (.int c0), .val (.int c1), .val (.int c2), .val (.ref b), .val (.ref w0), .unset] [(own_wv1 (nar .byte (c0.toInt8.toInt32)) w0 w2 w4)])
      rw [show (own_wv1 (nar .byte (c0.toInt8.toInt32)) w0 w2 w4) = .ref w0 from by (simp only [own_wv1, own_eq1, z0_60, z0_61, z0_62]; simp [d61])]
      show own_Go _ _ _ _ T11 (mkF m 133 #[.val (.int p1), .val (.int p2), .val (.int p3), .val (.int p4), .val (.int (1 : Int32)), .val (.int c0), .val (.int c1), .val (.int c2), .val (.ref b), .val (.ref w0), .unset] [(.ref w0)])
      refine own_st (fun _ k => XS.astore X11.here hx rfl (hb hby at_133) rfl rfl (l' := #[.val (.int p1), .val (.int p2), .val (.int p3), .val (.int p4), .val (.int (1 : Int32)), .val (.int c0), .val (.int c1), .val (.int c2), .val (.ref b), .val (.ref w0), .val (.ref w0)]) rfl k) ?_
      show own_Go _ _ _ _ T11 (mkF m 135 #[.val (.int p1), .val (.int p2), .val (.int p3), .val (.int p4), .val (.int (1 : Int32)), .val (.int c0), .val (.int c1), .val (.int c2), .val (.ref b), .val (.ref w0), .val (.ref w0)] [])
      refine own_st (fun _ k => XS.aload X11.here hx rfl (hb hby at_135) rfl rfl k) ?_
      show own_Go _ _ _ _ T11 (mkF m 137 #[.val (.int p1), .val (.int p2), .val (.int p3), .val (.int p4), .val (.int (1 : Int32)), .val (.int c0), .val (.int c1), .val (.int c2), .val (.ref b), .val (.ref w0), .val (.ref w0)] [(.ref w0)])
      refine own_st (fun _ k => XS.aload X11.here hx rfl (hb hby at_137) rfl rfl k) ?_
      show own_Go _ _ _ _ T11 (mkF m 139 #[.val (.int p1), .val (.int p2), .val (.int p3), .val (.int p4), .val (.int (1 : Int32)), .val (.int c0), .val (.int c1), .val (.int c2), .val (.ref b), .val (.ref w0), .val (.ref w0)] [(.ref w0), (.ref w0)])
      refine own_st (fun _ k => Jvm.RoadKit.acmp (g := (mkF m 139 #[.val (.int p1), .val (.int p2), .val (.int p3), .val (.int p4), .val (.int (1 : Int32)), .val (.int c0), .val (.int c1), .val (.int c2), .val (.ref b), .val (.ref w0), .val (.ref w0)] [(.ref w0), (.ref w0)])) X11 hx rfl rfl rfl (pc0 := 139) (pc' := 142) (same := true) rfl (hb hby at_139) rfl (decide_eq_true rfl) (by decide) (by decide) k) ?_
      show own_Go _ _ _ _ T11 (mkF m 142 #[.val (.int p1), .val (.int p2), .val (.int p3), .val (.int p4), .val (.int (1 : Int32)), .val (.int c0), .val (.int c1), .val (.int c2), .val (.ref b), .val (.ref w0), .val (.ref w0)] [])
      refine own_st (fun _ k => XS.iconst X11.here hx rfl (hb hby at_142) k) ?_
      show own_Go _ _ _ _ T11 (mkF m 143 #[.val (.int p1), .val (.int p2), .val (.int p3), .val (.int p4), .val (.int (1 : Int32)), .val (.int c0), .val (.int c1), .val (.int c2), .val (.ref b), .val (.ref w0), .val (.ref w0)] [(.int (1 : Int32))])
      refine own_st (fun _ k => XS.goto X11.here hx rfl (pc0 := 143) (pc' := 147) rfl (hb hby at_143) (by decide) (by decide) k) ?_
      show own_Go _ _ _ _ T11 (mkF m 147 #[.val (.int p1), .val (.int p2), .val (.int p3), .val (.int p4), .val (.int (1 : Int32)), .val (.int c0), .val (.int c1), .val (.int c2), .val (.ref b), .val (.ref w0), .val (.ref w0)] [(.int (1 : Int32))])
      exact own_retNW X11 hS hk11 hx hret (by simp) hlk (hb hby at_147) ⟨rfl, N11'⟩ (by decide) (by decide)
    · by_cases d60 : c0 = 60
      · show own_Go _ _ _ _ T10 (mkF m 126 #[.val (.int p1), .val (.int p2), .val (.int p3), .val (.int p4), .val (.int (1 : Int32)), .val (.int c0), .val (.int c1), .val (.int c2), .val (.ref b), .unset, .unset] [(own_exv (1 : Int32) c0 c1 w0 w1 w2 w3 w4 w5)])
        rw [show (own_exv (1 : Int32) c0 c1 w0 w1 w2 w3 w4 w5) = .ref w2 from by (simp [own_exv, d61, d60])]
        show own_Go _ _ _ _ T10 (mkF m 126 #[.val (.int p1), .val (.int p2), .val (.int p3), .val (.int p4), .val (.int (1 : Int32)), .val (.int c0), .val (.int c1), .val (.int c2), .val (.ref b), .unset, .unset] [(.ref w2)])
        refine own_st (fun _ k => XS.astore X10.here hx rfl (hb hby at_126) rfl rfl (l' := #[.val (.int p1), .val (.int p2), .val (.int p3), .val (.int p4), .val (.int (1 : Int32)), .val (.int c0), .val (.int c1), .val (.int c2), .val (.ref b), .val (.ref w2), .unset]) rfl k) ?_
        show own_Go _ _ _ _ T10 (mkF m 128 #[.val (.int p1), .val (.int p2), .val (.int p3), .val (.int p4), .val (.int (1 : Int32)), .val (.int c0), .val (.int c1), .val (.int c2), .val (.ref b), .val (.ref w2), .unset] [])
        refine own_st (fun _ k => XS.aload X10.here hx rfl (hb hby at_128) rfl rfl k) ?_
        show own_Go _ _ _ _ T10 (mkF m 130 #[.val (.int p1), .val (.int p2), .val (.int p3), .val (.int p4), .val (.int (1 : Int32)), .val (.int c0), .val (.int c1), .val (.int c2), .val (.ref b), .val (.ref w2), .unset] [(.ref b)])
        obtain ⟨v12, T12, L12, hQ12, X12, st12⟩ := own_callS X10 hx hZ (y := (⟨"com/example/overflowstream/overflowstream/Query$Operator", "written", "(Ljava/lang/String;)Lcom/example/overflowstream/overflowstream/Query$Operator;"⟩ : MethodName)) hown (own_w29 hw) (own_w30 hw) (own_w31 hw) (own_w32 hw) (by decide) (own_wr1 l hw [] b bv kb wv w0 w1 w2 w3 w4 w5 u0 u1 u2 u3 u4 u5 y_0 y_1 y_2 y_3 y_4 y_5 kv k_0 k_1 k_2 k_3 k_4 k_5 cs (nar .byte (c0.toInt8.toInt32)) T9.heap n0 (Nat.le_trans Z0 O9.1) (Scs.ext O9) hcs (Sv.ext O9) (Vv.ext O9) (Ev.ext O9) (Fs0.ext O9) (Eu0.ext O9) (Gv0.ext O9) (Gc0.ext O9) (Vy0.ext O9) (Fs1.ext O9) (Eu1.ext O9) (Gv1.ext O9) (Gc1.ext O9) (Vy1.ext O9) (Fs2.ext O9) (Eu2.ext O9) (Gv2.ext O9) (Gc2.ext O9) (Vy2.ext O9) (Fs3.ext O9) (Eu3.ext O9) (Gv3.ext O9) (Gc3.ext O9) (Vy3.ext O9) (Fs4.ext O9) (Eu4.ext O9) (Gv4.ext O9) (Gc4.ext O9) (Vy4.ext O9) (Fs5.ext O9) (Eu5.ext O9) (Gv5.ext O9) (Gc5.ext O9) (Vy5.ext O9) dn0 dn1 dn2 dn3 dn4 dn5 Eb Fvb Fcb Vb) e10 (g := (mkF m 130 #[.val (.int p1), .val (.int p2), .val (.int p3), .val (.int p4), .val (.int (1 : Int32)), .val (.int c0), .val (.int c1), .val (.int c2), .val (.ref b), .val (.ref w2), .unset] [(.ref b)])) rfl (by rw [hml]; rfl) (argsL := [(.ref b)]) (rest := []) (lenOf own_pd13 rfl) rfl rfl (W := 0) (Nat.le_of_eq rfl) (hb hby at_130) (by decide) (by decide) (by decide) (by decide)
        obtain ⟨rfl, N12, Et12⟩ := hQ12
        have hk12 := Nat.le_trans hk9 Et12.1
        have O12 := own_extt O9 Et12
        have V_bv_12 := Vb.ext Et12
        have Ex_b_12 := Eb.ext Et12
        have F_value_b_12 := Fvb.ext Et12
        have F_coder_b_12 := Fcb.ext Et12
        have N12' := Fr.app N10' N12
        refine own_st st12 ?_
        show own_Go _ _ _ _ T12 (mkF m 133 #[.val (.int p1), .val (.int p2), .val (.int p3), .val (.int p4), .val (.int (1 : Int32)), .val (.int c0), .val (.int c1), .val (.int c2), .val (.ref b), .val (.ref w2), .unset] [(own_wv1 (nar .byte (c0.toInt8.toInt32)) w0 w2 w4)])
        rw [show (own_wv1 (nar .byte (c0.toInt8.toInt32)) w0 w2 w4) = .ref w2 from by (simp only [own_wv1, own_eq1, z0_60, z0_61, z0_62]; simp [d61, d60])]
        show own_Go _ _ _ _ T12 (mkF m 133 #[.val (.int p1), .val (.int p2), .val (.int p3), .val (.int p4), .val (.int (1 : Int32)), .val (.int c0), .val (.int c1), .val (.int c2), .val (.ref b), .val (.ref w2), .unset] [(.ref w2)])
        refine own_st (fun _ k => XS.astore X12.here hx rfl (hb hby at_133) rfl rfl (l' := #[.val (.int p1), .val (.int p2), .val (.int p3), .val (.int p4), .val (.int (1 : Int32)), .val (.int c0), .val (.int c1), .val (.int c2), .val (.ref b), .val (.ref w2), .val (.ref w2)]) rfl k) ?_
        show own_Go _ _ _ _ T12 (mkF m 135 #[.val (.int p1), .val (.int p2), .val (.int p3), .val (.int p4), .val (.int (1 : Int32)), .val (.int c0), .val (.int c1), .val (.int c2), .val (.ref b), .val (.ref w2), .val (.ref w2)] [])
        refine own_st (fun _ k => XS.aload X12.here hx rfl (hb hby at_135) rfl rfl k) ?_
        show own_Go _ _ _ _ T12 (mkF m 137 #[.val (.int p1), .val (.int p2), .val (.int p3), .val (.int p4), .val (.int (1 : Int32)), .val (.int c0), .val (.int c1), .val (.int c2), .val (.ref b), .val (.ref w2), .val (.ref w2)] [(.ref w2)])
        refine own_st (fun _ k => XS.aload X12.here hx rfl (hb hby at_137) rfl rfl k) ?_
        show own_Go _ _ _ _ T12 (mkF m 139 #[.val (.int p1), .val (.int p2), .val (.int p3), .val (.int p4), .val (.int (1 : Int32)), .val (.int c0), .val (.int c1), .val (.int c2), .val (.ref b), .val (.ref w2), .val (.ref w2)] [(.ref w2), (.ref w2)])
        refine own_st (fun _ k => Jvm.RoadKit.acmp (g := (mkF m 139 #[.val (.int p1), .val (.int p2), .val (.int p3), .val (.int p4), .val (.int (1 : Int32)), .val (.int c0), .val (.int c1), .val (.int c2), .val (.ref b), .val (.ref w2), .val (.ref w2)] [(.ref w2), (.ref w2)])) X12 hx rfl rfl rfl (pc0 := 139) (pc' := 142) (same := true) rfl (hb hby at_139) rfl (decide_eq_true rfl) (by decide) (by decide) k) ?_
        show own_Go _ _ _ _ T12 (mkF m 142 #[.val (.int p1), .val (.int p2), .val (.int p3), .val (.int p4), .val (.int (1 : Int32)), .val (.int c0), .val (.int c1), .val (.int c2), .val (.ref b), .val (.ref w2), .val (.ref w2)] [])
        refine own_st (fun _ k => XS.iconst X12.here hx rfl (hb hby at_142) k) ?_
        show own_Go _ _ _ _ T12 (mkF m 143 #[.val (.int p1), .val (.int p2), .val (.int p3), .val (.int p4), .val (.int (1 : Int32)), .val (.int c0), .val (.int c1), .val (.int c2), .val (.ref b), .val (.ref w2), .val (.ref w2)] [(.int (1 : Int32))])
        refine own_st (fun _ k => XS.goto X12.here hx rfl (pc0 := 143) (pc' := 147) rfl (hb hby at_143) (by decide) (by decide) k) ?_
        show own_Go _ _ _ _ T12 (mkF m 147 #[.val (.int p1), .val (.int p2), .val (.int p3), .val (.int p4), .val (.int (1 : Int32)), .val (.int c0), .val (.int c1), .val (.int c2), .val (.ref b), .val (.ref w2), .val (.ref w2)] [(.int (1 : Int32))])
        exact own_retNW X12 hS hk12 hx hret (by simp) hlk (hb hby at_147) ⟨rfl, N12'⟩ (by decide) (by decide)
      · by_cases d62 : c0 = 62
        · show own_Go _ _ _ _ T10 (mkF m 126 #[.val (.int p1), .val (.int p2), .val (.int p3), .val (.int p4), .val (.int (1 : Int32)), .val (.int c0), .val (.int c1), .val (.int c2), .val (.ref b), .unset, .unset] [(own_exv (1 : Int32) c0 c1 w0 w1 w2 w3 w4 w5)])
          rw [show (own_exv (1 : Int32) c0 c1 w0 w1 w2 w3 w4 w5) = .ref w4 from by (simp [own_exv, d61, d60, d62])]
          show own_Go _ _ _ _ T10 (mkF m 126 #[.val (.int p1), .val (.int p2), .val (.int p3), .val (.int p4), .val (.int (1 : Int32)), .val (.int c0), .val (.int c1), .val (.int c2), .val (.ref b), .unset, .unset] [(.ref w4)])
          refine own_st (fun _ k => XS.astore X10.here hx rfl (hb hby at_126) rfl rfl (l' := #[.val (.int p1), .val (.int p2), .val (.int p3), .val (.int p4), .val (.int (1 : Int32)), .val (.int c0), .val (.int c1), .val (.int c2), .val (.ref b), .val (.ref w4), .unset]) rfl k) ?_
          show own_Go _ _ _ _ T10 (mkF m 128 #[.val (.int p1), .val (.int p2), .val (.int p3), .val (.int p4), .val (.int (1 : Int32)), .val (.int c0), .val (.int c1), .val (.int c2), .val (.ref b), .val (.ref w4), .unset] [])
          refine own_st (fun _ k => XS.aload X10.here hx rfl (hb hby at_128) rfl rfl k) ?_
          show own_Go _ _ _ _ T10 (mkF m 130 #[.val (.int p1), .val (.int p2), .val (.int p3), .val (.int p4), .val (.int (1 : Int32)), .val (.int c0), .val (.int c1), .val (.int c2), .val (.ref b), .val (.ref w4), .unset] [(.ref b)])
          obtain ⟨v13, T13, L13, hQ13, X13, st13⟩ := own_callS X10 hx hZ (y := (⟨"com/example/overflowstream/overflowstream/Query$Operator", "written", "(Ljava/lang/String;)Lcom/example/overflowstream/overflowstream/Query$Operator;"⟩ : MethodName)) hown (own_w29 hw) (own_w30 hw) (own_w31 hw) (own_w32 hw) (by decide) (own_wr1 l hw [] b bv kb wv w0 w1 w2 w3 w4 w5 u0 u1 u2 u3 u4 u5 y_0 y_1 y_2 y_3 y_4 y_5 kv k_0 k_1 k_2 k_3 k_4 k_5 cs (nar .byte (c0.toInt8.toInt32)) T9.heap n0 (Nat.le_trans Z0 O9.1) (Scs.ext O9) hcs (Sv.ext O9) (Vv.ext O9) (Ev.ext O9) (Fs0.ext O9) (Eu0.ext O9) (Gv0.ext O9) (Gc0.ext O9) (Vy0.ext O9) (Fs1.ext O9) (Eu1.ext O9) (Gv1.ext O9) (Gc1.ext O9) (Vy1.ext O9) (Fs2.ext O9) (Eu2.ext O9) (Gv2.ext O9) (Gc2.ext O9) (Vy2.ext O9) (Fs3.ext O9) (Eu3.ext O9) (Gv3.ext O9) (Gc3.ext O9) (Vy3.ext O9) (Fs4.ext O9) (Eu4.ext O9) (Gv4.ext O9) (Gc4.ext O9) (Vy4.ext O9) (Fs5.ext O9) (Eu5.ext O9) (Gv5.ext O9) (Gc5.ext O9) (Vy5.ext O9) dn0 dn1 dn2 dn3 dn4 dn5 Eb Fvb Fcb Vb) e10 (g := (mkF m 130 #[.val (.int p1), .val (.int p2), .val (.int p3), .val (.int p4), .val (.int (1 : Int32)), .val (.int c0), .val (.int c1), .val (.int c2), .val (.ref b), .val (.ref w4), .unset] [(.ref b)])) rfl (by rw [hml]; rfl) (argsL := [(.ref b)]) (rest := []) (lenOf own_pd13 rfl) rfl rfl (W := 0) (Nat.le_of_eq rfl) (hb hby at_130) (by decide) (by decide) (by decide) (by decide)
          obtain ⟨rfl, N13, Et13⟩ := hQ13
          have hk13 := Nat.le_trans hk9 Et13.1
          have O13 := own_extt O9 Et13
          have V_bv_13 := Vb.ext Et13
          have Ex_b_13 := Eb.ext Et13
          have F_value_b_13 := Fvb.ext Et13
          have F_coder_b_13 := Fcb.ext Et13
          have N13' := Fr.app N10' N13
          refine own_st st13 ?_
          show own_Go _ _ _ _ T13 (mkF m 133 #[.val (.int p1), .val (.int p2), .val (.int p3), .val (.int p4), .val (.int (1 : Int32)), .val (.int c0), .val (.int c1), .val (.int c2), .val (.ref b), .val (.ref w4), .unset] [(own_wv1 (nar .byte (c0.toInt8.toInt32)) w0 w2 w4)])
          rw [show (own_wv1 (nar .byte (c0.toInt8.toInt32)) w0 w2 w4) = .ref w4 from by (simp only [own_wv1, own_eq1, z0_60, z0_61, z0_62]; simp [d61, d60, d62])]
          show own_Go _ _ _ _ T13 (mkF m 133 #[.val (.int p1), .val (.int p2), .val (.int p3), .val (.int p4), .val (.int (1 : Int32)), .val (.int c0), .val (.int c1), .val (.int c2), .val (.ref b), .val (.ref w4), .unset] [(.ref w4)])
          refine own_st (fun _ k => XS.astore X13.here hx rfl (hb hby at_133) rfl rfl (l' := #[.val (.int p1), .val (.int p2), .val (.int p3), .val (.int p4), .val (.int (1 : Int32)), .val (.int c0), .val (.int c1), .val (.int c2), .val (.ref b), .val (.ref w4), .val (.ref w4)]) rfl k) ?_
          show own_Go _ _ _ _ T13 (mkF m 135 #[.val (.int p1), .val (.int p2), .val (.int p3), .val (.int p4), .val (.int (1 : Int32)), .val (.int c0), .val (.int c1), .val (.int c2), .val (.ref b), .val (.ref w4), .val (.ref w4)] [])
          refine own_st (fun _ k => XS.aload X13.here hx rfl (hb hby at_135) rfl rfl k) ?_
          show own_Go _ _ _ _ T13 (mkF m 137 #[.val (.int p1), .val (.int p2), .val (.int p3), .val (.int p4), .val (.int (1 : Int32)), .val (.int c0), .val (.int c1), .val (.int c2), .val (.ref b), .val (.ref w4), .val (.ref w4)] [(.ref w4)])
          refine own_st (fun _ k => XS.aload X13.here hx rfl (hb hby at_137) rfl rfl k) ?_
          show own_Go _ _ _ _ T13 (mkF m 139 #[.val (.int p1), .val (.int p2), .val (.int p3), .val (.int p4), .val (.int (1 : Int32)), .val (.int c0), .val (.int c1), .val (.int c2), .val (.ref b), .val (.ref w4), .val (.ref w4)] [(.ref w4), (.ref w4)])
          refine own_st (fun _ k => Jvm.RoadKit.acmp (g := (mkF m 139 #[.val (.int p1), .val (.int p2), .val (.int p3), .val (.int p4), .val (.int (1 : Int32)), .val (.int c0), .val (.int c1), .val (.int c2), .val (.ref b), .val (.ref w4), .val (.ref w4)] [(.ref w4), (.ref w4)])) X13 hx rfl rfl rfl (pc0 := 139) (pc' := 142) (same := true) rfl (hb hby at_139) rfl (decide_eq_true rfl) (by decide) (by decide) k) ?_
          show own_Go _ _ _ _ T13 (mkF m 142 #[.val (.int p1), .val (.int p2), .val (.int p3), .val (.int p4), .val (.int (1 : Int32)), .val (.int c0), .val (.int c1), .val (.int c2), .val (.ref b), .val (.ref w4), .val (.ref w4)] [])
          refine own_st (fun _ k => XS.iconst X13.here hx rfl (hb hby at_142) k) ?_
          show own_Go _ _ _ _ T13 (mkF m 143 #[.val (.int p1), .val (.int p2), .val (.int p3), .val (.int p4), .val (.int (1 : Int32)), .val (.int c0), .val (.int c1), .val (.int c2), .val (.ref b), .val (.ref w4), .val (.ref w4)] [(.int (1 : Int32))])
          refine own_st (fun _ k => XS.goto X13.here hx rfl (pc0 := 143) (pc' := 147) rfl (hb hby at_143) (by decide) (by decide) k) ?_
          show own_Go _ _ _ _ T13 (mkF m 147 #[.val (.int p1), .val (.int p2), .val (.int p3), .val (.int p4), .val (.int (1 : Int32)), .val (.int c0), .val (.int c1), .val (.int c2), .val (.ref b), .val (.ref w4), .val (.ref w4)] [(.int (1 : Int32))])
          exact own_retNW X13 hS hk13 hx hret (by simp) hlk (hb hby at_147) ⟨rfl, N13'⟩ (by decide) (by decide)
        · show own_Go _ _ _ _ T10 (mkF m 126 #[.val (.int p1), .val (.int p2), .val (.int p3), .val (.int p4), .val (.int (1 : Int32)), .val (.int c0), .val (.int c1), .val (.int c2), .val (.ref b), .unset, .unset] [(own_exv (1 : Int32) c0 c1 w0 w1 w2 w3 w4 w5)])
          rw [show (own_exv (1 : Int32) c0 c1 w0 w1 w2 w3 w4 w5) = .null from by (simp [own_exv, d61, d60, d62])]
          show own_Go _ _ _ _ T10 (mkF m 126 #[.val (.int p1), .val (.int p2), .val (.int p3), .val (.int p4), .val (.int (1 : Int32)), .val (.int c0), .val (.int c1), .val (.int c2), .val (.ref b), .unset, .unset] [.null])
          refine own_st (fun _ k => XS.astore X10.here hx rfl (hb hby at_126) rfl rfl (l' := #[.val (.int p1), .val (.int p2), .val (.int p3), .val (.int p4), .val (.int (1 : Int32)), .val (.int c0), .val (.int c1), .val (.int c2), .val (.ref b), .val .null, .unset]) rfl k) ?_
          show own_Go _ _ _ _ T10 (mkF m 128 #[.val (.int p1), .val (.int p2), .val (.int p3), .val (.int p4), .val (.int (1 : Int32)), .val (.int c0), .val (.int c1), .val (.int c2), .val (.ref b), .val .null, .unset] [])
          refine own_st (fun _ k => XS.aload X10.here hx rfl (hb hby at_128) rfl rfl k) ?_
          show own_Go _ _ _ _ T10 (mkF m 130 #[.val (.int p1), .val (.int p2), .val (.int p3), .val (.int p4), .val (.int (1 : Int32)), .val (.int c0), .val (.int c1), .val (.int c2), .val (.ref b), .val .null, .unset] [(.ref b)])
          obtain ⟨v14, T14, L14, hQ14, X14, st14⟩ := own_callS X10 hx hZ (y := (⟨"com/example/overflowstream/overflowstream/Query$Operator", "written", "(Ljava/lang/String;)Lcom/example/overflowstream/overflowstream/Query$Operator;"⟩ : MethodName)) hown (own_w29 hw) (own_w30 hw) (own_w31 hw) (own_w32 hw) (by decide) (own_wr1 l hw [] b bv kb wv w0 w1 w2 w3 w4 w5 u0 u1 u2 u3 u4 u5 y_0 y_1 y_2 y_3 y_4 y_5 kv k_0 k_1 k_2 k_3 k_4 k_5 cs (nar .byte (c0.toInt8.toInt32)) T9.heap n0 (Nat.le_trans Z0 O9.1) (Scs.ext O9) hcs (Sv.ext O9) (Vv.ext O9) (Ev.ext O9) (Fs0.ext O9) (Eu0.ext O9) (Gv0.ext O9) (Gc0.ext O9) (Vy0.ext O9) (Fs1.ext O9) (Eu1.ext O9) (Gv1.ext O9) (Gc1.ext O9) (Vy1.ext O9) (Fs2.ext O9) (Eu2.ext O9) (Gv2.ext O9) (Gc2.ext O9) (Vy2.ext O9) (Fs3.ext O9) (Eu3.ext O9) (Gv3.ext O9) (Gc3.ext O9) (Vy3.ext O9) (Fs4.ext O9) (Eu4.ext O9) (Gv4.ext O9) (Gc4.ext O9) (Vy4.ext O9) (Fs5.ext O9) (Eu5.ext O9) (Gv5.ext O9) (Gc5.ext O9) (Vy5.ext O9) dn0 dn1 dn2 dn3 dn4 dn5 Eb Fvb Fcb Vb) e10 (g := (mkF m 130 #[.val (.int p1), .val (.int p2), .val (.int p3), .val (.int p4), .val (.int (1 : Int32)), .val (.int c0), .val (.int c1), .val (.int c2), .val (.ref b), .val .null, .unset] [(.ref b)])) rfl (by rw [hml]; rfl) (argsL := [(.ref b)]) (rest := []) (lenOf own_pd13 rfl) rfl rfl (W := 0) (Nat.le_of_eq rfl) (hb hby at_130) (by decide) (by decide) (by decide) (by decide)
          obtain ⟨rfl, N14, Et14⟩ := hQ14
          have hk14 := Nat.le_trans hk9 Et14.1
          have O14 := own_extt O9 Et14
          have V_bv_14 := Vb.ext Et14
          have Ex_b_14 := Eb.ext Et14
          have F_value_b_14 := Fvb.ext Et14
          have F_coder_b_14 := Fcb.ext Et14
          have N14' := Fr.app N10' N14
          refine own_st st14 ?_
          show own_Go _ _ _ _ T14 (mkF m 133 #[.val (.int p1), .val (.int p2), .val (.int p3), .val (.int p4), .val (.int (1 : Int32)), .val (.int c0), .val (.int c1), .val (.int c2), .val (.ref b), .val .null, .unset] [(own_wv1 (nar .byte (c0.toInt8.toInt32)) w0 w2 w4)])
          rw [show (own_wv1 (nar .byte (c0.toInt8.toInt32)) w0 w2 w4) = .null from by (simp only [own_wv1, own_eq1, z0_60, z0_61, z0_62]; simp [d61, d60, d62])]
          show own_Go _ _ _ _ T14 (mkF m 133 #[.val (.int p1), .val (.int p2), .val (.int p3), .val (.int p4), .val (.int (1 : Int32)), .val (.int c0), .val (.int c1), .val (.int c2), .val (.ref b), .val .null, .unset] [.null])
          refine own_st (fun _ k => XS.astore X14.here hx rfl (hb hby at_133) rfl rfl (l' := #[.val (.int p1), .val (.int p2), .val (.int p3), .val (.int p4), .val (.int (1 : Int32)), .val (.int c0), .val (.int c1), .val (.int c2), .val (.ref b), .val .null, .val .null]) rfl k) ?_
          show own_Go _ _ _ _ T14 (mkF m 135 #[.val (.int p1), .val (.int p2), .val (.int p3), .val (.int p4), .val (.int (1 : Int32)), .val (.int c0), .val (.int c1), .val (.int c2), .val (.ref b), .val .null, .val .null] [])
          refine own_st (fun _ k => XS.aload X14.here hx rfl (hb hby at_135) rfl rfl k) ?_
          show own_Go _ _ _ _ T14 (mkF m 137 #[.val (.int p1), .val (.int p2), .val (.int p3), .val (.int p4), .val (.int (1 : Int32)), .val (.int c0), .val (.int c1), .val (.int c2), .val (.ref b), .val .null, .val .null] [.null])
          refine own_st (fun _ k => XS.aload X14.here hx rfl (hb hby at_137) rfl rfl k) ?_
          show own_Go _ _ _ _ T14 (mkF m 139 #[.val (.int p1), .val (.int p2), .val (.int p3), .val (.int p4), .val (.int (1 : Int32)), .val (.int c0), .val (.int c1), .val (.int c2), .val (.ref b), .val .null, .val .null] [.null, .null])
          refine own_st (fun _ k => Jvm.RoadKit.acmp (g := (mkF m 139 #[.val (.int p1), .val (.int p2), .val (.int p3), .val (.int p4), .val (.int (1 : Int32)), .val (.int c0), .val (.int c1), .val (.int c2), .val (.ref b), .val .null, .val .null] [.null, .null])) X14 hx rfl rfl rfl (pc0 := 139) (pc' := 142) (same := true) rfl (hb hby at_139) rfl (decide_eq_true rfl) (by decide) (by decide) k) ?_
          show own_Go _ _ _ _ T14 (mkF m 142 #[.val (.int p1), .val (.int p2), .val (.int p3), .val (.int p4), .val (.int (1 : Int32)), .val (.int c0), .val (.int c1), .val (.int c2), .val (.ref b), .val .null, .val .null] [])
          refine own_st (fun _ k => XS.iconst X14.here hx rfl (hb hby at_142) k) ?_
          show own_Go _ _ _ _ T14 (mkF m 143 #[.val (.int p1), .val (.int p2), .val (.int p3), .val (.int p4), .val (.int (1 : Int32)), .val (.int c0), .val (.int c1), .val (.int c2), .val (.ref b), .val .null, .val .null] [(.int (1 : Int32))])
          refine own_st (fun _ k => XS.goto X14.here hx rfl (pc0 := 143) (pc' := 147) rfl (hb hby at_143) (by decide) (by decide) k) ?_
          show own_Go _ _ _ _ T14 (mkF m 147 #[.val (.int p1), .val (.int p2), .val (.int p3), .val (.int p4), .val (.int (1 : Int32)), .val (.int c0), .val (.int c1), .val (.int c2), .val (.ref b), .val .null, .val .null] [(.int (1 : Int32))])
          exact own_retNW X14 hS hk14 hx hret (by simp) hlk (hb hby at_147) ⟨rfl, N14'⟩ (by decide) (by decide)
  · rw [hn]
    show own_Go _ _ _ _ T3 (mkF m 23 #[.val (.int p1), .val (.int p2), .val (.int p3), .val (.int p4), .val (.int (2 : Int32)), .val (.int c0), .val (.int c1), .val (.int c2), .unset, .unset, .unset] [])
    refine own_st (fun _ k => XS.iload X3.here hx rfl (hb hby at_23) rfl k) ?_
    show own_Go _ _ _ _ T3 (mkF m 25 #[.val (.int p1), .val (.int p2), .val (.int p3), .val (.int p4), .val (.int (2 : Int32)), .val (.int c0), .val (.int c1), .val (.int c2), .unset, .unset, .unset] [(.int (2 : Int32))])
    refine own_st (fun _ k => XS.ifYes X3.here hx rfl (pc0 := 25) (pc' := 43) rfl (hb hby at_25) rfl ((if0 _ _).trans (feq (by decide : ¬ ((2 : Int32) = (0 : Int32)))).2) (by decide) (by decide) k) ?_
    show own_Go _ _ _ _ T3 (mkF m 43 #[.val (.int p1), .val (.int p2), .val (.int p3), .val (.int p4), .val (.int (2 : Int32)), .val (.int c0), .val (.int c1), .val (.int c2), .unset, .unset, .unset] [])
    refine own_st (fun _ k => XS.iload X3.here hx rfl (hb hby at_43) rfl k) ?_
    show own_Go _ _ _ _ T3 (mkF m 45 #[.val (.int p1), .val (.int p2), .val (.int p3), .val (.int p4), .val (.int (2 : Int32)), .val (.int c0), .val (.int c1), .val (.int c2), .unset, .unset, .unset] [(.int (2 : Int32))])
    refine own_st (fun _ k => XS.iconst X3.here hx rfl (hb hby at_45) k) ?_
    show own_Go _ _ _ _ T3 (mkF m 46 #[.val (.int p1), .val (.int p2), .val (.int p3), .val (.int p4), .val (.int (2 : Int32)), .val (.int c0), .val (.int c1), .val (.int c2), .unset, .unset, .unset] [(.int (1 : Int32)), (.int (2 : Int32))])
    refine own_st (fun _ k => XS.icmpYes X3.here hx rfl (pc0 := 46) (pc' := 59) rfl (hb hby at_46) rfl (feq (by decide : ¬ ((2 : Int32) = (1 : Int32)))).2 (by decide) (by decide) k) ?_
    show own_Go _ _ _ _ T3 (mkF m 59 #[.val (.int p1), .val (.int p2), .val (.int p3), .val (.int p4), .val (.int (2 : Int32)), .val (.int c0), .val (.int c1), .val (.int c2), .unset, .unset, .unset] [])
    refine own_st (fun _ k => XS.iload X3.here hx rfl (hb hby at_59) rfl k) ?_
    show own_Go _ _ _ _ T3 (mkF m 61 #[.val (.int p1), .val (.int p2), .val (.int p3), .val (.int p4), .val (.int (2 : Int32)), .val (.int c0), .val (.int c1), .val (.int c2), .unset, .unset, .unset] [(.int (2 : Int32))])
    refine own_st (fun _ k => XS.iconst X3.here hx rfl (hb hby at_61) k) ?_
    show own_Go _ _ _ _ T3 (mkF m 62 #[.val (.int p1), .val (.int p2), .val (.int p3), .val (.int p4), .val (.int (2 : Int32)), .val (.int c0), .val (.int c1), .val (.int c2), .unset, .unset, .unset] [(.int (2 : Int32)), (.int (2 : Int32))])
    refine own_st (fun _ k => XS.icmpNo X3.here hx rfl (hb hby at_62) rfl (teq (by decide : (2 : Int32) = (2 : Int32))).2 k) ?_
    show own_Go _ _ _ _ T3 (mkF m 65 #[.val (.int p1), .val (.int p2), .val (.int p3), .val (.int p4), .val (.int (2 : Int32)), .val (.int c0), .val (.int c1), .val (.int c2), .unset, .unset, .unset] [])
    obtain ⟨T15, hp15, X15, e15, Et15, A15, D15, -, st15⟩ := newO X3 hx hZ hown (own_w4 hw) (own_w5 hw) (own_w6 hw) e3 (g := (mkF m 65 #[.val (.int p1), .val (.int p2), .val (.int p3), .val (.int p4), .val (.int (2 : Int32)), .val (.int c0), .val (.int c1), .val (.int c2), .unset, .unset, .unset] [])) rfl (hb hby at_65) (by decide) (by decide)
    obtain ⟨b15, g15⟩ : ∃ z, z = h0.size := ⟨_, rfl⟩
    rw [← g15] at A15 D15 st15
    have s_b15 : h0.size ≤ b15 := Nat.le_trans O0.1 (Nat.le_of_eq g15.symm)
    have g_b15 : n0 ≤ b15 := Nat.le_trans Z0 s_b15
    have hk15 := Nat.le_trans hk0 Et15.1
    have O15 := own_extt O0 Et15
    have F_value_b15 : Fld Z hp15 b15 "java/lang/String" "value" "[B" .null := D15 (Or.inr (own_w20 hw)) (ty := (.array .byte)) (by decide)
    have F_coder_b15 : Fld Z hp15 b15 "java/lang/String" "coder" "B" (.int (0 : Int32)) := D15 (Or.inr (own_w21 hw)) (ty := .byte) (by decide)
    refine own_st st15 ?_
    show own_Go _ _ _ _ T15 (mkF m 68 #[.val (.int p1), .val (.int p2), .val (.int p3), .val (.int p4), .val (.int (2 : Int32)), .val (.int c0), .val (.int c1), .val (.int c2), .unset, .unset, .unset] [(.ref b15)])
    refine own_st (fun _ k => XS.dup X15.here hx rfl (hb hby at_68) rfl rfl k) ?_
    show own_Go _ _ _ _ T15 (mkF m 69 #[.val (.int p1), .val (.int p2), .val (.int p3), .val (.int p4), .val (.int (2 : Int32)), .val (.int c0), .val (.int c1), .val (.int c2), .unset, .unset, .unset] [(.ref b15), (.ref b15)])
    refine own_st (fun _ k => XS.iconst X15.here hx rfl (hb hby at_69) k) ?_
    show own_Go _ _ _ _ T15 (mkF m 70 #[.val (.int p1), .val (.int p2), .val (.int p3), .val (.int p4), .val (.int (2 : Int32)), .val (.int c0), .val (.int c1), .val (.int c2), .unset, .unset, .unset] [(.int (2 : Int32)), (.ref b15), (.ref b15)])
    obtain ⟨T16, hp16, kk16, X16, e16, Et16, A16, st16⟩ := newP X15 hx hZ (aty := .char) (own_w7 hw) e15 (g := (mkF m 70 #[.val (.int p1), .val (.int p2), .val (.int p3), .val (.int p4), .val (.int (2 : Int32)), .val (.int c0), .val (.int c1), .val (.int c2), .unset, .unset, .unset] [(.int (2 : Int32)), (.ref b15), (.ref b15)])) rfl (hb hby at_70) rfl (by decide) (cap := 2) (by decide) (by decide) (by decide) (by decide)
    obtain ⟨b16, g16⟩ : ∃ z, z = hp15.size := ⟨_, rfl⟩
    rw [← g16] at A16 st16
    have s_b16 : h0.size ≤ b16 := Nat.le_trans O15.1 (Nat.le_of_eq g16.symm)
    have g_b16 : n0 ≤ b16 := Nat.le_trans Z0 s_b16
    have lt_b15_b16 : b15 < b16 := Nat.lt_of_lt_of_le A15.lt (Nat.le_of_eq g16.symm)
    have hk16 := Nat.le_trans hk15 Et16.1
    have O16 := own_extt O15 Et16
    have Ex_b15_16 := A15.ext Et16
    have F_value_b15_16 := F_value_b15.ext Et16
    have F_coder_b15_16 := F_coder_b15.ext Et16
    have Va16 : Arv Z hp16 b16 kk16 .char (2 : Int32) [(.int (0 : Int32)), (.int (0 : Int32))] (.int (0 : Int32)) := (Arv.new A16 (by decide)).pad (pad_rep [] (.int (0 : Int32)) 2)
    refine own_st st16 ?_
    show own_Go _ _ _ _ T16 (mkF m 72 #[.val (.int p1), .val (.int p2), .val (.int p3), .val (.int p4), .val (.int (2 : Int32)), .val (.int c0), .val (.int c1), .val (.int c2), .unset, .unset, .unset] [(.ref b16), (.ref b15), (.ref b15)])
    refine own_st (fun _ k => XS.dup X16.here hx rfl (hb hby at_72) rfl rfl k) ?_
    show own_Go _ _ _ _ T16 (mkF m 73 #[.val (.int p1), .val (.int p2), .val (.int p3), .val (.int p4), .val (.int (2 : Int32)), .val (.int c0), .val (.int c1), .val (.int c2), .unset, .unset, .unset] [(.ref b16), (.ref b16), (.ref b15), (.ref b15)])
    refine own_st (fun _ k => XS.iconst X16.here hx rfl (hb hby at_73) k) ?_
    show own_Go _ _ _ _ T16 (mkF m 74 #[.val (.int p1), .val (.int p2), .val (.int p3), .val (.int p4), .val (.int (2 : Int32)), .val (.int c0), .val (.int c1), .val (.int c2), .unset, .unset, .unset] [(.int (0 : Int32)), (.ref b16), (.ref b16), (.ref b15), (.ref b15)])
    refine own_st (fun _ k => XS.iload X16.here hx rfl (hb hby at_74) rfl k) ?_
    show own_Go _ _ _ _ T16 (mkF m 76 #[.val (.int p1), .val (.int p2), .val (.int p3), .val (.int p4), .val (.int (2 : Int32)), .val (.int c0), .val (.int c1), .val (.int c2), .unset, .unset, .unset] [(.int c0), (.int (0 : Int32)), (.ref b16), (.ref b16), (.ref b15), (.ref b15)])
    obtain ⟨T17, hp17, X17, e17, W17, Va17, st17⟩ := own_stC X16 hx hZ e16 Va16 (by decide) 0 (by decide) (Nat.le_of_ble_eq_true rfl) (g := (mkF m 76 #[.val (.int p1), .val (.int p2), .val (.int p3), .val (.int p4), .val (.int (2 : Int32)), .val (.int c0), .val (.int c1), .val (.int c2), .unset, .unset, .unset] [(.int c0), (.int (0 : Int32)), (.ref b16), (.ref b16), (.ref b15), (.ref b15)])) rfl rfl (hb hby at_76)
    have hk17 := Nat.le_trans hk16 (Keep.of_wr W17).1
    have O17 := own_extw O16 W17 s_b16
    have Ex_b15_17 := Ex_b15_16.wr W17
    have F_value_b15_17 := F_value_b15_16.other W17 (Or.inl (Nat.ne_of_lt lt_b15_b16))
    have F_coder_b15_17 := F_coder_b15_16.other W17 (Or.inl (Nat.ne_of_lt lt_b15_b16))
    have Va17 : Arv Z hp17 b16 kk16 .char (2 : Int32) [(.int (nar .char c0)), (.int (0 : Int32))] (.int (0 : Int32)) := Va17
    have N17 := Fr.snoc X17 N3' g_b16
    refine own_st st17 ?_
    show own_Go _ _ _ _ T17 (mkF m 77 #[.val (.int p1), .val (.int p2), .val (.int p3), .val (.int p4), .val (.int (2 : Int32)), .val (.int c0), .val (.int c1), .val (.int c2), .unset, .unset, .unset] [(.ref b16), (.ref b15), (.ref b15)])
    refine own_st (fun _ k => XS.dup X17.here hx rfl (hb hby at_77) rfl rfl k) ?_
    show own_Go _ _ _ _ T17 (mkF m 78 #[.val (.int p1), .val (.int p2), .val (.int p3), .val (.int p4), .val (.int (2 : Int32)), .val (.int c0), .val (.int c1), .val (.int c2), .unset, .unset, .unset] [(.ref b16), (.ref b16), (.ref b15), (.ref b15)])
    refine own_st (fun _ k => XS.iconst X17.here hx rfl (hb hby at_78) k) ?_
    show own_Go _ _ _ _ T17 (mkF m 79 #[.val (.int p1), .val (.int p2), .val (.int p3), .val (.int p4), .val (.int (2 : Int32)), .val (.int c0), .val (.int c1), .val (.int c2), .unset, .unset, .unset] [(.int (1 : Int32)), (.ref b16), (.ref b16), (.ref b15), (.ref b15)])
    refine own_st (fun _ k => XS.iload X17.here hx rfl (hb hby at_79) rfl k) ?_
    show own_Go _ _ _ _ T17 (mkF m 81 #[.val (.int p1), .val (.int p2), .val (.int p3), .val (.int p4), .val (.int (2 : Int32)), .val (.int c0), .val (.int c1), .val (.int c2), .unset, .unset, .unset] [(.int c1), (.int (1 : Int32)), (.ref b16), (.ref b16), (.ref b15), (.ref b15)])
    obtain ⟨T18, hp18, X18, e18, W18, Va18, st18⟩ := own_stC X17 hx hZ e17 Va17 (by decide) 1 (by decide) (Nat.le_of_ble_eq_true rfl) (g := (mkF m 81 #[.val (.int p1), .val (.int p2), .val (.int p3), .val (.int p4), .val (.int (2 : Int32)), .val (.int c0), .val (.int c1), .val (.int c2), .unset, .unset, .unset] [(.int c1), (.int (1 : Int32)), (.ref b16), (.ref b16), (.ref b15), (.ref b15)])) rfl rfl (hb hby at_81)
    have hk18 := Nat.le_trans hk17 (Keep.of_wr W18).1
    have O18 := own_extw O17 W18 s_b16
    have Ex_b15_18 := Ex_b15_17.wr W18
    have F_value_b15_18 := F_value_b15_17.other W18 (Or.inl (Nat.ne_of_lt lt_b15_b16))
    have F_coder_b15_18 := F_coder_b15_17.other W18 (Or.inl (Nat.ne_of_lt lt_b15_b16))
    have Va18 : Arv Z hp18 b16 kk16 .char (2 : Int32) [(.int (nar .char c0)), (.int (nar .char c1))] (.int (0 : Int32)) := Va18
    have N18 := Fr.snoc X18 N17 g_b16
    refine own_st st18 ?_
    show own_Go _ _ _ _ T18 (mkF m 82 #[.val (.int p1), .val (.int p2), .val (.int p3), .val (.int p4), .val (.int (2 : Int32)), .val (.int c0), .val (.int c1), .val (.int c2), .unset, .unset, .unset] [(.ref b16), (.ref b15), (.ref b15)])
    rw [own_narc hc0] at Va18
    rw [own_narc hc1] at Va18
    obtain ⟨v19, T19, L19, hQ19, X19, st19⟩ := own_callI X18 hx hZ (y := (⟨"java/lang/String", "<init>", "([C)V"⟩ : MethodName)) rfl hown (own_w8 hw) (own_w9 hw) (own_w6 hw) (own_w10 hw) (by decide) (own_cc2 l hw [] b15 b16 cs kk16 c0 c1 hp18 n0 (Nat.le_trans Z0 O18.1) hc0 hc1 (Scs.ext O18) hcs g_b15 Ex_b15_18 F_value_b15_18 F_coder_b15_18 Va18) e18 (g := (mkF m 82 #[.val (.int p1), .val (.int p2), .val (.int p3), .val (.int p4), .val (.int (2 : Int32)), .val (.int c0), .val (.int c1), .val (.int c2), .unset, .unset, .unset] [(.ref b16), (.ref b15), (.ref b15)])) rfl (by rw [hml]; rfl) (argsL := [(.ref b16)]) (rest := [(.ref b15)]) (lenOf own_pd11 rfl) rfl rfl (W := 1) (Nat.le_of_eq rfl) (hb hby at_82) (by decide) (by decide) (by decide) (by decide)
    obtain ⟨rfl, N19, K19, bv, kb, Fvb, Fcb, Vb⟩ := hQ19
    have O19 := own_extk O18 K19 s_b15
    have hk19 := Nat.le_trans hk18 K19.1
    have V_b16_19 := Va18.keep K19 (ninS (Nat.ne_of_gt lt_b15_b16) nin0)
    have Ex_b15_19 := Ex_b15_18.keep K19
    have N19' := Fr.app N18 N19
    refine own_st st19 ?_
    show own_Go _ _ _ _ T19 (mkF m 85 #[.val (.int p1), .val (.int p2), .val (.int p3), .val (.int p4), .val (.int (2 : Int32)), .val (.int c0), .val (.int c1), .val (.int c2), .unset, .unset, .unset] [(.ref b15)])
    have dn0 : ¬ u0 = b15 := fun e => absurd (e ▸ Eu0.lt) (Nat.not_lt.mpr s_b15)
    have dn1 : ¬ u1 = b15 := fun e => absurd (e ▸ Eu1.lt) (Nat.not_lt.mpr s_b15)
    have dn2 : ¬ u2 = b15 := fun e => absurd (e ▸ Eu2.lt) (Nat.not_lt.mpr s_b15)
    have dn3 : ¬ u3 = b15 := fun e => absurd (e ▸ Eu3.lt) (Nat.not_lt.mpr s_b15)
    have dn4 : ¬ u4 = b15 := fun e => absurd (e ▸ Eu4.lt) (Nat.not_lt.mpr s_b15)
    have dn5 : ¬ u5 = b15 := fun e => absurd (e ▸ Eu5.lt) (Nat.not_lt.mpr s_b15)
    refine own_st (fun _ k => XS.astore X19.here hx rfl (hb hby at_85) rfl rfl (l' := #[.val (.int p1), .val (.int p2), .val (.int p3), .val (.int p4), .val (.int (2 : Int32)), .val (.int c0), .val (.int c1), .val (.int c2), .val (.ref b15), .unset, .unset]) rfl k) ?_
    show own_Go _ _ _ _ T19 (mkF m 87 #[.val (.int p1), .val (.int p2), .val (.int p3), .val (.int p4), .val (.int (2 : Int32)), .val (.int c0), .val (.int c1), .val (.int c2), .val (.ref b15), .unset, .unset] [])
    refine own_st (fun _ k => XS.goto X19.here hx rfl (pc0 := 87) (pc' := 117) rfl (hb hby at_87) (by decide) (by decide) k) ?_
    show own_Go _ _ _ _ T19 (mkF m 117 #[.val (.int p1), .val (.int p2), .val (.int p3), .val (.int p4), .val (.int (2 : Int32)), .val (.int c0), .val (.int c1), .val (.int c2), .val (.ref b15), .unset, .unset] [])
    refine own_st (fun _ k => XS.iload X19.here hx rfl (hb hby at_117) rfl k) ?_
    show own_Go _ _ _ _ T19 (mkF m 119 #[.val (.int p1), .val (.int p2), .val (.int p3), .val (.int p4), .val (.int (2 : Int32)), .val (.int c0), .val (.int c1), .val (.int c2), .val (.ref b15), .unset, .unset] [(.int (2 : Int32))])
    refine own_st (fun _ k => XS.iload X19.here hx rfl (hb hby at_119) rfl k) ?_
    show own_Go _ _ _ _ T19 (mkF m 121 #[.val (.int p1), .val (.int p2), .val (.int p3), .val (.int p4), .val (.int (2 : Int32)), .val (.int c0), .val (.int c1), .val (.int c2), .val (.ref b15), .unset, .unset] [(.int c0), (.int (2 : Int32))])
    refine own_st (fun _ k => XS.iload X19.here hx rfl (hb hby at_121) rfl k) ?_
    show own_Go _ _ _ _ T19 (mkF m 123 #[.val (.int p1), .val (.int p2), .val (.int p3), .val (.int p4), .val (.int (2 : Int32)), .val (.int c0), .val (.int c1), .val (.int c2), .val (.ref b15), .unset, .unset] [(.int c1), (.int c0), (.int (2 : Int32))])
    show own_Go _ _ _ _ T19 (mkF m 123 #[.val (.int p1), .val (.int p2), .val (.int p3), .val (.int p4), .val (.int (2 : Int32)), .val (.int c0), .val (.int c1), .val (.int c2), .val (.ref b15), .unset, .unset] [(.int c1), (.int c0), (.int (2 : Int32))])
    obtain ⟨v20, T20, L20, hQ20, X20, st20⟩ := own_callS X19 hx hZ (y := (⟨"com/example/overflowstream/overflowstream/OperatorWrittenPinLaw", "expected", "(ICC)Lcom/example/overflowstream/overflowstream/Query$Operator;"⟩ : MethodName)) hown (own_w26 hw) (own_w27 hw) (own_w2 hw) (own_w28 hw) (by decide) (own_ex l hw [] (2 : Int32) c0 c1 w0 w1 w2 w3 w4 w5 T19.heap n0 (Nat.le_trans Z0 O19.1) (S0.ext O19) (S1.ext O19) (S2.ext O19) (S3.ext O19) (S4.ext O19) (S5.ext O19)) rfl (g := (mkF m 123 #[.val (.int p1), .val (.int p2), .val (.int p3), .val (.int p4), .val (.int (2 : Int32)), .val (.int c0), .val (.int c1), .val (.int c2), .val (.ref b15), .unset, .unset] [(.int c1), (.int c0), (.int (2 : Int32))])) rfl (by rw [hml]; rfl) (argsL := [(.int (2 : Int32)), (.int c0), (.int c1)]) (rest := []) (lenOf own_pd12 rfl) rfl rfl (W := 0) (Nat.le_of_eq rfl) (hb hby at_123) (by decide) (by decide) (by decide) (by decide)
    obtain ⟨rfl, N20, e20⟩ := hQ20
    have N20' := Fr.app N19' N20
    refine own_st st20 ?_
    show own_Go _ _ _ _ T20 (mkF m 126 #[.val (.int p1), .val (.int p2), .val (.int p3), .val (.int p4), .val (.int (2 : Int32)), .val (.int c0), .val (.int c1), .val (.int c2), .val (.ref b15), .unset, .unset] [(own_exv (2 : Int32) c0 c1 w0 w1 w2 w3 w4 w5)])
    have z0_60 := own_byte hc0 (k := (60 : Int32)) (n := 60) (by decide) (by decide) (by decide)
    have z0_61 := own_byte hc0 (k := (61 : Int32)) (n := 61) (by decide) (by decide) (by decide)
    have z0_62 := own_byte hc0 (k := (62 : Int32)) (n := 62) (by decide) (by decide) (by decide)
    have z1_60 := own_byte hc1 (k := (60 : Int32)) (n := 60) (by decide) (by decide) (by decide)
    have z1_61 := own_byte hc1 (k := (61 : Int32)) (n := 61) (by decide) (by decide) (by decide)
    have z1_62 := own_byte hc1 (k := (62 : Int32)) (n := 62) (by decide) (by decide) (by decide)
    by_cases d60 : c0 = 60
    · by_cases f62 : c1 = 62
      · show own_Go _ _ _ _ T20 (mkF m 126 #[.val (.int p1), .val (.int p2), .val (.int p3), .val (.int p4), .val (.int (2 : Int32)), .val (.int c0), .val (.int c1), .val (.int c2), .val (.ref b15), .unset, .unset] [(own_exv (2 : Int32) c0 c1 w0 w1 w2 w3 w4 w5)])
        rw [show (own_exv (2 : Int32) c0 c1 w0 w1 w2 w3 w4 w5) = .ref w1 from by (simp [own_exv, d60, f62])]
        show own_Go _ _ _ _ T20 (mkF m 126 #[.val (.int p1), .val (.int p2), .val (.int p3), .val (.int p4), .val (.int (2 : Int32)), .val (.int c0), .val (.int c1), .val (.int c2), .val (.ref b15), .unset, .unset] [(.ref w1)])
        refine own_st (fun _ k => XS.astore X20.here hx rfl (hb hby at_126) rfl rfl (l' := #[.val (.int p1), .val (.int p2), .val (.int p3), .val (.int p4), .val (.int (2 : Int32)), .val (.int c0), .val (.int c1), .val (.int c2), .val (.ref b15), .val (.ref w1), .unset]) rfl k) ?_
        show own_Go _ _ _ _ T20 (mkF m 128 #[.val (.int p1), .val (.int p2), .val (.int p3), .val (.int p4), .val (.int (2 : Int32)), .val (.int c0), .val (.int c1), .val (.int c2), .val (.ref b15), .val (.ref w1), .unset] [])
        refine own_st (fun _ k => XS.aload X20.here hx rfl (hb hby at_128) rfl rfl k) ?_
        show own_Go _ _ _ _ T20 (mkF m 130 #[.val (.int p1), .val (.int p2), .val (.int p3), .val (.int p4), .val (.int (2 : Int32)), .val (.int c0), .val (.int c1), .val (.int c2), .val (.ref b15), .val (.ref w1), .unset] [(.ref b15)])
        obtain ⟨v21, T21, L21, hQ21, X21, st21⟩ := own_callS X20 hx hZ (y := (⟨"com/example/overflowstream/overflowstream/Query$Operator", "written", "(Ljava/lang/String;)Lcom/example/overflowstream/overflowstream/Query$Operator;"⟩ : MethodName)) hown (own_w29 hw) (own_w30 hw) (own_w31 hw) (own_w32 hw) (by decide) (own_wr2 l hw [] b15 bv kb wv w0 w1 w2 w3 w4 w5 u0 u1 u2 u3 u4 u5 y_0 y_1 y_2 y_3 y_4 y_5 kv k_0 k_1 k_2 k_3 k_4 k_5 cs (nar .byte (c0.toInt8.toInt32)) (nar .byte (c1.toInt8.toInt32)) T19.heap n0 (Nat.le_trans Z0 O19.1) (Scs.ext O19) hcs (Sv.ext O19) (Vv.ext O19) (Ev.ext O19) (Fs0.ext O19) (Eu0.ext O19) (Gv0.ext O19) (Gc0.ext O19) (Vy0.ext O19) (Fs1.ext O19) (Eu1.ext O19) (Gv1.ext O19) (Gc1.ext O19) (Vy1.ext O19) (Fs2.ext O19) (Eu2.ext O19) (Gv2.ext O19) (Gc2.ext O19) (Vy2.ext O19) (Fs3.ext O19) (Eu3.ext O19) (Gv3.ext O19) (Gc3.ext O19) (Vy3.ext O19) (Fs4.ext O19) (Eu4.ext O19) (Gv4.ext O19) (Gc4.ext O19) (Vy4.ext O19) (Fs5.ext O19) (Eu5.ext O19) (Gv5.ext O19) (Gc5.ext O19) (Vy5.ext O19) dn0 dn1 dn2 dn3 dn4 dn5 Ex_b15_19 Fvb Fcb Vb) e20 (g := (mkF m 130 #[.val (.int p1), .val (.int p2), .val (.int p3), .val (.int p4), .val (.int (2 : Int32)), .val (.int c0), .val (.int c1), .val (.int c2), .val (.ref b15), .val (.ref w1), .unset] [(.ref b15)])) rfl (by rw [hml]; rfl) (argsL := [(.ref b15)]) (rest := []) (lenOf own_pd13 rfl) rfl rfl (W := 0) (Nat.le_of_eq rfl) (hb hby at_130) (by decide) (by decide) (by decide) (by decide)
        obtain ⟨rfl, N21, Et21⟩ := hQ21
        have hk21 := Nat.le_trans hk19 Et21.1
        have O21 := own_extt O19 Et21
        have V_bv_21 := Vb.ext Et21
        have Ex_b15_21 := Ex_b15_19.ext Et21
        have F_value_b15_21 := Fvb.ext Et21
        have F_coder_b15_21 := Fcb.ext Et21
        have N21' := Fr.app N20' N21
        refine own_st st21 ?_
        show own_Go _ _ _ _ T21 (mkF m 133 #[.val (.int p1), .val (.int p2), .val (.int p3), .val (.int p4), .val (.int (2 : Int32)), .val (.int c0), .val (.int c1), .val (.int c2), .val (.ref b15), .val (.ref w1), .unset] [(own_wv2 (nar .byte (c0.toInt8.toInt32)) (nar .byte (c1.toInt8.toInt32)) w1 w3 w5)])
        rw [show (own_wv2 (nar .byte (c0.toInt8.toInt32)) (nar .byte (c1.toInt8.toInt32)) w1 w3 w5) = .ref w1 from by (simp only [own_wv2, own_eq2, z0_60, z0_61, z0_62, z1_60, z1_61, z1_62]; simp [d60, f62])]
        show own_Go _ _ _ _ T21 (mkF m 133 #[.val (.int p1), .val (.int p2), .val (.int p3), .val (.int p4), .val (.int (2 : Int32)), .val (.int c0), .val (.int c1), .val (.int c2), .val (.ref b15), .val (.ref w1), .unset] [(.ref w1)])
        refine own_st (fun _ k => XS.astore X21.here hx rfl (hb hby at_133) rfl rfl (l' := #[.val (.int p1), .val (.int p2), .val (.int p3), .val (.int p4), .val (.int (2 : Int32)), .val (.int c0), .val (.int c1), .val (.int c2), .val (.ref b15), .val (.ref w1), .val (.ref w1)]) rfl k) ?_
        show own_Go _ _ _ _ T21 (mkF m 135 #[.val (.int p1), .val (.int p2), .val (.int p3), .val (.int p4), .val (.int (2 : Int32)), .val (.int c0), .val (.int c1), .val (.int c2), .val (.ref b15), .val (.ref w1), .val (.ref w1)] [])
        refine own_st (fun _ k => XS.aload X21.here hx rfl (hb hby at_135) rfl rfl k) ?_
        show own_Go _ _ _ _ T21 (mkF m 137 #[.val (.int p1), .val (.int p2), .val (.int p3), .val (.int p4), .val (.int (2 : Int32)), .val (.int c0), .val (.int c1), .val (.int c2), .val (.ref b15), .val (.ref w1), .val (.ref w1)] [(.ref w1)])
        refine own_st (fun _ k => XS.aload X21.here hx rfl (hb hby at_137) rfl rfl k) ?_
        show own_Go _ _ _ _ T21 (mkF m 139 #[.val (.int p1), .val (.int p2), .val (.int p3), .val (.int p4), .val (.int (2 : Int32)), .val (.int c0), .val (.int c1), .val (.int c2), .val (.ref b15), .val (.ref w1), .val (.ref w1)] [(.ref w1), (.ref w1)])
        refine own_st (fun _ k => Jvm.RoadKit.acmp (g := (mkF m 139 #[.val (.int p1), .val (.int p2), .val (.int p3), .val (.int p4), .val (.int (2 : Int32)), .val (.int c0), .val (.int c1), .val (.int c2), .val (.ref b15), .val (.ref w1), .val (.ref w1)] [(.ref w1), (.ref w1)])) X21 hx rfl rfl rfl (pc0 := 139) (pc' := 142) (same := true) rfl (hb hby at_139) rfl (decide_eq_true rfl) (by decide) (by decide) k) ?_
        show own_Go _ _ _ _ T21 (mkF m 142 #[.val (.int p1), .val (.int p2), .val (.int p3), .val (.int p4), .val (.int (2 : Int32)), .val (.int c0), .val (.int c1), .val (.int c2), .val (.ref b15), .val (.ref w1), .val (.ref w1)] [])
        refine own_st (fun _ k => XS.iconst X21.here hx rfl (hb hby at_142) k) ?_
        show own_Go _ _ _ _ T21 (mkF m 143 #[.val (.int p1), .val (.int p2), .val (.int p3), .val (.int p4), .val (.int (2 : Int32)), .val (.int c0), .val (.int c1), .val (.int c2), .val (.ref b15), .val (.ref w1), .val (.ref w1)] [(.int (1 : Int32))])
        refine own_st (fun _ k => XS.goto X21.here hx rfl (pc0 := 143) (pc' := 147) rfl (hb hby at_143) (by decide) (by decide) k) ?_
        show own_Go _ _ _ _ T21 (mkF m 147 #[.val (.int p1), .val (.int p2), .val (.int p3), .val (.int p4), .val (.int (2 : Int32)), .val (.int c0), .val (.int c1), .val (.int c2), .val (.ref b15), .val (.ref w1), .val (.ref w1)] [(.int (1 : Int32))])
        exact own_retNW X21 hS hk21 hx hret (by simp) hlk (hb hby at_147) ⟨rfl, N21'⟩ (by decide) (by decide)
      · by_cases f61 : c1 = 61
        · show own_Go _ _ _ _ T20 (mkF m 126 #[.val (.int p1), .val (.int p2), .val (.int p3), .val (.int p4), .val (.int (2 : Int32)), .val (.int c0), .val (.int c1), .val (.int c2), .val (.ref b15), .unset, .unset] [(own_exv (2 : Int32) c0 c1 w0 w1 w2 w3 w4 w5)])
          rw [show (own_exv (2 : Int32) c0 c1 w0 w1 w2 w3 w4 w5) = .ref w3 from by (simp [own_exv, d60, f62, f61])]
          show own_Go _ _ _ _ T20 (mkF m 126 #[.val (.int p1), .val (.int p2), .val (.int p3), .val (.int p4), .val (.int (2 : Int32)), .val (.int c0), .val (.int c1), .val (.int c2), .val (.ref b15), .unset, .unset] [(.ref w3)])
          refine own_st (fun _ k => XS.astore X20.here hx rfl (hb hby at_126) rfl rfl (l' := #[.val (.int p1), .val (.int p2), .val (.int p3), .val (.int p4), .val (.int (2 : Int32)), .val (.int c0), .val (.int c1), .val (.int c2), .val (.ref b15), .val (.ref w3), .unset]) rfl k) ?_
          show own_Go _ _ _ _ T20 (mkF m 128 #[.val (.int p1), .val (.int p2), .val (.int p3), .val (.int p4), .val (.int (2 : Int32)), .val (.int c0), .val (.int c1), .val (.int c2), .val (.ref b15), .val (.ref w3), .unset] [])
          refine own_st (fun _ k => XS.aload X20.here hx rfl (hb hby at_128) rfl rfl k) ?_
          show own_Go _ _ _ _ T20 (mkF m 130 #[.val (.int p1), .val (.int p2), .val (.int p3), .val (.int p4), .val (.int (2 : Int32)), .val (.int c0), .val (.int c1), .val (.int c2), .val (.ref b15), .val (.ref w3), .unset] [(.ref b15)])
          obtain ⟨v22, T22, L22, hQ22, X22, st22⟩ := own_callS X20 hx hZ (y := (⟨"com/example/overflowstream/overflowstream/Query$Operator", "written", "(Ljava/lang/String;)Lcom/example/overflowstream/overflowstream/Query$Operator;"⟩ : MethodName)) hown (own_w29 hw) (own_w30 hw) (own_w31 hw) (own_w32 hw) (by decide) (own_wr2 l hw [] b15 bv kb wv w0 w1 w2 w3 w4 w5 u0 u1 u2 u3 u4 u5 y_0 y_1 y_2 y_3 y_4 y_5 kv k_0 k_1 k_2 k_3 k_4 k_5 cs (nar .byte (c0.toInt8.toInt32)) (nar .byte (c1.toInt8.toInt32)) T19.heap n0 (Nat.le_trans Z0 O19.1) (Scs.ext O19) hcs (Sv.ext O19) (Vv.ext O19) (Ev.ext O19) (Fs0.ext O19) (Eu0.ext O19) (Gv0.ext O19) (Gc0.ext O19) (Vy0.ext O19) (Fs1.ext O19) (Eu1.ext O19) (Gv1.ext O19) (Gc1.ext O19) (Vy1.ext O19) (Fs2.ext O19) (Eu2.ext O19) (Gv2.ext O19) (Gc2.ext O19) (Vy2.ext O19) (Fs3.ext O19) (Eu3.ext O19) (Gv3.ext O19) (Gc3.ext O19) (Vy3.ext O19) (Fs4.ext O19) (Eu4.ext O19) (Gv4.ext O19) (Gc4.ext O19) (Vy4.ext O19) (Fs5.ext O19) (Eu5.ext O19) (Gv5.ext O19) (Gc5.ext O19) (Vy5.ext O19) dn0 dn1 dn2 dn3 dn4 dn5 Ex_b15_19 Fvb Fcb Vb) e20 (g := (mkF m 130 #[.val (.int p1), .val (.int p2), .val (.int p3), .val (.int p4), .val (.int (2 : Int32)), .val (.int c0), .val (.int c1), .val (.int c2), .val (.ref b15), .val (.ref w3), .unset] [(.ref b15)])) rfl (by rw [hml]; rfl) (argsL := [(.ref b15)]) (rest := []) (lenOf own_pd13 rfl) rfl rfl (W := 0) (Nat.le_of_eq rfl) (hb hby at_130) (by decide) (by decide) (by decide) (by decide)
          obtain ⟨rfl, N22, Et22⟩ := hQ22
          have hk22 := Nat.le_trans hk19 Et22.1
          have O22 := own_extt O19 Et22
          have V_bv_22 := Vb.ext Et22
          have Ex_b15_22 := Ex_b15_19.ext Et22
          have F_value_b15_22 := Fvb.ext Et22
          have F_coder_b15_22 := Fcb.ext Et22
          have N22' := Fr.app N20' N22
          refine own_st st22 ?_
          show own_Go _ _ _ _ T22 (mkF m 133 #[.val (.int p1), .val (.int p2), .val (.int p3), .val (.int p4), .val (.int (2 : Int32)), .val (.int c0), .val (.int c1), .val (.int c2), .val (.ref b15), .val (.ref w3), .unset] [(own_wv2 (nar .byte (c0.toInt8.toInt32)) (nar .byte (c1.toInt8.toInt32)) w1 w3 w5)])
          rw [show (own_wv2 (nar .byte (c0.toInt8.toInt32)) (nar .byte (c1.toInt8.toInt32)) w1 w3 w5) = .ref w3 from by (simp only [own_wv2, own_eq2, z0_60, z0_61, z0_62, z1_60, z1_61, z1_62]; simp [d60, f62, f61])]
          show own_Go _ _ _ _ T22 (mkF m 133 #[.val (.int p1), .val (.int p2), .val (.int p3), .val (.int p4), .val (.int (2 : Int32)), .val (.int c0), .val (.int c1), .val (.int c2), .val (.ref b15), .val (.ref w3), .unset] [(.ref w3)])
          refine own_st (fun _ k => XS.astore X22.here hx rfl (hb hby at_133) rfl rfl (l' := #[.val (.int p1), .val (.int p2), .val (.int p3), .val (.int p4), .val (.int (2 : Int32)), .val (.int c0), .val (.int c1), .val (.int c2), .val (.ref b15), .val (.ref w3), .val (.ref w3)]) rfl k) ?_
          show own_Go _ _ _ _ T22 (mkF m 135 #[.val (.int p1), .val (.int p2), .val (.int p3), .val (.int p4), .val (.int (2 : Int32)), .val (.int c0), .val (.int c1), .val (.int c2), .val (.ref b15), .val (.ref w3), .val (.ref w3)] [])
          refine own_st (fun _ k => XS.aload X22.here hx rfl (hb hby at_135) rfl rfl k) ?_
          show own_Go _ _ _ _ T22 (mkF m 137 #[.val (.int p1), .val (.int p2), .val (.int p3), .val (.int p4), .val (.int (2 : Int32)), .val (.int c0), .val (.int c1), .val (.int c2), .val (.ref b15), .val (.ref w3), .val (.ref w3)] [(.ref w3)])
          refine own_st (fun _ k => XS.aload X22.here hx rfl (hb hby at_137) rfl rfl k) ?_
          show own_Go _ _ _ _ T22 (mkF m 139 #[.val (.int p1), .val (.int p2), .val (.int p3), .val (.int p4), .val (.int (2 : Int32)), .val (.int c0), .val (.int c1), .val (.int c2), .val (.ref b15), .val (.ref w3), .val (.ref w3)] [(.ref w3), (.ref w3)])
          refine own_st (fun _ k => Jvm.RoadKit.acmp (g := (mkF m 139 #[.val (.int p1), .val (.int p2), .val (.int p3), .val (.int p4), .val (.int (2 : Int32)), .val (.int c0), .val (.int c1), .val (.int c2), .val (.ref b15), .val (.ref w3), .val (.ref w3)] [(.ref w3), (.ref w3)])) X22 hx rfl rfl rfl (pc0 := 139) (pc' := 142) (same := true) rfl (hb hby at_139) rfl (decide_eq_true rfl) (by decide) (by decide) k) ?_
          show own_Go _ _ _ _ T22 (mkF m 142 #[.val (.int p1), .val (.int p2), .val (.int p3), .val (.int p4), .val (.int (2 : Int32)), .val (.int c0), .val (.int c1), .val (.int c2), .val (.ref b15), .val (.ref w3), .val (.ref w3)] [])
          refine own_st (fun _ k => XS.iconst X22.here hx rfl (hb hby at_142) k) ?_
          show own_Go _ _ _ _ T22 (mkF m 143 #[.val (.int p1), .val (.int p2), .val (.int p3), .val (.int p4), .val (.int (2 : Int32)), .val (.int c0), .val (.int c1), .val (.int c2), .val (.ref b15), .val (.ref w3), .val (.ref w3)] [(.int (1 : Int32))])
          refine own_st (fun _ k => XS.goto X22.here hx rfl (pc0 := 143) (pc' := 147) rfl (hb hby at_143) (by decide) (by decide) k) ?_
          show own_Go _ _ _ _ T22 (mkF m 147 #[.val (.int p1), .val (.int p2), .val (.int p3), .val (.int p4), .val (.int (2 : Int32)), .val (.int c0), .val (.int c1), .val (.int c2), .val (.ref b15), .val (.ref w3), .val (.ref w3)] [(.int (1 : Int32))])
          exact own_retNW X22 hS hk22 hx hret (by simp) hlk (hb hby at_147) ⟨rfl, N22'⟩ (by decide) (by decide)
        · show own_Go _ _ _ _ T20 (mkF m 126 #[.val (.int p1), .val (.int p2), .val (.int p3), .val (.int p4), .val (.int (2 : Int32)), .val (.int c0), .val (.int c1), .val (.int c2), .val (.ref b15), .unset, .unset] [(own_exv (2 : Int32) c0 c1 w0 w1 w2 w3 w4 w5)])
          rw [show (own_exv (2 : Int32) c0 c1 w0 w1 w2 w3 w4 w5) = .null from by (simp [own_exv, d60, f62, f61])]
          show own_Go _ _ _ _ T20 (mkF m 126 #[.val (.int p1), .val (.int p2), .val (.int p3), .val (.int p4), .val (.int (2 : Int32)), .val (.int c0), .val (.int c1), .val (.int c2), .val (.ref b15), .unset, .unset] [.null])
          refine own_st (fun _ k => XS.astore X20.here hx rfl (hb hby at_126) rfl rfl (l' := #[.val (.int p1), .val (.int p2), .val (.int p3), .val (.int p4), .val (.int (2 : Int32)), .val (.int c0), .val (.int c1), .val (.int c2), .val (.ref b15), .val .null, .unset]) rfl k) ?_
          show own_Go _ _ _ _ T20 (mkF m 128 #[.val (.int p1), .val (.int p2), .val (.int p3), .val (.int p4), .val (.int (2 : Int32)), .val (.int c0), .val (.int c1), .val (.int c2), .val (.ref b15), .val .null, .unset] [])
          refine own_st (fun _ k => XS.aload X20.here hx rfl (hb hby at_128) rfl rfl k) ?_
          show own_Go _ _ _ _ T20 (mkF m 130 #[.val (.int p1), .val (.int p2), .val (.int p3), .val (.int p4), .val (.int (2 : Int32)), .val (.int c0), .val (.int c1), .val (.int c2), .val (.ref b15), .val .null, .unset] [(.ref b15)])
          obtain ⟨v23, T23, L23, hQ23, X23, st23⟩ := own_callS X20 hx hZ (y := (⟨"com/example/overflowstream/overflowstream/Query$Operator", "written", "(Ljava/lang/String;)Lcom/example/overflowstream/overflowstream/Query$Operator;"⟩ : MethodName)) hown (own_w29 hw) (own_w30 hw) (own_w31 hw) (own_w32 hw) (by decide) (own_wr2 l hw [] b15 bv kb wv w0 w1 w2 w3 w4 w5 u0 u1 u2 u3 u4 u5 y_0 y_1 y_2 y_3 y_4 y_5 kv k_0 k_1 k_2 k_3 k_4 k_5 cs (nar .byte (c0.toInt8.toInt32)) (nar .byte (c1.toInt8.toInt32)) T19.heap n0 (Nat.le_trans Z0 O19.1) (Scs.ext O19) hcs (Sv.ext O19) (Vv.ext O19) (Ev.ext O19) (Fs0.ext O19) (Eu0.ext O19) (Gv0.ext O19) (Gc0.ext O19) (Vy0.ext O19) (Fs1.ext O19) (Eu1.ext O19) (Gv1.ext O19) (Gc1.ext O19) (Vy1.ext O19) (Fs2.ext O19) (Eu2.ext O19) (Gv2.ext O19) (Gc2.ext O19) (Vy2.ext O19) (Fs3.ext O19) (Eu3.ext O19) (Gv3.ext O19) (Gc3.ext O19) (Vy3.ext O19) (Fs4.ext O19) (Eu4.ext O19) (Gv4.ext O19) (Gc4.ext O19) (Vy4.ext O19) (Fs5.ext O19) (Eu5.ext O19) (Gv5.ext O19) (Gc5.ext O19) (Vy5.ext O19) dn0 dn1 dn2 dn3 dn4 dn5 Ex_b15_19 Fvb Fcb Vb) e20 (g := (mkF m 130 #[.val (.int p1), .val (.int p2), .val (.int p3), .val (.int p4), .val (.int (2 : Int32)), .val (.int c0), .val (.int c1), .val (.int c2), .val (.ref b15), .val .null, .unset] [(.ref b15)])) rfl (by rw [hml]; rfl) (argsL := [(.ref b15)]) (rest := []) (lenOf own_pd13 rfl) rfl rfl (W := 0) (Nat.le_of_eq rfl) (hb hby at_130) (by decide) (by decide) (by decide) (by decide)
          obtain ⟨rfl, N23, Et23⟩ := hQ23
          have hk23 := Nat.le_trans hk19 Et23.1
          have O23 := own_extt O19 Et23
          have V_bv_23 := Vb.ext Et23
          have Ex_b15_23 := Ex_b15_19.ext Et23
          have F_value_b15_23 := Fvb.ext Et23
          have F_coder_b15_23 := Fcb.ext Et23
          have N23' := Fr.app N20' N23
          refine own_st st23 ?_
          show own_Go _ _ _ _ T23 (mkF m 133 #[.val (.int p1), .val (.int p2), .val (.int p3), .val (.int p4), .val (.int (2 : Int32)), .val (.int c0), .val (.int c1), .val (.int c2), .val (.ref b15), .val .null, .unset] [(own_wv2 (nar .byte (c0.toInt8.toInt32)) (nar .byte (c1.toInt8.toInt32)) w1 w3 w5)])
          rw [show (own_wv2 (nar .byte (c0.toInt8.toInt32)) (nar .byte (c1.toInt8.toInt32)) w1 w3 w5) = .null from by (simp only [own_wv2, own_eq2, z0_60, z0_61, z0_62, z1_60, z1_61, z1_62]; simp [d60, f62, f61])]
          show own_Go _ _ _ _ T23 (mkF m 133 #[.val (.int p1), .val (.int p2), .val (.int p3), .val (.int p4), .val (.int (2 : Int32)), .val (.int c0), .val (.int c1), .val (.int c2), .val (.ref b15), .val .null, .unset] [.null])
          refine own_st (fun _ k => XS.astore X23.here hx rfl (hb hby at_133) rfl rfl (l' := #[.val (.int p1), .val (.int p2), .val (.int p3), .val (.int p4), .val (.int (2 : Int32)), .val (.int c0), .val (.int c1), .val (.int c2), .val (.ref b15), .val .null, .val .null]) rfl k) ?_
          show own_Go _ _ _ _ T23 (mkF m 135 #[.val (.int p1), .val (.int p2), .val (.int p3), .val (.int p4), .val (.int (2 : Int32)), .val (.int c0), .val (.int c1), .val (.int c2), .val (.ref b15), .val .null, .val .null] [])
          refine own_st (fun _ k => XS.aload X23.here hx rfl (hb hby at_135) rfl rfl k) ?_
          show own_Go _ _ _ _ T23 (mkF m 137 #[.val (.int p1), .val (.int p2), .val (.int p3), .val (.int p4), .val (.int (2 : Int32)), .val (.int c0), .val (.int c1), .val (.int c2), .val (.ref b15), .val .null, .val .null] [.null])
          refine own_st (fun _ k => XS.aload X23.here hx rfl (hb hby at_137) rfl rfl k) ?_
          show own_Go _ _ _ _ T23 (mkF m 139 #[.val (.int p1), .val (.int p2), .val (.int p3), .val (.int p4), .val (.int (2 : Int32)), .val (.int c0), .val (.int c1), .val (.int c2), .val (.ref b15), .val .null, .val .null] [.null, .null])
          refine own_st (fun _ k => Jvm.RoadKit.acmp (g := (mkF m 139 #[.val (.int p1), .val (.int p2), .val (.int p3), .val (.int p4), .val (.int (2 : Int32)), .val (.int c0), .val (.int c1), .val (.int c2), .val (.ref b15), .val .null, .val .null] [.null, .null])) X23 hx rfl rfl rfl (pc0 := 139) (pc' := 142) (same := true) rfl (hb hby at_139) rfl (decide_eq_true rfl) (by decide) (by decide) k) ?_
          show own_Go _ _ _ _ T23 (mkF m 142 #[.val (.int p1), .val (.int p2), .val (.int p3), .val (.int p4), .val (.int (2 : Int32)), .val (.int c0), .val (.int c1), .val (.int c2), .val (.ref b15), .val .null, .val .null] [])
          refine own_st (fun _ k => XS.iconst X23.here hx rfl (hb hby at_142) k) ?_
          show own_Go _ _ _ _ T23 (mkF m 143 #[.val (.int p1), .val (.int p2), .val (.int p3), .val (.int p4), .val (.int (2 : Int32)), .val (.int c0), .val (.int c1), .val (.int c2), .val (.ref b15), .val .null, .val .null] [(.int (1 : Int32))])
          refine own_st (fun _ k => XS.goto X23.here hx rfl (pc0 := 143) (pc' := 147) rfl (hb hby at_143) (by decide) (by decide) k) ?_
          show own_Go _ _ _ _ T23 (mkF m 147 #[.val (.int p1), .val (.int p2), .val (.int p3), .val (.int p4), .val (.int (2 : Int32)), .val (.int c0), .val (.int c1), .val (.int c2), .val (.ref b15), .val .null, .val .null] [(.int (1 : Int32))])
          exact own_retNW X23 hS hk23 hx hret (by simp) hlk (hb hby at_147) ⟨rfl, N23'⟩ (by decide) (by decide)
    · by_cases d62 : c0 = 62
      · by_cases f61 : c1 = 61
        · show own_Go _ _ _ _ T20 (mkF m 126 #[.val (.int p1), .val (.int p2), .val (.int p3), .val (.int p4), .val (.int (2 : Int32)), .val (.int c0), .val (.int c1), .val (.int c2), .val (.ref b15), .unset, .unset] [(own_exv (2 : Int32) c0 c1 w0 w1 w2 w3 w4 w5)])
          rw [show (own_exv (2 : Int32) c0 c1 w0 w1 w2 w3 w4 w5) = .ref w5 from by (simp [own_exv, d60, d62, f61])]
          show own_Go _ _ _ _ T20 (mkF m 126 #[.val (.int p1), .val (.int p2), .val (.int p3), .val (.int p4), .val (.int (2 : Int32)), .val (.int c0), .val (.int c1), .val (.int c2), .val (.ref b15), .unset, .unset] [(.ref w5)])
          refine own_st (fun _ k => XS.astore X20.here hx rfl (hb hby at_126) rfl rfl (l' := #[.val (.int p1), .val (.int p2), .val (.int p3), .val (.int p4), .val (.int (2 : Int32)), .val (.int c0), .val (.int c1), .val (.int c2), .val (.ref b15), .val (.ref w5), .unset]) rfl k) ?_
          show own_Go _ _ _ _ T20 (mkF m 128 #[.val (.int p1), .val (.int p2), .val (.int p3), .val (.int p4), .val (.int (2 : Int32)), .val (.int c0), .val (.int c1), .val (.int c2), .val (.ref b15), .val (.ref w5), .unset] [])
          refine own_st (fun _ k => XS.aload X20.here hx rfl (hb hby at_128) rfl rfl k) ?_
          show own_Go _ _ _ _ T20 (mkF m 130 #[.val (.int p1), .val (.int p2), .val (.int p3), .val (.int p4), .val (.int (2 : Int32)), .val (.int c0), .val (.int c1), .val (.int c2), .val (.ref b15), .val (.ref w5), .unset] [(.ref b15)])
          obtain ⟨v24, T24, L24, hQ24, X24, st24⟩ := own_callS X20 hx hZ (y := (⟨"com/example/overflowstream/overflowstream/Query$Operator", "written", "(Ljava/lang/String;)Lcom/example/overflowstream/overflowstream/Query$Operator;"⟩ : MethodName)) hown (own_w29 hw) (own_w30 hw) (own_w31 hw) (own_w32 hw) (by decide) (own_wr2 l hw [] b15 bv kb wv w0 w1 w2 w3 w4 w5 u0 u1 u2 u3 u4 u5 y_0 y_1 y_2 y_3 y_4 y_5 kv k_0 k_1 k_2 k_3 k_4 k_5 cs (nar .byte (c0.toInt8.toInt32)) (nar .byte (c1.toInt8.toInt32)) T19.heap n0 (Nat.le_trans Z0 O19.1) (Scs.ext O19) hcs (Sv.ext O19) (Vv.ext O19) (Ev.ext O19) (Fs0.ext O19) (Eu0.ext O19) (Gv0.ext O19) (Gc0.ext O19) (Vy0.ext O19) (Fs1.ext O19) (Eu1.ext O19) (Gv1.ext O19) (Gc1.ext O19) (Vy1.ext O19) (Fs2.ext O19) (Eu2.ext O19) (Gv2.ext O19) (Gc2.ext O19) (Vy2.ext O19) (Fs3.ext O19) (Eu3.ext O19) (Gv3.ext O19) (Gc3.ext O19) (Vy3.ext O19) (Fs4.ext O19) (Eu4.ext O19) (Gv4.ext O19) (Gc4.ext O19) (Vy4.ext O19) (Fs5.ext O19) (Eu5.ext O19) (Gv5.ext O19) (Gc5.ext O19) (Vy5.ext O19) dn0 dn1 dn2 dn3 dn4 dn5 Ex_b15_19 Fvb Fcb Vb) e20 (g := (mkF m 130 #[.val (.int p1), .val (.int p2), .val (.int p3), .val (.int p4), .val (.int (2 : Int32)), .val (.int c0), .val (.int c1), .val (.int c2), .val (.ref b15), .val (.ref w5), .unset] [(.ref b15)])) rfl (by rw [hml]; rfl) (argsL := [(.ref b15)]) (rest := []) (lenOf own_pd13 rfl) rfl rfl (W := 0) (Nat.le_of_eq rfl) (hb hby at_130) (by decide) (by decide) (by decide) (by decide)
          obtain ⟨rfl, N24, Et24⟩ := hQ24
          have hk24 := Nat.le_trans hk19 Et24.1
          have O24 := own_extt O19 Et24
          have V_bv_24 := Vb.ext Et24
          have Ex_b15_24 := Ex_b15_19.ext Et24
          have F_value_b15_24 := Fvb.ext Et24
          have F_coder_b15_24 := Fcb.ext Et24
          have N24' := Fr.app N20' N24
          refine own_st st24 ?_
          show own_Go _ _ _ _ T24 (mkF m 133 #[.val (.int p1), .val (.int p2), .val (.int p3), .val (.int p4), .val (.int (2 : Int32)), .val (.int c0), .val (.int c1), .val (.int c2), .val (.ref b15), .val (.ref w5), .unset] [(own_wv2 (nar .byte (c0.toInt8.toInt32)) (nar .byte (c1.toInt8.toInt32)) w1 w3 w5)])
          rw [show (own_wv2 (nar .byte (c0.toInt8.toInt32)) (nar .byte (c1.toInt8.toInt32)) w1 w3 w5) = .ref w5 from by (simp only [own_wv2, own_eq2, z0_60, z0_61, z0_62, z1_60, z1_61, z1_62]; simp [d60, d62, f61])]
          show own_Go _ _ _ _ T24 (mkF m 133 #[.val (.int p1), .val (.int p2), .val (.int p3), .val (.int p4), .val (.int (2 : Int32)), .val (.int c0), .val (.int c1), .val (.int c2), .val (.ref b15), .val (.ref w5), .unset] [(.ref w5)])
          refine own_st (fun _ k => XS.astore X24.here hx rfl (hb hby at_133) rfl rfl (l' := #[.val (.int p1), .val (.int p2), .val (.int p3), .val (.int p4), .val (.int (2 : Int32)), .val (.int c0), .val (.int c1), .val (.int c2), .val (.ref b15), .val (.ref w5), .val (.ref w5)]) rfl k) ?_
          show own_Go _ _ _ _ T24 (mkF m 135 #[.val (.int p1), .val (.int p2), .val (.int p3), .val (.int p4), .val (.int (2 : Int32)), .val (.int c0), .val (.int c1), .val (.int c2), .val (.ref b15), .val (.ref w5), .val (.ref w5)] [])
          refine own_st (fun _ k => XS.aload X24.here hx rfl (hb hby at_135) rfl rfl k) ?_
          show own_Go _ _ _ _ T24 (mkF m 137 #[.val (.int p1), .val (.int p2), .val (.int p3), .val (.int p4), .val (.int (2 : Int32)), .val (.int c0), .val (.int c1), .val (.int c2), .val (.ref b15), .val (.ref w5), .val (.ref w5)] [(.ref w5)])
          refine own_st (fun _ k => XS.aload X24.here hx rfl (hb hby at_137) rfl rfl k) ?_
          show own_Go _ _ _ _ T24 (mkF m 139 #[.val (.int p1), .val (.int p2), .val (.int p3), .val (.int p4), .val (.int (2 : Int32)), .val (.int c0), .val (.int c1), .val (.int c2), .val (.ref b15), .val (.ref w5), .val (.ref w5)] [(.ref w5), (.ref w5)])
          refine own_st (fun _ k => Jvm.RoadKit.acmp (g := (mkF m 139 #[.val (.int p1), .val (.int p2), .val (.int p3), .val (.int p4), .val (.int (2 : Int32)), .val (.int c0), .val (.int c1), .val (.int c2), .val (.ref b15), .val (.ref w5), .val (.ref w5)] [(.ref w5), (.ref w5)])) X24 hx rfl rfl rfl (pc0 := 139) (pc' := 142) (same := true) rfl (hb hby at_139) rfl (decide_eq_true rfl) (by decide) (by decide) k) ?_
          show own_Go _ _ _ _ T24 (mkF m 142 #[.val (.int p1), .val (.int p2), .val (.int p3), .val (.int p4), .val (.int (2 : Int32)), .val (.int c0), .val (.int c1), .val (.int c2), .val (.ref b15), .val (.ref w5), .val (.ref w5)] [])
          refine own_st (fun _ k => XS.iconst X24.here hx rfl (hb hby at_142) k) ?_
          show own_Go _ _ _ _ T24 (mkF m 143 #[.val (.int p1), .val (.int p2), .val (.int p3), .val (.int p4), .val (.int (2 : Int32)), .val (.int c0), .val (.int c1), .val (.int c2), .val (.ref b15), .val (.ref w5), .val (.ref w5)] [(.int (1 : Int32))])
          refine own_st (fun _ k => XS.goto X24.here hx rfl (pc0 := 143) (pc' := 147) rfl (hb hby at_143) (by decide) (by decide) k) ?_
          show own_Go _ _ _ _ T24 (mkF m 147 #[.val (.int p1), .val (.int p2), .val (.int p3), .val (.int p4), .val (.int (2 : Int32)), .val (.int c0), .val (.int c1), .val (.int c2), .val (.ref b15), .val (.ref w5), .val (.ref w5)] [(.int (1 : Int32))])
          exact own_retNW X24 hS hk24 hx hret (by simp) hlk (hb hby at_147) ⟨rfl, N24'⟩ (by decide) (by decide)
        · show own_Go _ _ _ _ T20 (mkF m 126 #[.val (.int p1), .val (.int p2), .val (.int p3), .val (.int p4), .val (.int (2 : Int32)), .val (.int c0), .val (.int c1), .val (.int c2), .val (.ref b15), .unset, .unset] [(own_exv (2 : Int32) c0 c1 w0 w1 w2 w3 w4 w5)])
          rw [show (own_exv (2 : Int32) c0 c1 w0 w1 w2 w3 w4 w5) = .null from by (simp [own_exv, d60, d62, f61])]
          show own_Go _ _ _ _ T20 (mkF m 126 #[.val (.int p1), .val (.int p2), .val (.int p3), .val (.int p4), .val (.int (2 : Int32)), .val (.int c0), .val (.int c1), .val (.int c2), .val (.ref b15), .unset, .unset] [.null])
          refine own_st (fun _ k => XS.astore X20.here hx rfl (hb hby at_126) rfl rfl (l' := #[.val (.int p1), .val (.int p2), .val (.int p3), .val (.int p4), .val (.int (2 : Int32)), .val (.int c0), .val (.int c1), .val (.int c2), .val (.ref b15), .val .null, .unset]) rfl k) ?_
          show own_Go _ _ _ _ T20 (mkF m 128 #[.val (.int p1), .val (.int p2), .val (.int p3), .val (.int p4), .val (.int (2 : Int32)), .val (.int c0), .val (.int c1), .val (.int c2), .val (.ref b15), .val .null, .unset] [])
          refine own_st (fun _ k => XS.aload X20.here hx rfl (hb hby at_128) rfl rfl k) ?_
          show own_Go _ _ _ _ T20 (mkF m 130 #[.val (.int p1), .val (.int p2), .val (.int p3), .val (.int p4), .val (.int (2 : Int32)), .val (.int c0), .val (.int c1), .val (.int c2), .val (.ref b15), .val .null, .unset] [(.ref b15)])
          obtain ⟨v25, T25, L25, hQ25, X25, st25⟩ := own_callS X20 hx hZ (y := (⟨"com/example/overflowstream/overflowstream/Query$Operator", "written", "(Ljava/lang/String;)Lcom/example/overflowstream/overflowstream/Query$Operator;"⟩ : MethodName)) hown (own_w29 hw) (own_w30 hw) (own_w31 hw) (own_w32 hw) (by decide) (own_wr2 l hw [] b15 bv kb wv w0 w1 w2 w3 w4 w5 u0 u1 u2 u3 u4 u5 y_0 y_1 y_2 y_3 y_4 y_5 kv k_0 k_1 k_2 k_3 k_4 k_5 cs (nar .byte (c0.toInt8.toInt32)) (nar .byte (c1.toInt8.toInt32)) T19.heap n0 (Nat.le_trans Z0 O19.1) (Scs.ext O19) hcs (Sv.ext O19) (Vv.ext O19) (Ev.ext O19) (Fs0.ext O19) (Eu0.ext O19) (Gv0.ext O19) (Gc0.ext O19) (Vy0.ext O19) (Fs1.ext O19) (Eu1.ext O19) (Gv1.ext O19) (Gc1.ext O19) (Vy1.ext O19) (Fs2.ext O19) (Eu2.ext O19) (Gv2.ext O19) (Gc2.ext O19) (Vy2.ext O19) (Fs3.ext O19) (Eu3.ext O19) (Gv3.ext O19) (Gc3.ext O19) (Vy3.ext O19) (Fs4.ext O19) (Eu4.ext O19) (Gv4.ext O19) (Gc4.ext O19) (Vy4.ext O19) (Fs5.ext O19) (Eu5.ext O19) (Gv5.ext O19) (Gc5.ext O19) (Vy5.ext O19) dn0 dn1 dn2 dn3 dn4 dn5 Ex_b15_19 Fvb Fcb Vb) e20 (g := (mkF m 130 #[.val (.int p1), .val (.int p2), .val (.int p3), .val (.int p4), .val (.int (2 : Int32)), .val (.int c0), .val (.int c1), .val (.int c2), .val (.ref b15), .val .null, .unset] [(.ref b15)])) rfl (by rw [hml]; rfl) (argsL := [(.ref b15)]) (rest := []) (lenOf own_pd13 rfl) rfl rfl (W := 0) (Nat.le_of_eq rfl) (hb hby at_130) (by decide) (by decide) (by decide) (by decide)
          obtain ⟨rfl, N25, Et25⟩ := hQ25
          have hk25 := Nat.le_trans hk19 Et25.1
          have O25 := own_extt O19 Et25
          have V_bv_25 := Vb.ext Et25
          have Ex_b15_25 := Ex_b15_19.ext Et25
          have F_value_b15_25 := Fvb.ext Et25
          have F_coder_b15_25 := Fcb.ext Et25
          have N25' := Fr.app N20' N25
          refine own_st st25 ?_
          show own_Go _ _ _ _ T25 (mkF m 133 #[.val (.int p1), .val (.int p2), .val (.int p3), .val (.int p4), .val (.int (2 : Int32)), .val (.int c0), .val (.int c1), .val (.int c2), .val (.ref b15), .val .null, .unset] [(own_wv2 (nar .byte (c0.toInt8.toInt32)) (nar .byte (c1.toInt8.toInt32)) w1 w3 w5)])
          rw [show (own_wv2 (nar .byte (c0.toInt8.toInt32)) (nar .byte (c1.toInt8.toInt32)) w1 w3 w5) = .null from by (simp only [own_wv2, own_eq2, z0_60, z0_61, z0_62, z1_60, z1_61, z1_62]; simp [d60, d62, f61])]
          show own_Go _ _ _ _ T25 (mkF m 133 #[.val (.int p1), .val (.int p2), .val (.int p3), .val (.int p4), .val (.int (2 : Int32)), .val (.int c0), .val (.int c1), .val (.int c2), .val (.ref b15), .val .null, .unset] [.null])
          refine own_st (fun _ k => XS.astore X25.here hx rfl (hb hby at_133) rfl rfl (l' := #[.val (.int p1), .val (.int p2), .val (.int p3), .val (.int p4), .val (.int (2 : Int32)), .val (.int c0), .val (.int c1), .val (.int c2), .val (.ref b15), .val .null, .val .null]) rfl k) ?_
          show own_Go _ _ _ _ T25 (mkF m 135 #[.val (.int p1), .val (.int p2), .val (.int p3), .val (.int p4), .val (.int (2 : Int32)), .val (.int c0), .val (.int c1), .val (.int c2), .val (.ref b15), .val .null, .val .null] [])
          refine own_st (fun _ k => XS.aload X25.here hx rfl (hb hby at_135) rfl rfl k) ?_
          show own_Go _ _ _ _ T25 (mkF m 137 #[.val (.int p1), .val (.int p2), .val (.int p3), .val (.int p4), .val (.int (2 : Int32)), .val (.int c0), .val (.int c1), .val (.int c2), .val (.ref b15), .val .null, .val .null] [.null])
          refine own_st (fun _ k => XS.aload X25.here hx rfl (hb hby at_137) rfl rfl k) ?_
          show own_Go _ _ _ _ T25 (mkF m 139 #[.val (.int p1), .val (.int p2), .val (.int p3), .val (.int p4), .val (.int (2 : Int32)), .val (.int c0), .val (.int c1), .val (.int c2), .val (.ref b15), .val .null, .val .null] [.null, .null])
          refine own_st (fun _ k => Jvm.RoadKit.acmp (g := (mkF m 139 #[.val (.int p1), .val (.int p2), .val (.int p3), .val (.int p4), .val (.int (2 : Int32)), .val (.int c0), .val (.int c1), .val (.int c2), .val (.ref b15), .val .null, .val .null] [.null, .null])) X25 hx rfl rfl rfl (pc0 := 139) (pc' := 142) (same := true) rfl (hb hby at_139) rfl (decide_eq_true rfl) (by decide) (by decide) k) ?_
          show own_Go _ _ _ _ T25 (mkF m 142 #[.val (.int p1), .val (.int p2), .val (.int p3), .val (.int p4), .val (.int (2 : Int32)), .val (.int c0), .val (.int c1), .val (.int c2), .val (.ref b15), .val .null, .val .null] [])
          refine own_st (fun _ k => XS.iconst X25.here hx rfl (hb hby at_142) k) ?_
          show own_Go _ _ _ _ T25 (mkF m 143 #[.val (.int p1), .val (.int p2), .val (.int p3), .val (.int p4), .val (.int (2 : Int32)), .val (.int c0), .val (.int c1), .val (.int c2), .val (.ref b15), .val .null, .val .null] [(.int (1 : Int32))])
          refine own_st (fun _ k => XS.goto X25.here hx rfl (pc0 := 143) (pc' := 147) rfl (hb hby at_143) (by decide) (by decide) k) ?_
          show own_Go _ _ _ _ T25 (mkF m 147 #[.val (.int p1), .val (.int p2), .val (.int p3), .val (.int p4), .val (.int (2 : Int32)), .val (.int c0), .val (.int c1), .val (.int c2), .val (.ref b15), .val .null, .val .null] [(.int (1 : Int32))])
          exact own_retNW X25 hS hk25 hx hret (by simp) hlk (hb hby at_147) ⟨rfl, N25'⟩ (by decide) (by decide)
      · show own_Go _ _ _ _ T20 (mkF m 126 #[.val (.int p1), .val (.int p2), .val (.int p3), .val (.int p4), .val (.int (2 : Int32)), .val (.int c0), .val (.int c1), .val (.int c2), .val (.ref b15), .unset, .unset] [(own_exv (2 : Int32) c0 c1 w0 w1 w2 w3 w4 w5)])
        rw [show (own_exv (2 : Int32) c0 c1 w0 w1 w2 w3 w4 w5) = .null from by (simp [own_exv, d60, d62])]
        show own_Go _ _ _ _ T20 (mkF m 126 #[.val (.int p1), .val (.int p2), .val (.int p3), .val (.int p4), .val (.int (2 : Int32)), .val (.int c0), .val (.int c1), .val (.int c2), .val (.ref b15), .unset, .unset] [.null])
        refine own_st (fun _ k => XS.astore X20.here hx rfl (hb hby at_126) rfl rfl (l' := #[.val (.int p1), .val (.int p2), .val (.int p3), .val (.int p4), .val (.int (2 : Int32)), .val (.int c0), .val (.int c1), .val (.int c2), .val (.ref b15), .val .null, .unset]) rfl k) ?_
        show own_Go _ _ _ _ T20 (mkF m 128 #[.val (.int p1), .val (.int p2), .val (.int p3), .val (.int p4), .val (.int (2 : Int32)), .val (.int c0), .val (.int c1), .val (.int c2), .val (.ref b15), .val .null, .unset] [])
        refine own_st (fun _ k => XS.aload X20.here hx rfl (hb hby at_128) rfl rfl k) ?_
        show own_Go _ _ _ _ T20 (mkF m 130 #[.val (.int p1), .val (.int p2), .val (.int p3), .val (.int p4), .val (.int (2 : Int32)), .val (.int c0), .val (.int c1), .val (.int c2), .val (.ref b15), .val .null, .unset] [(.ref b15)])
        obtain ⟨v26, T26, L26, hQ26, X26, st26⟩ := own_callS X20 hx hZ (y := (⟨"com/example/overflowstream/overflowstream/Query$Operator", "written", "(Ljava/lang/String;)Lcom/example/overflowstream/overflowstream/Query$Operator;"⟩ : MethodName)) hown (own_w29 hw) (own_w30 hw) (own_w31 hw) (own_w32 hw) (by decide) (own_wr2 l hw [] b15 bv kb wv w0 w1 w2 w3 w4 w5 u0 u1 u2 u3 u4 u5 y_0 y_1 y_2 y_3 y_4 y_5 kv k_0 k_1 k_2 k_3 k_4 k_5 cs (nar .byte (c0.toInt8.toInt32)) (nar .byte (c1.toInt8.toInt32)) T19.heap n0 (Nat.le_trans Z0 O19.1) (Scs.ext O19) hcs (Sv.ext O19) (Vv.ext O19) (Ev.ext O19) (Fs0.ext O19) (Eu0.ext O19) (Gv0.ext O19) (Gc0.ext O19) (Vy0.ext O19) (Fs1.ext O19) (Eu1.ext O19) (Gv1.ext O19) (Gc1.ext O19) (Vy1.ext O19) (Fs2.ext O19) (Eu2.ext O19) (Gv2.ext O19) (Gc2.ext O19) (Vy2.ext O19) (Fs3.ext O19) (Eu3.ext O19) (Gv3.ext O19) (Gc3.ext O19) (Vy3.ext O19) (Fs4.ext O19) (Eu4.ext O19) (Gv4.ext O19) (Gc4.ext O19) (Vy4.ext O19) (Fs5.ext O19) (Eu5.ext O19) (Gv5.ext O19) (Gc5.ext O19) (Vy5.ext O19) dn0 dn1 dn2 dn3 dn4 dn5 Ex_b15_19 Fvb Fcb Vb) e20 (g := (mkF m 130 #[.val (.int p1), .val (.int p2), .val (.int p3), .val (.int p4), .val (.int (2 : Int32)), .val (.int c0), .val (.int c1), .val (.int c2), .val (.ref b15), .val .null, .unset] [(.ref b15)])) rfl (by rw [hml]; rfl) (argsL := [(.ref b15)]) (rest := []) (lenOf own_pd13 rfl) rfl rfl (W := 0) (Nat.le_of_eq rfl) (hb hby at_130) (by decide) (by decide) (by decide) (by decide)
        obtain ⟨rfl, N26, Et26⟩ := hQ26
        have hk26 := Nat.le_trans hk19 Et26.1
        have O26 := own_extt O19 Et26
        have V_bv_26 := Vb.ext Et26
        have Ex_b15_26 := Ex_b15_19.ext Et26
        have F_value_b15_26 := Fvb.ext Et26
        have F_coder_b15_26 := Fcb.ext Et26
        have N26' := Fr.app N20' N26
        refine own_st st26 ?_
        show own_Go _ _ _ _ T26 (mkF m 133 #[.val (.int p1), .val (.int p2), .val (.int p3), .val (.int p4), .val (.int (2 : Int32)), .val (.int c0), .val (.int c1), .val (.int c2), .val (.ref b15), .val .null, .unset] [(own_wv2 (nar .byte (c0.toInt8.toInt32)) (nar .byte (c1.toInt8.toInt32)) w1 w3 w5)])
        rw [show (own_wv2 (nar .byte (c0.toInt8.toInt32)) (nar .byte (c1.toInt8.toInt32)) w1 w3 w5) = .null from by (simp only [own_wv2, own_eq2, z0_60, z0_61, z0_62, z1_60, z1_61, z1_62]; simp [d60, d62])]
        show own_Go _ _ _ _ T26 (mkF m 133 #[.val (.int p1), .val (.int p2), .val (.int p3), .val (.int p4), .val (.int (2 : Int32)), .val (.int c0), .val (.int c1), .val (.int c2), .val (.ref b15), .val .null, .unset] [.null])
        refine own_st (fun _ k => XS.astore X26.here hx rfl (hb hby at_133) rfl rfl (l' := #[.val (.int p1), .val (.int p2), .val (.int p3), .val (.int p4), .val (.int (2 : Int32)), .val (.int c0), .val (.int c1), .val (.int c2), .val (.ref b15), .val .null, .val .null]) rfl k) ?_
        show own_Go _ _ _ _ T26 (mkF m 135 #[.val (.int p1), .val (.int p2), .val (.int p3), .val (.int p4), .val (.int (2 : Int32)), .val (.int c0), .val (.int c1), .val (.int c2), .val (.ref b15), .val .null, .val .null] [])
        refine own_st (fun _ k => XS.aload X26.here hx rfl (hb hby at_135) rfl rfl k) ?_
        show own_Go _ _ _ _ T26 (mkF m 137 #[.val (.int p1), .val (.int p2), .val (.int p3), .val (.int p4), .val (.int (2 : Int32)), .val (.int c0), .val (.int c1), .val (.int c2), .val (.ref b15), .val .null, .val .null] [.null])
        refine own_st (fun _ k => XS.aload X26.here hx rfl (hb hby at_137) rfl rfl k) ?_
        show own_Go _ _ _ _ T26 (mkF m 139 #[.val (.int p1), .val (.int p2), .val (.int p3), .val (.int p4), .val (.int (2 : Int32)), .val (.int c0), .val (.int c1), .val (.int c2), .val (.ref b15), .val .null, .val .null] [.null, .null])
        refine own_st (fun _ k => Jvm.RoadKit.acmp (g := (mkF m 139 #[.val (.int p1), .val (.int p2), .val (.int p3), .val (.int p4), .val (.int (2 : Int32)), .val (.int c0), .val (.int c1), .val (.int c2), .val (.ref b15), .val .null, .val .null] [.null, .null])) X26 hx rfl rfl rfl (pc0 := 139) (pc' := 142) (same := true) rfl (hb hby at_139) rfl (decide_eq_true rfl) (by decide) (by decide) k) ?_
        show own_Go _ _ _ _ T26 (mkF m 142 #[.val (.int p1), .val (.int p2), .val (.int p3), .val (.int p4), .val (.int (2 : Int32)), .val (.int c0), .val (.int c1), .val (.int c2), .val (.ref b15), .val .null, .val .null] [])
        refine own_st (fun _ k => XS.iconst X26.here hx rfl (hb hby at_142) k) ?_
        show own_Go _ _ _ _ T26 (mkF m 143 #[.val (.int p1), .val (.int p2), .val (.int p3), .val (.int p4), .val (.int (2 : Int32)), .val (.int c0), .val (.int c1), .val (.int c2), .val (.ref b15), .val .null, .val .null] [(.int (1 : Int32))])
        refine own_st (fun _ k => XS.goto X26.here hx rfl (pc0 := 143) (pc' := 147) rfl (hb hby at_143) (by decide) (by decide) k) ?_
        show own_Go _ _ _ _ T26 (mkF m 147 #[.val (.int p1), .val (.int p2), .val (.int p3), .val (.int p4), .val (.int (2 : Int32)), .val (.int c0), .val (.int c1), .val (.int c2), .val (.ref b15), .val .null, .val .null] [(.int (1 : Int32))])
        exact own_retNW X26 hS hk26 hx hret (by simp) hlk (hb hby at_147) ⟨rfl, N26'⟩ (by decide) (by decide)
  · rw [hn]
    show own_Go _ _ _ _ T3 (mkF m 23 #[.val (.int p1), .val (.int p2), .val (.int p3), .val (.int p4), .val (.int (3 : Int32)), .val (.int c0), .val (.int c1), .val (.int c2), .unset, .unset, .unset] [])
    refine own_st (fun _ k => XS.iload X3.here hx rfl (hb hby at_23) rfl k) ?_
    show own_Go _ _ _ _ T3 (mkF m 25 #[.val (.int p1), .val (.int p2), .val (.int p3), .val (.int p4), .val (.int (3 : Int32)), .val (.int c0), .val (.int c1), .val (.int c2), .unset, .unset, .unset] [(.int (3 : Int32))])
    refine own_st (fun _ k => XS.ifYes X3.here hx rfl (pc0 := 25) (pc' := 43) rfl (hb hby at_25) rfl ((if0 _ _).trans (feq (by decide : ¬ ((3 : Int32) = (0 : Int32)))).2) (by decide) (by decide) k) ?_
    show own_Go _ _ _ _ T3 (mkF m 43 #[.val (.int p1), .val (.int p2), .val (.int p3), .val (.int p4), .val (.int (3 : Int32)), .val (.int c0), .val (.int c1), .val (.int c2), .unset, .unset, .unset] [])
    refine own_st (fun _ k => XS.iload X3.here hx rfl (hb hby at_43) rfl k) ?_
    show own_Go _ _ _ _ T3 (mkF m 45 #[.val (.int p1), .val (.int p2), .val (.int p3), .val (.int p4), .val (.int (3 : Int32)), .val (.int c0), .val (.int c1), .val (.int c2), .unset, .unset, .unset] [(.int (3 : Int32))])
    refine own_st (fun _ k => XS.iconst X3.here hx rfl (hb hby at_45) k) ?_
    show own_Go _ _ _ _ T3 (mkF m 46 #[.val (.int p1), .val (.int p2), .val (.int p3), .val (.int p4), .val (.int (3 : Int32)), .val (.int c0), .val (.int c1), .val (.int c2), .unset, .unset, .unset] [(.int (1 : Int32)), (.int (3 : Int32))])
    refine own_st (fun _ k => XS.icmpYes X3.here hx rfl (pc0 := 46) (pc' := 59) rfl (hb hby at_46) rfl (feq (by decide : ¬ ((3 : Int32) = (1 : Int32)))).2 (by decide) (by decide) k) ?_
    show own_Go _ _ _ _ T3 (mkF m 59 #[.val (.int p1), .val (.int p2), .val (.int p3), .val (.int p4), .val (.int (3 : Int32)), .val (.int c0), .val (.int c1), .val (.int c2), .unset, .unset, .unset] [])
    refine own_st (fun _ k => XS.iload X3.here hx rfl (hb hby at_59) rfl k) ?_
    show own_Go _ _ _ _ T3 (mkF m 61 #[.val (.int p1), .val (.int p2), .val (.int p3), .val (.int p4), .val (.int (3 : Int32)), .val (.int c0), .val (.int c1), .val (.int c2), .unset, .unset, .unset] [(.int (3 : Int32))])
    refine own_st (fun _ k => XS.iconst X3.here hx rfl (hb hby at_61) k) ?_
    show own_Go _ _ _ _ T3 (mkF m 62 #[.val (.int p1), .val (.int p2), .val (.int p3), .val (.int p4), .val (.int (3 : Int32)), .val (.int c0), .val (.int c1), .val (.int c2), .unset, .unset, .unset] [(.int (2 : Int32)), (.int (3 : Int32))])
    refine own_st (fun _ k => XS.icmpYes X3.here hx rfl (pc0 := 62) (pc' := 90) rfl (hb hby at_62) rfl (feq (by decide : ¬ ((3 : Int32) = (2 : Int32)))).2 (by decide) (by decide) k) ?_
    show own_Go _ _ _ _ T3 (mkF m 90 #[.val (.int p1), .val (.int p2), .val (.int p3), .val (.int p4), .val (.int (3 : Int32)), .val (.int c0), .val (.int c1), .val (.int c2), .unset, .unset, .unset] [])
    obtain ⟨T27, hp27, X27, e27, Et27, A27, D27, -, st27⟩ := newO X3 hx hZ hown (own_w4 hw) (own_w5 hw) (own_w6 hw) e3 (g := (mkF m 90 #[.val (.int p1), .val (.int p2), .val (.int p3), .val (.int p4), .val (.int (3 : Int32)), .val (.int c0), .val (.int c1), .val (.int c2), .unset, .unset, .unset] [])) rfl (hb hby at_90) (by decide) (by decide)
    obtain ⟨b27, g27⟩ : ∃ z, z = h0.size := ⟨_, rfl⟩
    rw [← g27] at A27 D27 st27
    have s_b27 : h0.size ≤ b27 := Nat.le_trans O0.1 (Nat.le_of_eq g27.symm)
    have g_b27 : n0 ≤ b27 := Nat.le_trans Z0 s_b27
    have hk27 := Nat.le_trans hk0 Et27.1
    have O27 := own_extt O0 Et27
    have F_value_b27 : Fld Z hp27 b27 "java/lang/String" "value" "[B" .null := D27 (Or.inr (own_w20 hw)) (ty := (.array .byte)) (by decide)
    have F_coder_b27 : Fld Z hp27 b27 "java/lang/String" "coder" "B" (.int (0 : Int32)) := D27 (Or.inr (own_w21 hw)) (ty := .byte) (by decide)
    refine own_st st27 ?_
    show own_Go _ _ _ _ T27 (mkF m 93 #[.val (.int p1), .val (.int p2), .val (.int p3), .val (.int p4), .val (.int (3 : Int32)), .val (.int c0), .val (.int c1), .val (.int c2), .unset, .unset, .unset] [(.ref b27)])
    refine own_st (fun _ k => XS.dup X27.here hx rfl (hb hby at_93) rfl rfl k) ?_
    show own_Go _ _ _ _ T27 (mkF m 94 #[.val (.int p1), .val (.int p2), .val (.int p3), .val (.int p4), .val (.int (3 : Int32)), .val (.int c0), .val (.int c1), .val (.int c2), .unset, .unset, .unset] [(.ref b27), (.ref b27)])
    refine own_st (fun _ k => XS.iconst X27.here hx rfl (hb hby at_94) k) ?_
    show own_Go _ _ _ _ T27 (mkF m 95 #[.val (.int p1), .val (.int p2), .val (.int p3), .val (.int p4), .val (.int (3 : Int32)), .val (.int c0), .val (.int c1), .val (.int c2), .unset, .unset, .unset] [(.int (3 : Int32)), (.ref b27), (.ref b27)])
    obtain ⟨T28, hp28, kk28, X28, e28, Et28, A28, st28⟩ := newP X27 hx hZ (aty := .char) (own_w7 hw) e27 (g := (mkF m 95 #[.val (.int p1), .val (.int p2), .val (.int p3), .val (.int p4), .val (.int (3 : Int32)), .val (.int c0), .val (.int c1), .val (.int c2), .unset, .unset, .unset] [(.int (3 : Int32)), (.ref b27), (.ref b27)])) rfl (hb hby at_95) rfl (by decide) (cap := 3) (by decide) (by decide) (by decide) (by decide)
    obtain ⟨b28, g28⟩ : ∃ z, z = hp27.size := ⟨_, rfl⟩
    rw [← g28] at A28 st28
    have s_b28 : h0.size ≤ b28 := Nat.le_trans O27.1 (Nat.le_of_eq g28.symm)
    have g_b28 : n0 ≤ b28 := Nat.le_trans Z0 s_b28
    have lt_b27_b28 : b27 < b28 := Nat.lt_of_lt_of_le A27.lt (Nat.le_of_eq g28.symm)
    have hk28 := Nat.le_trans hk27 Et28.1
    have O28 := own_extt O27 Et28
    have Ex_b27_28 := A27.ext Et28
    have F_value_b27_28 := F_value_b27.ext Et28
    have F_coder_b27_28 := F_coder_b27.ext Et28
    have Va28 : Arv Z hp28 b28 kk28 .char (3 : Int32) [(.int (0 : Int32)), (.int (0 : Int32)), (.int (0 : Int32))] (.int (0 : Int32)) := (Arv.new A28 (by decide)).pad (pad_rep [] (.int (0 : Int32)) 3)
    refine own_st st28 ?_
    show own_Go _ _ _ _ T28 (mkF m 97 #[.val (.int p1), .val (.int p2), .val (.int p3), .val (.int p4), .val (.int (3 : Int32)), .val (.int c0), .val (.int c1), .val (.int c2), .unset, .unset, .unset] [(.ref b28), (.ref b27), (.ref b27)])
    refine own_st (fun _ k => XS.dup X28.here hx rfl (hb hby at_97) rfl rfl k) ?_
    show own_Go _ _ _ _ T28 (mkF m 98 #[.val (.int p1), .val (.int p2), .val (.int p3), .val (.int p4), .val (.int (3 : Int32)), .val (.int c0), .val (.int c1), .val (.int c2), .unset, .unset, .unset] [(.ref b28), (.ref b28), (.ref b27), (.ref b27)])
    refine own_st (fun _ k => XS.iconst X28.here hx rfl (hb hby at_98) k) ?_
    show own_Go _ _ _ _ T28 (mkF m 99 #[.val (.int p1), .val (.int p2), .val (.int p3), .val (.int p4), .val (.int (3 : Int32)), .val (.int c0), .val (.int c1), .val (.int c2), .unset, .unset, .unset] [(.int (0 : Int32)), (.ref b28), (.ref b28), (.ref b27), (.ref b27)])
    refine own_st (fun _ k => XS.iload X28.here hx rfl (hb hby at_99) rfl k) ?_
    show own_Go _ _ _ _ T28 (mkF m 101 #[.val (.int p1), .val (.int p2), .val (.int p3), .val (.int p4), .val (.int (3 : Int32)), .val (.int c0), .val (.int c1), .val (.int c2), .unset, .unset, .unset] [(.int c0), (.int (0 : Int32)), (.ref b28), (.ref b28), (.ref b27), (.ref b27)])
    obtain ⟨T29, hp29, X29, e29, W29, Va29, st29⟩ := own_stC X28 hx hZ e28 Va28 (by decide) 0 (by decide) (Nat.le_of_ble_eq_true rfl) (g := (mkF m 101 #[.val (.int p1), .val (.int p2), .val (.int p3), .val (.int p4), .val (.int (3 : Int32)), .val (.int c0), .val (.int c1), .val (.int c2), .unset, .unset, .unset] [(.int c0), (.int (0 : Int32)), (.ref b28), (.ref b28), (.ref b27), (.ref b27)])) rfl rfl (hb hby at_101)
    have hk29 := Nat.le_trans hk28 (Keep.of_wr W29).1
    have O29 := own_extw O28 W29 s_b28
    have Ex_b27_29 := Ex_b27_28.wr W29
    have F_value_b27_29 := F_value_b27_28.other W29 (Or.inl (Nat.ne_of_lt lt_b27_b28))
    have F_coder_b27_29 := F_coder_b27_28.other W29 (Or.inl (Nat.ne_of_lt lt_b27_b28))
    have Va29 : Arv Z hp29 b28 kk28 .char (3 : Int32) [(.int (nar .char c0)), (.int (0 : Int32)), (.int (0 : Int32))] (.int (0 : Int32)) := Va29
    have N29 := Fr.snoc X29 N3' g_b28
    refine own_st st29 ?_
    show own_Go _ _ _ _ T29 (mkF m 102 #[.val (.int p1), .val (.int p2), .val (.int p3), .val (.int p4), .val (.int (3 : Int32)), .val (.int c0), .val (.int c1), .val (.int c2), .unset, .unset, .unset] [(.ref b28), (.ref b27), (.ref b27)])
    refine own_st (fun _ k => XS.dup X29.here hx rfl (hb hby at_102) rfl rfl k) ?_
    show own_Go _ _ _ _ T29 (mkF m 103 #[.val (.int p1), .val (.int p2), .val (.int p3), .val (.int p4), .val (.int (3 : Int32)), .val (.int c0), .val (.int c1), .val (.int c2), .unset, .unset, .unset] [(.ref b28), (.ref b28), (.ref b27), (.ref b27)])
    refine own_st (fun _ k => XS.iconst X29.here hx rfl (hb hby at_103) k) ?_
    show own_Go _ _ _ _ T29 (mkF m 104 #[.val (.int p1), .val (.int p2), .val (.int p3), .val (.int p4), .val (.int (3 : Int32)), .val (.int c0), .val (.int c1), .val (.int c2), .unset, .unset, .unset] [(.int (1 : Int32)), (.ref b28), (.ref b28), (.ref b27), (.ref b27)])
    refine own_st (fun _ k => XS.iload X29.here hx rfl (hb hby at_104) rfl k) ?_
    show own_Go _ _ _ _ T29 (mkF m 106 #[.val (.int p1), .val (.int p2), .val (.int p3), .val (.int p4), .val (.int (3 : Int32)), .val (.int c0), .val (.int c1), .val (.int c2), .unset, .unset, .unset] [(.int c1), (.int (1 : Int32)), (.ref b28), (.ref b28), (.ref b27), (.ref b27)])
    obtain ⟨T30, hp30, X30, e30, W30, Va30, st30⟩ := own_stC X29 hx hZ e29 Va29 (by decide) 1 (by decide) (Nat.le_of_ble_eq_true rfl) (g := (mkF m 106 #[.val (.int p1), .val (.int p2), .val (.int p3), .val (.int p4), .val (.int (3 : Int32)), .val (.int c0), .val (.int c1), .val (.int c2), .unset, .unset, .unset] [(.int c1), (.int (1 : Int32)), (.ref b28), (.ref b28), (.ref b27), (.ref b27)])) rfl rfl (hb hby at_106)
    have hk30 := Nat.le_trans hk29 (Keep.of_wr W30).1
    have O30 := own_extw O29 W30 s_b28
    have Ex_b27_30 := Ex_b27_29.wr W30
    have F_value_b27_30 := F_value_b27_29.other W30 (Or.inl (Nat.ne_of_lt lt_b27_b28))
    have F_coder_b27_30 := F_coder_b27_29.other W30 (Or.inl (Nat.ne_of_lt lt_b27_b28))
    have Va30 : Arv Z hp30 b28 kk28 .char (3 : Int32) [(.int (nar .char c0)), (.int (nar .char c1)), (.int (0 : Int32))] (.int (0 : Int32)) := Va30
    have N30 := Fr.snoc X30 N29 g_b28
    refine own_st st30 ?_
    show own_Go _ _ _ _ T30 (mkF m 107 #[.val (.int p1), .val (.int p2), .val (.int p3), .val (.int p4), .val (.int (3 : Int32)), .val (.int c0), .val (.int c1), .val (.int c2), .unset, .unset, .unset] [(.ref b28), (.ref b27), (.ref b27)])
    refine own_st (fun _ k => XS.dup X30.here hx rfl (hb hby at_107) rfl rfl k) ?_
    show own_Go _ _ _ _ T30 (mkF m 108 #[.val (.int p1), .val (.int p2), .val (.int p3), .val (.int p4), .val (.int (3 : Int32)), .val (.int c0), .val (.int c1), .val (.int c2), .unset, .unset, .unset] [(.ref b28), (.ref b28), (.ref b27), (.ref b27)])
    refine own_st (fun _ k => XS.iconst X30.here hx rfl (hb hby at_108) k) ?_
    show own_Go _ _ _ _ T30 (mkF m 109 #[.val (.int p1), .val (.int p2), .val (.int p3), .val (.int p4), .val (.int (3 : Int32)), .val (.int c0), .val (.int c1), .val (.int c2), .unset, .unset, .unset] [(.int (2 : Int32)), (.ref b28), (.ref b28), (.ref b27), (.ref b27)])
    refine own_st (fun _ k => XS.iload X30.here hx rfl (hb hby at_109) rfl k) ?_
    show own_Go _ _ _ _ T30 (mkF m 111 #[.val (.int p1), .val (.int p2), .val (.int p3), .val (.int p4), .val (.int (3 : Int32)), .val (.int c0), .val (.int c1), .val (.int c2), .unset, .unset, .unset] [(.int c2), (.int (2 : Int32)), (.ref b28), (.ref b28), (.ref b27), (.ref b27)])
    obtain ⟨T31, hp31, X31, e31, W31, Va31, st31⟩ := own_stC X30 hx hZ e30 Va30 (by decide) 2 (by decide) (Nat.le_of_ble_eq_true rfl) (g := (mkF m 111 #[.val (.int p1), .val (.int p2), .val (.int p3), .val (.int p4), .val (.int (3 : Int32)), .val (.int c0), .val (.int c1), .val (.int c2), .unset, .unset, .unset] [(.int c2), (.int (2 : Int32)), (.ref b28), (.ref b28), (.ref b27), (.ref b27)])) rfl rfl (hb hby at_111)
    have hk31 := Nat.le_trans hk30 (Keep.of_wr W31).1
    have O31 := own_extw O30 W31 s_b28
    have Ex_b27_31 := Ex_b27_30.wr W31
    have F_value_b27_31 := F_value_b27_30.other W31 (Or.inl (Nat.ne_of_lt lt_b27_b28))
    have F_coder_b27_31 := F_coder_b27_30.other W31 (Or.inl (Nat.ne_of_lt lt_b27_b28))
    have Va31 : Arv Z hp31 b28 kk28 .char (3 : Int32) [(.int (nar .char c0)), (.int (nar .char c1)), (.int (nar .char c2))] (.int (0 : Int32)) := Va31
    have N31 := Fr.snoc X31 N30 g_b28
    refine own_st st31 ?_
    show own_Go _ _ _ _ T31 (mkF m 112 #[.val (.int p1), .val (.int p2), .val (.int p3), .val (.int p4), .val (.int (3 : Int32)), .val (.int c0), .val (.int c1), .val (.int c2), .unset, .unset, .unset] [(.ref b28), (.ref b27), (.ref b27)])
    rw [own_narc hc0] at Va31
    rw [own_narc hc1] at Va31
    rw [own_narc hc2] at Va31
    obtain ⟨v32, T32, L32, hQ32, X32, st32⟩ := own_callI X31 hx hZ (y := (⟨"java/lang/String", "<init>", "([C)V"⟩ : MethodName)) rfl hown (own_w8 hw) (own_w9 hw) (own_w6 hw) (own_w10 hw) (by decide) (own_cc3 l hw [] b27 b28 cs kk28 c0 c1 c2 hp31 n0 (Nat.le_trans Z0 O31.1) hc0 hc1 hc2 (Scs.ext O31) hcs g_b27 Ex_b27_31 F_value_b27_31 F_coder_b27_31 Va31) e31 (g := (mkF m 112 #[.val (.int p1), .val (.int p2), .val (.int p3), .val (.int p4), .val (.int (3 : Int32)), .val (.int c0), .val (.int c1), .val (.int c2), .unset, .unset, .unset] [(.ref b28), (.ref b27), (.ref b27)])) rfl (by rw [hml]; rfl) (argsL := [(.ref b28)]) (rest := [(.ref b27)]) (lenOf own_pd11 rfl) rfl rfl (W := 1) (Nat.le_of_eq rfl) (hb hby at_112) (by decide) (by decide) (by decide) (by decide)
    obtain ⟨rfl, N32, K32, bv, kb, Fvb, Fcb, Vb⟩ := hQ32
    have O32 := own_extk O31 K32 s_b27
    have hk32 := Nat.le_trans hk31 K32.1
    have V_b28_32 := Va31.keep K32 (ninS (Nat.ne_of_gt lt_b27_b28) nin0)
    have Ex_b27_32 := Ex_b27_31.keep K32
    have N32' := Fr.app N31 N32
    refine own_st st32 ?_
    show own_Go _ _ _ _ T32 (mkF m 115 #[.val (.int p1), .val (.int p2), .val (.int p3), .val (.int p4), .val (.int (3 : Int32)), .val (.int c0), .val (.int c1), .val (.int c2), .unset, .unset, .unset] [(.ref b27)])
    have dn0 : ¬ u0 = b27 := fun e => absurd (e ▸ Eu0.lt) (Nat.not_lt.mpr s_b27)
    have dn1 : ¬ u1 = b27 := fun e => absurd (e ▸ Eu1.lt) (Nat.not_lt.mpr s_b27)
    have dn2 : ¬ u2 = b27 := fun e => absurd (e ▸ Eu2.lt) (Nat.not_lt.mpr s_b27)
    have dn3 : ¬ u3 = b27 := fun e => absurd (e ▸ Eu3.lt) (Nat.not_lt.mpr s_b27)
    have dn4 : ¬ u4 = b27 := fun e => absurd (e ▸ Eu4.lt) (Nat.not_lt.mpr s_b27)
    have dn5 : ¬ u5 = b27 := fun e => absurd (e ▸ Eu5.lt) (Nat.not_lt.mpr s_b27)
    refine own_st (fun _ k => XS.astore X32.here hx rfl (hb hby at_115) rfl rfl (l' := #[.val (.int p1), .val (.int p2), .val (.int p3), .val (.int p4), .val (.int (3 : Int32)), .val (.int c0), .val (.int c1), .val (.int c2), .val (.ref b27), .unset, .unset]) rfl k) ?_
    show own_Go _ _ _ _ T32 (mkF m 117 #[.val (.int p1), .val (.int p2), .val (.int p3), .val (.int p4), .val (.int (3 : Int32)), .val (.int c0), .val (.int c1), .val (.int c2), .val (.ref b27), .unset, .unset] [])
    refine own_st (fun _ k => XS.iload X32.here hx rfl (hb hby at_117) rfl k) ?_
    show own_Go _ _ _ _ T32 (mkF m 119 #[.val (.int p1), .val (.int p2), .val (.int p3), .val (.int p4), .val (.int (3 : Int32)), .val (.int c0), .val (.int c1), .val (.int c2), .val (.ref b27), .unset, .unset] [(.int (3 : Int32))])
    refine own_st (fun _ k => XS.iload X32.here hx rfl (hb hby at_119) rfl k) ?_
    show own_Go _ _ _ _ T32 (mkF m 121 #[.val (.int p1), .val (.int p2), .val (.int p3), .val (.int p4), .val (.int (3 : Int32)), .val (.int c0), .val (.int c1), .val (.int c2), .val (.ref b27), .unset, .unset] [(.int c0), (.int (3 : Int32))])
    refine own_st (fun _ k => XS.iload X32.here hx rfl (hb hby at_121) rfl k) ?_
    show own_Go _ _ _ _ T32 (mkF m 123 #[.val (.int p1), .val (.int p2), .val (.int p3), .val (.int p4), .val (.int (3 : Int32)), .val (.int c0), .val (.int c1), .val (.int c2), .val (.ref b27), .unset, .unset] [(.int c1), (.int c0), (.int (3 : Int32))])
    show own_Go _ _ _ _ T32 (mkF m 123 #[.val (.int p1), .val (.int p2), .val (.int p3), .val (.int p4), .val (.int (3 : Int32)), .val (.int c0), .val (.int c1), .val (.int c2), .val (.ref b27), .unset, .unset] [(.int c1), (.int c0), (.int (3 : Int32))])
    obtain ⟨v33, T33, L33, hQ33, X33, st33⟩ := own_callS X32 hx hZ (y := (⟨"com/example/overflowstream/overflowstream/OperatorWrittenPinLaw", "expected", "(ICC)Lcom/example/overflowstream/overflowstream/Query$Operator;"⟩ : MethodName)) hown (own_w26 hw) (own_w27 hw) (own_w2 hw) (own_w28 hw) (by decide) (own_ex l hw [] (3 : Int32) c0 c1 w0 w1 w2 w3 w4 w5 T32.heap n0 (Nat.le_trans Z0 O32.1) (S0.ext O32) (S1.ext O32) (S2.ext O32) (S3.ext O32) (S4.ext O32) (S5.ext O32)) rfl (g := (mkF m 123 #[.val (.int p1), .val (.int p2), .val (.int p3), .val (.int p4), .val (.int (3 : Int32)), .val (.int c0), .val (.int c1), .val (.int c2), .val (.ref b27), .unset, .unset] [(.int c1), (.int c0), (.int (3 : Int32))])) rfl (by rw [hml]; rfl) (argsL := [(.int (3 : Int32)), (.int c0), (.int c1)]) (rest := []) (lenOf own_pd12 rfl) rfl rfl (W := 0) (Nat.le_of_eq rfl) (hb hby at_123) (by decide) (by decide) (by decide) (by decide)
    obtain ⟨rfl, N33, e33⟩ := hQ33
    have N33' := Fr.app N32' N33
    refine own_st st33 ?_
    show own_Go _ _ _ _ T33 (mkF m 126 #[.val (.int p1), .val (.int p2), .val (.int p3), .val (.int p4), .val (.int (3 : Int32)), .val (.int c0), .val (.int c1), .val (.int c2), .val (.ref b27), .unset, .unset] [(own_exv (3 : Int32) c0 c1 w0 w1 w2 w3 w4 w5)])
    show own_Go _ _ _ _ T33 (mkF m 126 #[.val (.int p1), .val (.int p2), .val (.int p3), .val (.int p4), .val (.int (3 : Int32)), .val (.int c0), .val (.int c1), .val (.int c2), .val (.ref b27), .unset, .unset] [(own_exv (3 : Int32) c0 c1 w0 w1 w2 w3 w4 w5)])
    rw [show (own_exv (3 : Int32) c0 c1 w0 w1 w2 w3 w4 w5) = .null from by (simp [own_exv])]
    show own_Go _ _ _ _ T33 (mkF m 126 #[.val (.int p1), .val (.int p2), .val (.int p3), .val (.int p4), .val (.int (3 : Int32)), .val (.int c0), .val (.int c1), .val (.int c2), .val (.ref b27), .unset, .unset] [.null])
    refine own_st (fun _ k => XS.astore X33.here hx rfl (hb hby at_126) rfl rfl (l' := #[.val (.int p1), .val (.int p2), .val (.int p3), .val (.int p4), .val (.int (3 : Int32)), .val (.int c0), .val (.int c1), .val (.int c2), .val (.ref b27), .val .null, .unset]) rfl k) ?_
    show own_Go _ _ _ _ T33 (mkF m 128 #[.val (.int p1), .val (.int p2), .val (.int p3), .val (.int p4), .val (.int (3 : Int32)), .val (.int c0), .val (.int c1), .val (.int c2), .val (.ref b27), .val .null, .unset] [])
    refine own_st (fun _ k => XS.aload X33.here hx rfl (hb hby at_128) rfl rfl k) ?_
    show own_Go _ _ _ _ T33 (mkF m 130 #[.val (.int p1), .val (.int p2), .val (.int p3), .val (.int p4), .val (.int (3 : Int32)), .val (.int c0), .val (.int c1), .val (.int c2), .val (.ref b27), .val .null, .unset] [(.ref b27)])
    obtain ⟨v34, T34, L34, hQ34, X34, st34⟩ := own_callS X33 hx hZ (y := (⟨"com/example/overflowstream/overflowstream/Query$Operator", "written", "(Ljava/lang/String;)Lcom/example/overflowstream/overflowstream/Query$Operator;"⟩ : MethodName)) hown (own_w29 hw) (own_w30 hw) (own_w31 hw) (own_w32 hw) (by decide) (own_wr3 l hw [] b27 bv kb wv w0 w1 w2 w3 w4 w5 u0 u1 u2 u3 u4 u5 y_0 y_1 y_2 y_3 y_4 y_5 kv k_0 k_1 k_2 k_3 k_4 k_5 cs (nar .byte (c0.toInt8.toInt32)) (nar .byte (c1.toInt8.toInt32)) (nar .byte (c2.toInt8.toInt32)) T32.heap n0 (Nat.le_trans Z0 O32.1) (Scs.ext O32) hcs (Sv.ext O32) (Vv.ext O32) (Ev.ext O32) (Fs0.ext O32) (Eu0.ext O32) (Gv0.ext O32) (Gc0.ext O32) (Vy0.ext O32) (Fs1.ext O32) (Eu1.ext O32) (Gv1.ext O32) (Gc1.ext O32) (Vy1.ext O32) (Fs2.ext O32) (Eu2.ext O32) (Gv2.ext O32) (Gc2.ext O32) (Vy2.ext O32) (Fs3.ext O32) (Eu3.ext O32) (Gv3.ext O32) (Gc3.ext O32) (Vy3.ext O32) (Fs4.ext O32) (Eu4.ext O32) (Gv4.ext O32) (Gc4.ext O32) (Vy4.ext O32) (Fs5.ext O32) (Eu5.ext O32) (Gv5.ext O32) (Gc5.ext O32) (Vy5.ext O32) dn0 dn1 dn2 dn3 dn4 dn5 Ex_b27_32 Fvb Fcb Vb) e33 (g := (mkF m 130 #[.val (.int p1), .val (.int p2), .val (.int p3), .val (.int p4), .val (.int (3 : Int32)), .val (.int c0), .val (.int c1), .val (.int c2), .val (.ref b27), .val .null, .unset] [(.ref b27)])) rfl (by rw [hml]; rfl) (argsL := [(.ref b27)]) (rest := []) (lenOf own_pd13 rfl) rfl rfl (W := 0) (Nat.le_of_eq rfl) (hb hby at_130) (by decide) (by decide) (by decide) (by decide)
    obtain ⟨rfl, N34, Et34⟩ := hQ34
    have hk34 := Nat.le_trans hk32 Et34.1
    have O34 := own_extt O32 Et34
    have V_bv_34 := Vb.ext Et34
    have Ex_b27_34 := Ex_b27_32.ext Et34
    have F_value_b27_34 := Fvb.ext Et34
    have F_coder_b27_34 := Fcb.ext Et34
    have N34' := Fr.app N33' N34
    refine own_st st34 ?_
    show own_Go _ _ _ _ T34 (mkF m 133 #[.val (.int p1), .val (.int p2), .val (.int p3), .val (.int p4), .val (.int (3 : Int32)), .val (.int c0), .val (.int c1), .val (.int c2), .val (.ref b27), .val .null, .unset] [.null])
    refine own_st (fun _ k => XS.astore X34.here hx rfl (hb hby at_133) rfl rfl (l' := #[.val (.int p1), .val (.int p2), .val (.int p3), .val (.int p4), .val (.int (3 : Int32)), .val (.int c0), .val (.int c1), .val (.int c2), .val (.ref b27), .val .null, .val .null]) rfl k) ?_
    show own_Go _ _ _ _ T34 (mkF m 135 #[.val (.int p1), .val (.int p2), .val (.int p3), .val (.int p4), .val (.int (3 : Int32)), .val (.int c0), .val (.int c1), .val (.int c2), .val (.ref b27), .val .null, .val .null] [])
    refine own_st (fun _ k => XS.aload X34.here hx rfl (hb hby at_135) rfl rfl k) ?_
    show own_Go _ _ _ _ T34 (mkF m 137 #[.val (.int p1), .val (.int p2), .val (.int p3), .val (.int p4), .val (.int (3 : Int32)), .val (.int c0), .val (.int c1), .val (.int c2), .val (.ref b27), .val .null, .val .null] [.null])
    refine own_st (fun _ k => XS.aload X34.here hx rfl (hb hby at_137) rfl rfl k) ?_
    show own_Go _ _ _ _ T34 (mkF m 139 #[.val (.int p1), .val (.int p2), .val (.int p3), .val (.int p4), .val (.int (3 : Int32)), .val (.int c0), .val (.int c1), .val (.int c2), .val (.ref b27), .val .null, .val .null] [.null, .null])
    refine own_st (fun _ k => Jvm.RoadKit.acmp (g := (mkF m 139 #[.val (.int p1), .val (.int p2), .val (.int p3), .val (.int p4), .val (.int (3 : Int32)), .val (.int c0), .val (.int c1), .val (.int c2), .val (.ref b27), .val .null, .val .null] [.null, .null])) X34 hx rfl rfl rfl (pc0 := 139) (pc' := 142) (same := true) rfl (hb hby at_139) rfl (decide_eq_true rfl) (by decide) (by decide) k) ?_
    show own_Go _ _ _ _ T34 (mkF m 142 #[.val (.int p1), .val (.int p2), .val (.int p3), .val (.int p4), .val (.int (3 : Int32)), .val (.int c0), .val (.int c1), .val (.int c2), .val (.ref b27), .val .null, .val .null] [])
    refine own_st (fun _ k => XS.iconst X34.here hx rfl (hb hby at_142) k) ?_
    show own_Go _ _ _ _ T34 (mkF m 143 #[.val (.int p1), .val (.int p2), .val (.int p3), .val (.int p4), .val (.int (3 : Int32)), .val (.int c0), .val (.int c1), .val (.int c2), .val (.ref b27), .val .null, .val .null] [(.int (1 : Int32))])
    refine own_st (fun _ k => XS.goto X34.here hx rfl (pc0 := 143) (pc' := 147) rfl (hb hby at_143) (by decide) (by decide) k) ?_
    show own_Go _ _ _ _ T34 (mkF m 147 #[.val (.int p1), .val (.int p2), .val (.int p3), .val (.int p4), .val (.int (3 : Int32)), .val (.int c0), .val (.int c1), .val (.int c2), .val (.ref b27), .val .null, .val .null] [(.int (1 : Int32))])
    exact own_retNW X34 hS hk34 hx hret (by simp) hlk (hb hby at_147) ⟨rfl, N34'⟩ (by decide) (by decide)
set_option maxRecDepth 65536 in
set_option maxHeartbeats 40000000 in
theorem comes_1 {Post : Tables → Env → Array Value → State → Outcome → State → Prop} (hpost : ∀ tb e args s v u, (limb_1_1.after args s (.returned v) u = true ∧ limb_1_2.after args s (.returned v) u = true ∧ True) → ReturnedEndW s (.returned v) u (Jvm.fieldLocs frame_1_writes args s ++ Jvm.arrayLocs frame_1_arrays args s ++ Jvm.staticLocs frame_1_statics s) 24 1152 → Post tb e args s (.returned v) u) :
    ArmFor flags0 classFile x code maxLocals ret World_1 tables_1 room_1 Calls_1 rest_1 Pre_1 Post := by
  intro l hfl _ _ p e ha hc hk s m args below hf hA hF happ hP
  obtain ⟨hcalls, hrest, hpre⟩ := hP
  obtain ⟨-, -, -, hnamed, -, -, -, hat⟩ := (Spec.applies_iff hf).mp happ
  obtain ⟨hg, hn⟩ := and_e (Cond.before_iff.mp (show (Jvm.Cond.and given_1 narrow_1).before args s = true from hpre))
  obtain ⟨q1, q2⟩ := and_e hg
  obtain ⟨q3, q4⟩ := and_e q2
  obtain ⟨q5, q6⟩ := and_e q4
  obtain ⟨q7, q8⟩ := and_e q6
  obtain ⟨w0_, w1_, w2_, w3_, rfl⟩ : ∃ w0_ w1_ w2_ w3_ : Value, args = #[w0_, w1_, w2_, w3_] := by
    have hs : args.size = 4 := by simpa [Cond.value, given_1] using q1
    obtain ⟨L⟩ := args
    match L, hs with
    | [w0_, w1_, w2_, w3_], _ => exact ⟨w0_, w1_, w2_, w3_, rfl⟩
  have hw : own_W s _ := fun d (hd : d ∈ tables_1) => atoms_spec (ws := Jvm.Cond.code x code maxLocals ret :: tables_1) hat d (List.mem_cons_of_mem _ hd)
  have hfit : Fit s := fun {y c} hc i hi => by
    obtain ⟨ha, rfl⟩ := Array.getElem?_eq_some_iff.mp hc
    have q := List.all_eq_true.mp ((Array.all_eq_true_iff_forall_mem.mp hF) _ (Array.getElem_mem ha)) i (List.mem_range.mpr hi)
    simpa [Array.getElem?_eq_getElem hi] using q
  obtain ⟨i0, ei0⟩ := is_v q3
  obtain rfl : w0_ = (.int i0) := Option.some.inj ei0
  obtain ⟨i1, ei1⟩ := is_v q5
  obtain rfl : w1_ = (.int i1) := Option.some.inj ei1
  obtain ⟨i2, ei2⟩ := is_v q7
  obtain rfl : w2_ = (.int i2) := Option.some.inj ei2
  obtain ⟨i3, ei3⟩ := is_v q8
  obtain rfl : w3_ = (.int i3) := Option.some.inj ei3
  obtain ⟨hsets, hown0⟩ := atoms_of _ (rest_1_c_eq ▸ (show rest_1_c.before _ s = true from hrest))
  have hn : narrow_1.value _ s none s [] = some true := hn
  obtain ⟨q9, q10⟩ := and_e hn
  obtain ⟨q11, q12⟩ := and_e q10
  obtain ⟨q13, q14⟩ := and_e q12
  obtain ⟨q15, q16⟩ := and_e q14
  obtain ⟨q17, q18⟩ := and_e q16
  obtain ⟨q19, q20⟩ := and_e q18
  obtain ⟨q21, q22⟩ := and_e q20
  obtain ⟨q23, q24⟩ := and_e q22
  obtain ⟨q25, q26⟩ := and_e q24
  obtain ⟨q27, q28⟩ := and_e q26
  obtain ⟨q29, q30⟩ := and_e q28
  obtain ⟨q31, q32⟩ := and_e q30
  obtain ⟨q33, q34⟩ := and_e q32
  obtain ⟨q35, q36⟩ := and_e q34
  obtain ⟨q37, q38⟩ := and_e q36
  obtain ⟨q39, q40⟩ := and_e q38
  obtain ⟨q41, q42⟩ := and_e q40
  obtain ⟨q43, q44⟩ := and_e q42
  obtain ⟨q45, q46⟩ := and_e q44
  obtain ⟨q47, q48⟩ := and_e q46
  obtain ⟨q49, q50⟩ := and_e q48
  obtain ⟨q51, q52⟩ := and_e q50
  obtain ⟨q53, q54⟩ := and_e q52
  obtain ⟨q55, q56⟩ := and_e q54
  obtain ⟨q57, q58⟩ := and_e q56
  obtain ⟨q59, q60⟩ := and_e q58
  obtain ⟨q61, q62⟩ := and_e q60
  obtain ⟨q63, q64⟩ := and_e q62
  obtain ⟨q65, q66⟩ := and_e q64
  obtain ⟨q67, q68⟩ := and_e q66
  obtain ⟨q69, q70⟩ := and_e q68
  obtain ⟨q71, q72⟩ := and_e q70
  obtain ⟨q73, q74⟩ := and_e q72
  obtain ⟨q75, q76⟩ := and_e q74
  obtain ⟨q77, q78⟩ := and_e q76
  obtain ⟨q79, q80⟩ := and_e q78
  obtain ⟨q81, q82⟩ := and_e q80
  obtain ⟨q83, q84⟩ := and_e q82
  obtain ⟨q85, q86⟩ := and_e q84
  obtain ⟨q87, q88⟩ := and_e q86
  obtain ⟨q89, q90⟩ := and_e q88
  obtain ⟨q91, q92⟩ := and_e q90
  obtain ⟨q93, q94⟩ := and_e q92
  obtain ⟨q95, q96⟩ := and_e q94
  obtain ⟨q97, q98⟩ := and_e q96
  obtain ⟨q99, q100⟩ := and_e q98
  obtain ⟨q101, q102⟩ := and_e q100
  obtain ⟨w103, vw103⟩ := arr_v q9
  obtain ⟨cA104, A104⟩ := Arr.start vw103 q9
  have S105 := Sta.start vw103 (Or.inl (own_w51 hw))
  have E106 := Exa.start vw103 q11
  obtain ⟨w107, vw107⟩ := exa_v q15
  have E108 := Exa.start vw107 q15
  have S109 := Sta.start vw107 (Or.inr ⟨(own_w31 hw), (own_w45 hw)⟩)
  obtain ⟨w110, vw110⟩ := exa_v q19
  have E111 := Exa.start vw110 q19
  have S112 := Sta.start vw110 (Or.inr ⟨(own_w31 hw), (own_w46 hw)⟩)
  obtain ⟨w113, vw113⟩ := exa_v q23
  have E114 := Exa.start vw113 q23
  have S115 := Sta.start vw113 (Or.inr ⟨(own_w31 hw), (own_w47 hw)⟩)
  obtain ⟨w116, vw116⟩ := exa_v q27
  have E117 := Exa.start vw116 q27
  have S118 := Sta.start vw116 (Or.inr ⟨(own_w31 hw), (own_w48 hw)⟩)
  obtain ⟨w119, vw119⟩ := exa_v q31
  have E120 := Exa.start vw119 q31
  have S121 := Sta.start vw119 (Or.inr ⟨(own_w31 hw), (own_w49 hw)⟩)
  obtain ⟨w122, vw122⟩ := exa_v q35
  have E123 := Exa.start vw122 q35
  have S124 := Sta.start vw122 (Or.inr ⟨(own_w31 hw), (own_w50 hw)⟩)
  obtain ⟨w125, vw125⟩ := exa_v q39
  have E126 := Exa.start vw125 q39
  have F127 := Fld.start ((fld_at vw107).symm.trans vw125)
  have F128 := Fld.start ((fld_at vw125).symm.trans (own_eqi q41))
  obtain ⟨w129, vw129⟩ := arr_v q43
  obtain ⟨cA130, A130⟩ := Arr.start vw129 q43
  have F131 := Fld.start ((fld_at vw125).symm.trans vw129)
  obtain ⟨w132, vw132⟩ := exa_v q47
  have E133 := Exa.start vw132 q47
  have F134 := Fld.start ((fld_at vw110).symm.trans vw132)
  have F135 := Fld.start ((fld_at vw132).symm.trans (own_eqi q49))
  obtain ⟨w136, vw136⟩ := arr_v q51
  obtain ⟨cA137, A137⟩ := Arr.start vw136 q51
  have F138 := Fld.start ((fld_at vw132).symm.trans vw136)
  obtain ⟨w139, vw139⟩ := exa_v q55
  have E140 := Exa.start vw139 q55
  have F141 := Fld.start ((fld_at vw113).symm.trans vw139)
  have F142 := Fld.start ((fld_at vw139).symm.trans (own_eqi q57))
  obtain ⟨w143, vw143⟩ := arr_v q59
  obtain ⟨cA144, A144⟩ := Arr.start vw143 q59
  have F145 := Fld.start ((fld_at vw139).symm.trans vw143)
  obtain ⟨w146, vw146⟩ := exa_v q63
  have E147 := Exa.start vw146 q63
  have F148 := Fld.start ((fld_at vw116).symm.trans vw146)
  have F149 := Fld.start ((fld_at vw146).symm.trans (own_eqi q65))
  obtain ⟨w150, vw150⟩ := arr_v q67
  obtain ⟨cA151, A151⟩ := Arr.start vw150 q67
  have F152 := Fld.start ((fld_at vw146).symm.trans vw150)
  obtain ⟨w153, vw153⟩ := exa_v q71
  have E154 := Exa.start vw153 q71
  have F155 := Fld.start ((fld_at vw119).symm.trans vw153)
  have F156 := Fld.start ((fld_at vw153).symm.trans (own_eqi q73))
  obtain ⟨w157, vw157⟩ := arr_v q75
  obtain ⟨cA158, A158⟩ := Arr.start vw157 q75
  have F159 := Fld.start ((fld_at vw153).symm.trans vw157)
  obtain ⟨w160, vw160⟩ := exa_v q79
  have E161 := Exa.start vw160 q79
  have F162 := Fld.start ((fld_at vw122).symm.trans vw160)
  have F163 := Fld.start ((fld_at vw160).symm.trans (own_eqi q81))
  obtain ⟨w164, vw164⟩ := arr_v q83
  obtain ⟨cA165, A165⟩ := Arr.start vw164 q83
  have F166 := Fld.start ((fld_at vw160).symm.trans vw164)
  have V167 : Arv s s.heap w103 cA104.cls (.object "com/example/overflowstream/overflowstream/Query$Operator") (6 : Int32) [(.ref w107), (.ref w110), (.ref w113), (.ref w116), (.ref w119), (.ref w122)] .null := Arv.start hfit A104 (own_lenw q13 vw103 A104).1 (own_lenw q13 vw103 A104).2 (by decide) rfl ⟨own_elemw q17 vw103 vw107 A104, own_elemw q21 vw103 vw110 A104, own_elemw q25 vw103 vw113 A104, own_elemw q29 vw103 vw116 A104, own_elemw q33 vw103 vw119 A104, own_elemw q37 vw103 vw122 A104, trivial⟩
  have V168 : Arv s s.heap w129 cA130.cls .byte (1 : Int32) [(.int (61 : Int32))] (.int (0 : Int32)) := Arv.start hfit A130 (own_lenw q45 vw129 A130).1 (own_lenw q45 vw129 A130).2 (by decide) rfl ⟨own_elemi q93 vw129 A130, trivial⟩
  have V169 : Arv s s.heap w136 cA137.cls .byte (2 : Int32) [(.int (60 : Int32)), (.int (62 : Int32))] (.int (0 : Int32)) := Arv.start hfit A137 (own_lenw q53 vw136 A137).1 (own_lenw q53 vw136 A137).2 (by decide) rfl ⟨own_elemi q87 vw136 A137, own_elemi q101 vw136 A137, trivial⟩
  have V170 : Arv s s.heap w143 cA144.cls .byte (1 : Int32) [(.int (60 : Int32))] (.int (0 : Int32)) := Arv.start hfit A144 (own_lenw q61 vw143 A144).1 (own_lenw q61 vw143 A144).2 (by decide) rfl ⟨own_elemi q95 vw143 A144, trivial⟩
  have V171 : Arv s s.heap w150 cA151.cls .byte (2 : Int32) [(.int (60 : Int32)), (.int (61 : Int32))] (.int (0 : Int32)) := Arv.start hfit A151 (own_lenw q69 vw150 A151).1 (own_lenw q69 vw150 A151).2 (by decide) rfl ⟨own_elemi q89 vw150 A151, own_elemi q102 vw150 A151, trivial⟩
  have V172 : Arv s s.heap w157 cA158.cls .byte (1 : Int32) [(.int (62 : Int32))] (.int (0 : Int32)) := Arv.start hfit A158 (own_lenw q77 vw157 A158).1 (own_lenw q77 vw157 A158).2 (by decide) rfl ⟨own_elemi q97 vw157 A158, trivial⟩
  have V173 : Arv s s.heap w164 cA165.cls .byte (2 : Int32) [(.int (62 : Int32)), (.int (61 : Int32))] (.int (0 : Int32)) := Arv.start hfit A165 (own_lenw q85 vw164 A165).1 (own_lenw q85 vw164 A165).2 (by decide) rfl ⟨own_elemi q91 vw164 A165, own_elemi q99 vw164 A165, trivial⟩
  have z1 := Cond.before_iff.mp (hsets _ (List.mem_of_getElem? (i := 1) rfl))
  have z2 := not_v (Cond.before_iff.mp (hsets _ (List.mem_of_getElem? (i := 2) rfl)))
  obtain ⟨cs, vcs⟩ := is_v z1
  have Scs := Sta.start vcs (Or.inl (hsets _ (List.mem_of_getElem? (i := 0) rfl)))
  have hcs : ¬ cs = 0 := fun e => by
    have q := eq_i vcs (Term.int_eval 0) (congrArg Value.int e)
    rw [q] at z2
    cases z2
  have hcw : Jvm.Lit.compactW.before _ s = true := (hsets _ (List.mem_of_getElem? (i := 2) rfl))
  have hh : Jvm.Lit.constHeld s "java/lang/String" 7 := hcalls.1 ("java/lang/String", 7) (by simp [consts_1])
  obtain ⟨n, o, r1, r2, r3, _, L, rfl, ⟨rfl, N⟩, hq⟩ := own_law l hw tables_1 i0 i1 i2 i3 w103 w107 w110 w113 w116 w119 w122 w125 w132 w139 w146 w153 w160 w129 w136 w143 w150 w157 w164 cA104.cls cA130.cls cA137.cls cA144.cls cA151.cls cA158.cls cA165.cls cs s.heap s.heap.size (Nat.le_refl _) hh hcw (own_extr _) Scs hcs S105 V167 E106 F127 E126 F131 F128 V168 F134 E133 F138 F135 V169 F141 E140 F145 F142 V170 F148 E147 F152 F149 V171 F155 E154 F159 F156 V172 F162 E161 F166 F163 V173 S109 S112 S115 S118 S121 S124 p e ha hc hk s m _ below hf ((Spec.applies_iff_loose hf).mp happ).1 ⟨rfl, State.Warmed39.refl s, rfl, IB.start⟩ trivial
  refine ⟨n, _, r1, r2, r3, hpost _ _ _ _ _ _ ⟨Cond.after_iff.mpr rfl, Cond.after_iff.mpr (eq_i res_at (Term.int_eval (1)) rfl), trivial⟩ ⟨hq.1, hq.2.1, hq.2.2.1, (hq.2.2.2.sift fun y hy => Or.inr (N y hy)).mono (by decide) (by decide)⟩⟩
theorem main_1_1 : Claimed_1_1 := comes_1 fun _ _ _ _ _ _ h hF => ⟨h.1, hF⟩
theorem main_1_2 : Claimed_1_2 := comes_1 fun _ _ _ _ _ _ h hF => ⟨h.2.1, hF⟩
end Jvm.Pilot.@@N@@
namespace Jvm.Pilot.@@N@@
open Jvm Jvm.ClassFile Sem Op Lib Jvm.Free Jvm.Stand Jvm.Pilot.@@N@@.Jvm.D
/-! MADE BY PROGRAM (witnessworld.py) out of the Statement's table words and the real class files: 22 classes; the members and pool entries that the words name. The judged class is class 1, her method 3. -/
namespace start1
open Jvm.ClassFile
def u (s : String) : CpInfo := .utf8 (stringToUtf16 s)
/-- a pool by its gaps: so many unusable entries, then the entry; so many at the end -/
def gap : Nat → List CpInfo → List CpInfo
  | 0, r => r
  | n + 1, r => .unusable :: gap n r
def poolList (es : List (Nat × CpInfo)) (last : Nat) : List CpInfo := es.foldr (fun e r => gap e.1 (e.2 :: r)) (gap last [])
def pool (es : List (Nat × CpInfo)) (last : Nat) : Array CpInfo := ⟨poolList es last⟩
def fileOf (pool : Array CpInfo) (this : Nat) (attrs : Array Attribute := #[]) (ms : Array MethodInfo := #[]) (fl : Nat := 33) (sup : Nat := 0) (ifs : Array Nat := #[]) (fds : Array FieldInfo := #[]) : ClassFile where
  minorVersion := 0
  majorVersion := 65
  constantPool := pool
  accessFlags := fl
  thisClass := this
  superClass := sup
  interfaces := ifs
  fields := fds
  methods := ms
  attributes := attrs
def plain (name : String) (sup : Option ClassId) : Class where
  name := name
  kind := .ordinary
  loader := none
  accessFlags := 33
  super := sup
  interfaces := #[]
  cf := none
  fields := #[]
  methods := #[]
  instanceTypes := #[]
  staticTypes := #[]
  resolved := #[]
  callSites := []
  init := .initialized
  statics := none
  mirror := none

def pool0 : Array CpInfo := pool [(5, u "<init>"), (0, u "()V"), (1, .class_ 10), (1, u "java/lang/Object"), (85, u "clone"), (0, u "()Ljava/lang/Object;")] 26

def k0c0 : Code := { maxStack := 0, maxLocals := 1, code := object_method_1_code, exceptionTable := #[], attributes := #[] }
def k0m0 : Method := { name := "<init>", desc := "()V", sig := { parameters := [], returnType := none }, accessFlags := 1, code := some k0c0 }
def k0m1 : Method := { name := "clone", desc := "()Ljava/lang/Object;", sig := { parameters := [], returnType := some (.object "java/lang/Object") }, accessFlags := 260, code := none }
/-- java/lang/Object -/
def k0 : Class := { plain "java/lang/Object" none with
  accessFlags := 33
  interfaces := #[]
  cf := some (fileOf pool0 8 #[] #[{ accessFlags := 1, nameIndex := 5, descriptorIndex := 6, attributes := #[] }, { accessFlags := 260, nameIndex := 96, descriptorIndex := 97, attributes := #[] }] 33 0 #[] #[])
  fields := #[]
  methods := #[k0m0, k0m1]
  instanceTypes := #[]
  staticTypes := #[]
  resolved := Array.replicate 124 none
  statics := none }

def pool1 : Array CpInfo := pool [(2, .class_ 4), (1, u "java/lang/Object"), (0, u "<init>"), (0, u "()V"), (0, .fieldref 8 9), (0, .class_ 10), (0, .nameAndType 11 12), (0, u "com/example/overflowstream/overflowstream/Query$Operator"), (0, u "EQUAL"), (0, u "Lcom/example/overflowstream/overflowstream/Query$Operator;"), (0, .fieldref 8 14), (0, .nameAndType 15 12), (0, u "LESS"), (0, .fieldref 8 17), (0, .nameAndType 18 12), (0, u "GREATER"), (0, .fieldref 8 20), (0, .nameAndType 21 12), (0, u "NOT_EQUAL"), (0, .fieldref 8 23), (0, .nameAndType 24 12), (0, u "LESS_OR_EQUAL"), (0, .fieldref 8 26), (0, .nameAndType 27 12), (0, u "GREATER_OR_EQUAL"), (0, .methodref 29 30), (0, .class_ 31), (0, .nameAndType 32 33), (0, u "com/example/overflowstream/overflowstream/OperatorWrittenPinLaw"), (0, u "pick"), (0, u "(I)C"), (0, .class_ 35), (0, u "java/lang/String"), (0, .methodref 34 37), (0, .nameAndType 5 38), (0, u "([C)V"), (0, .methodref 34 40), (0, .nameAndType 41 42), (0, u "valueOf"), (0, u "(C)Ljava/lang/String;"), (0, .methodref 29 44), (0, .nameAndType 45 46), (0, u "expected"), (0, u "(ICC)Lcom/example/overflowstream/overflowstream/Query$Operator;"), (0, .methodref 8 48), (0, .nameAndType 49 50), (0, u "written"), (0, u "(Ljava/lang/String;)Lcom/example/overflowstream/overflowstream/Query$Operator;"), (3, u "law"), (0, u "(IIII)Z")] 6

def k1m0 : Method := { name := "<init>", desc := "()V", sig := { parameters := [], returnType := none }, accessFlags := 2, code := none }
def k1c1 : Code := { maxStack := 2, maxLocals := 2, code := method_2_code, exceptionTable := #[], attributes := #[] }
def k1m1 : Method := { name := "pick", desc := "(I)C", sig := { parameters := [.int], returnType := some .char }, accessFlags := 10, code := some k1c1 }
def k1c2 : Code := { maxStack := 2, maxLocals := 3, code := method_3_code, exceptionTable := #[], attributes := #[] }
def k1m2 : Method := { name := "expected", desc := "(ICC)Lcom/example/overflowstream/overflowstream/Query$Operator;", sig := { parameters := [.int, .char, .char], returnType := some (.object "com/example/overflowstream/overflowstream/Query$Operator") }, accessFlags := 10, code := some k1c2 }
def k1c3 : Code := { maxStack := 6, maxLocals := 11, code := code, exceptionTable := #[], attributes := #[] }
def k1m3 : Method := { name := "law", desc := "(IIII)Z", sig := { parameters := [.int, .int, .int, .int], returnType := some .boolean }, accessFlags := 9, code := some k1c3 }
/-- com/example/overflowstream/overflowstream/OperatorWrittenPinLaw -/
def k1 : Class := { plain "com/example/overflowstream/overflowstream/OperatorWrittenPinLaw" (some 0) with
  accessFlags := 49
  interfaces := #[]
  cf := some (fileOf pool1 29 #[] #[{ accessFlags := 2, nameIndex := 5, descriptorIndex := 6, attributes := #[] }, { accessFlags := 10, nameIndex := 32, descriptorIndex := 33, attributes := #[] }, { accessFlags := 10, nameIndex := 45, descriptorIndex := 46, attributes := #[] }, { accessFlags := 9, nameIndex := 54, descriptorIndex := 55, attributes := #[] }] 49 2 #[] #[])
  fields := #[]
  methods := #[k1m0, k1m1, k1m2, k1m3]
  instanceTypes := #[]
  staticTypes := #[]
  resolved := Array.replicate 62 none
  statics := none }

def pool2 : Array CpInfo := pool [(1, .class_ 2), (0, u "java/io/Serializable"), (0, .class_ 4), (0, u "java/lang/Object")] 2

/-- java/io/Serializable -/
def k2 : Class := { plain "java/io/Serializable" (some 0) with
  accessFlags := 1537
  interfaces := #[]
  cf := some (fileOf pool2 1 #[] #[] 1537 3 #[] #[])
  fields := #[]
  methods := #[]
  instanceTypes := #[]
  staticTypes := #[]
  resolved := Array.replicate 7 none
  statics := none }

def pool3 : Array CpInfo := pool [(1, .class_ 2), (0, u "java/lang/Comparable"), (0, .class_ 4), (0, u "java/lang/Object")] 7

/-- java/lang/Comparable -/
def k3 : Class := { plain "java/lang/Comparable" (some 0) with
  accessFlags := 1537
  interfaces := #[]
  cf := some (fileOf pool3 1 #[] #[] 1537 3 #[] #[])
  fields := #[]
  methods := #[]
  instanceTypes := #[]
  staticTypes := #[]
  resolved := Array.replicate 12 none
  statics := none }

def pool4 : Array CpInfo := pool [(2, .class_ 4), (1, u "java/lang/CharSequence"), (42, .class_ 48), (0, u "java/lang/CharSequence$1CodePointIterator"), (10, .class_ 60), (0, u "java/lang/CharSequence$1CharIterator"), (5, .class_ 67), (0, u "java/lang/Object")] 63

/-- java/lang/CharSequence -/
def k4 : Class := { plain "java/lang/CharSequence" (some 0) with
  accessFlags := 1537
  interfaces := #[]
  cf := some (fileOf pool4 2 #[.nestMembers #[47, 59]] #[] 1537 66 #[] #[])
  fields := #[]
  methods := #[]
  instanceTypes := #[]
  staticTypes := #[]
  resolved := Array.replicate 131 none
  statics := none }

def pool5 : Array CpInfo := pool [(1, .class_ 2), (0, u "java/lang/constant/Constable"), (0, .class_ 4), (0, u "java/lang/Object")] 6

/-- java/lang/constant/Constable -/
def k5 : Class := { plain "java/lang/constant/Constable" (some 0) with
  accessFlags := 1537
  interfaces := #[]
  cf := some (fileOf pool5 1 #[] #[] 1537 3 #[] #[])
  fields := #[]
  methods := #[]
  instanceTypes := #[]
  staticTypes := #[]
  resolved := Array.replicate 11 none
  statics := none }

def pool6 : Array CpInfo := pool [(1, .class_ 2), (0, u "java/lang/constant/ConstantDesc"), (0, .class_ 4), (0, u "java/lang/Object")] 32

/-- java/lang/constant/ConstantDesc -/
def k6 : Class := { plain "java/lang/constant/ConstantDesc" (some 0) with
  accessFlags := 1537
  interfaces := #[]
  cf := some (fileOf pool6 1 #[] #[] 1537 3 #[] #[])
  fields := #[]
  methods := #[]
  instanceTypes := #[]
  staticTypes := #[]
  resolved := Array.replicate 37 none
  statics := none }

def pool7 : Array CpInfo := pool [(1, .methodref 2 3), (0, .class_ 4), (0, .nameAndType 5 6), (0, u "java/lang/Object"), (0, u "<init>"), (0, u "()V"), (0, .string 8), (0, u ""), (0, .fieldref 10 11), (0, .class_ 12), (0, .nameAndType 13 14), (0, u "java/lang/String"), (0, u "value"), (0, u "[B"), (0, .fieldref 10 16), (0, .nameAndType 17 18), (0, u "coder"), (0, u "B"), (2, u "hash"), (0, u "I"), (2, u "hashIsZero"), (0, u "Z"), (0, .methodref 10 28), (0, .nameAndType 5 29), (0, u "([CIILjava/lang/Void;)V"), (8, .fieldref 10 39), (0, .nameAndType 40 26), (0, u "COMPACT_STRINGS"), (1, .class_ 44), (1, u "java/lang/StringUTF16"), (0, u "compress"), (1, .methodref 42 48), (0, .nameAndType 49 50), (0, u "coderFromArrayLen"), (0, u "([BI)B"), (2, u "toBytes"), (53, .class_ 109), (1, u "java/lang/StringLatin1"), (67, .methodref 42 178), (0, .nameAndType 45 179), (0, u "([CII)[B"), (29, .methodref 10 210), (0, .nameAndType 5 211), (0, u "([BB)V"), (157, u "(C)Z"), (171, .methodref 107 542), (0, .nameAndType 543 544), (0, u "equals"), (0, u "([B[B)Z"), (28, u "(Ljava/lang/Object;)Z"), (1, .class_ 576), (0, u "java/lang/CharSequence"), (22, u "CASE_INSENSITIVE_ORDER"), (0, u "Ljava/util/Comparator;"), (181, u "valueOf"), (0, u "(C)Ljava/lang/String;"), (226, u "([C)V"), (4, .methodref 107 1016), (0, .nameAndType 1017 369), (0, u "canEncode"), (0, .methodref 107 1019), (0, .nameAndType 53 1020), (0, u "(C)[B"), (80, u "serialPersistentFields"), (0, u "[Ljava/io/ObjectStreamField;"), (0, .class_ 1104), (0, u "java/lang/String$CaseInsensitiveComparator"), (1, .class_ 1107), (0, u "java/io/Serializable"), (0, .class_ 1109), (0, u "java/lang/Comparable"), (0, .class_ 1111), (0, u "java/lang/constant/Constable"), (0, .class_ 1113), (0, u "java/lang/constant/ConstantDesc"), (2, u "serialVersionUID"), (0, u "J"), (3, u "REPL"), (0, u "C"), (2, u "LATIN1"), (1, u "UTF16")] 323

def k7m0 : Method := { name := "<init>", desc := "()V", sig := { parameters := [], returnType := none }, accessFlags := 1, code := none }
def k7c1 : Code := { maxStack := 5, maxLocals := 2, code := jdk_42_method_3_code, exceptionTable := #[], attributes := #[] }
def k7m1 : Method := { name := "<init>", desc := "([C)V", sig := { parameters := [(.array .char)], returnType := none }, accessFlags := 1, code := some k7c1 }
def k7c2 : Code := { maxStack := 2, maxLocals := 3, code := jdk_42_method_66_code, exceptionTable := #[], attributes := #[] }
def k7m2 : Method := { name := "equals", desc := "(Ljava/lang/Object;)Z", sig := { parameters := [(.object "java/lang/Object")], returnType := some .boolean }, accessFlags := 1, code := some k7c2 }
def k7c3 : Code := { maxStack := 4, maxLocals := 1, code := jdk_42_method_139_code, exceptionTable := #[], attributes := #[] }
def k7m3 : Method := { name := "valueOf", desc := "(C)Ljava/lang/String;", sig := { parameters := [.char], returnType := some (.object "java/lang/String") }, accessFlags := 9, code := some k7c3 }
def k7c4 : Code := { maxStack := 4, maxLocals := 6, code := jdk_42_method_149_code, exceptionTable := #[], attributes := #[] }
def k7m4 : Method := { name := "<init>", desc := "([CIILjava/lang/Void;)V", sig := { parameters := [(.array .char), .int, .int, (.object "java/lang/Void")], returnType := none }, accessFlags := 2, code := some k7c4 }
def k7c5 : Code := { maxStack := 2, maxLocals := 3, code := jdk_42_method_151_code, exceptionTable := #[], attributes := #[] }
def k7m5 : Method := { name := "<init>", desc := "([BB)V", sig := { parameters := [(.array .byte), .byte], returnType := none }, accessFlags := 0, code := some k7c5 }
/-- java/lang/String -/
def k7 : Class := { plain "java/lang/String" (some 0) with
  accessFlags := 49
  interfaces := #[2, 3, 4, 5, 6]
  cf := some (fileOf pool7 10 #[.nestMembers #[1103]] #[{ accessFlags := 1, nameIndex := 5, descriptorIndex := 6, attributes := #[] }, { accessFlags := 1, nameIndex := 5, descriptorIndex := 1010, attributes := #[] }, { accessFlags := 1, nameIndex := 543, descriptorIndex := 573, attributes := #[] }, { accessFlags := 9, nameIndex := 782, descriptorIndex := 783, attributes := #[] }, { accessFlags := 2, nameIndex := 5, descriptorIndex := 29, attributes := #[] }, { accessFlags := 0, nameIndex := 5, descriptorIndex := 211, attributes := #[] }] 49 2 #[1106, 1108, 575, 1110, 1112] #[{ accessFlags := 18, nameIndex := 13, descriptorIndex := 14, attributes := #[] }, { accessFlags := 18, nameIndex := 17, descriptorIndex := 18, attributes := #[] }, { accessFlags := 2, nameIndex := 21, descriptorIndex := 22, attributes := #[] }, { accessFlags := 2, nameIndex := 25, descriptorIndex := 26, attributes := #[] }, { accessFlags := 26, nameIndex := 1116, descriptorIndex := 1117, attributes := #[] }, { accessFlags := 24, nameIndex := 40, descriptorIndex := 26, attributes := #[] }, { accessFlags := 26, nameIndex := 1101, descriptorIndex := 1102, attributes := #[] }, { accessFlags := 26, nameIndex := 1121, descriptorIndex := 1122, attributes := #[] }, { accessFlags := 25, nameIndex := 599, descriptorIndex := 600, attributes := #[] }, { accessFlags := 24, nameIndex := 1125, descriptorIndex := 18, attributes := #[] }, { accessFlags := 24, nameIndex := 1127, descriptorIndex := 18, attributes := #[] }])
  fields := #[{ name := "value", type := (.array .byte), accessFlags := 18, slot := 0, constantValue := 0 }, { name := "coder", type := .byte, accessFlags := 18, slot := 1, constantValue := 0 }, { name := "hash", type := .int, accessFlags := 2, slot := 2, constantValue := 0 }, { name := "hashIsZero", type := .boolean, accessFlags := 2, slot := 3, constantValue := 0 }, { name := "serialVersionUID", type := .long, accessFlags := 26, slot := 0, constantValue := 0 }, { name := "COMPACT_STRINGS", type := .boolean, accessFlags := 24, slot := 1, constantValue := 0 }, { name := "serialPersistentFields", type := (.array (.object "java/io/ObjectStreamField")), accessFlags := 26, slot := 2, constantValue := 0 }, { name := "REPL", type := .char, accessFlags := 26, slot := 3, constantValue := 0 }, { name := "CASE_INSENSITIVE_ORDER", type := (.object "java/util/Comparator"), accessFlags := 25, slot := 4, constantValue := 0 }, { name := "LATIN1", type := .byte, accessFlags := 24, slot := 5, constantValue := 0 }, { name := "UTF16", type := .byte, accessFlags := 24, slot := 6, constantValue := 0 }]
  methods := #[k7m0, k7m1, k7m2, k7m3, k7m4, k7m5]
  instanceTypes := #[(.array .byte), .byte, .int, .boolean]
  staticTypes := #[.long, .boolean, (.array (.object "java/io/ObjectStreamField")), .char, (.object "java/util/Comparator"), .byte, .byte]
  resolved := Array.replicate 1451 none
  statics := some 0 }

def pool8 : Array CpInfo := pool [(2, .class_ 4), (1, u "java/lang/Enum"), (0, u "name"), (0, u "Ljava/lang/String;"), (2, u "ordinal"), (0, u "I"), (1, .class_ 14), (1, u "java/lang/Object"), (4, u "hash"), (86, .class_ 108), (1, u "java/lang/Enum$EnumDesc"), (2, .class_ 112), (0, u "java/lang/constant/Constable"), (0, .class_ 114), (0, u "java/lang/Comparable"), (0, .class_ 116), (0, u "java/io/Serializable")] 87

/-- java/lang/Enum -/
def k8 : Class := { plain "java/lang/Enum" (some 0) with
  accessFlags := 1057
  interfaces := #[5, 3, 2]
  cf := some (fileOf pool8 2 #[.nestMembers #[106]] #[] 1057 12 #[111, 113, 115] #[{ accessFlags := 18, nameIndex := 5, descriptorIndex := 6, attributes := #[] }, { accessFlags := 18, nameIndex := 9, descriptorIndex := 10, attributes := #[] }, { accessFlags := 2, nameIndex := 19, descriptorIndex := 10, attributes := #[] }])
  fields := #[{ name := "name", type := (.object "java/lang/String"), accessFlags := 18, slot := 0, constantValue := 0 }, { name := "ordinal", type := .int, accessFlags := 18, slot := 1, constantValue := 0 }, { name := "hash", type := .int, accessFlags := 2, slot := 2, constantValue := 0 }]
  methods := #[]
  instanceTypes := #[(.object "java/lang/String"), .int, .int]
  staticTypes := #[]
  resolved := Array.replicate 204 none
  statics := none }

def pool9 : Array CpInfo := pool [(1, .class_ 2), (0, u "com/example/overflowstream/overflowstream/Query$Operator"), (2, u "EQUAL"), (0, u "Lcom/example/overflowstream/overflowstream/Query$Operator;"), (2, u "NOT_EQUAL"), (2, u "LESS"), (2, u "LESS_OR_EQUAL"), (2, u "GREATER"), (2, u "GREATER_OR_EQUAL"), (0, .fieldref 1 23), (0, .nameAndType 24 25), (0, u "$VALUES"), (0, u "[Lcom/example/overflowstream/overflowstream/Query$Operator;"), (0, .methodref 27 28), (0, .class_ 25), (0, .nameAndType 29 30), (0, u "clone"), (0, u "()Ljava/lang/Object;"), (1, .class_ 34), (1, u "java/lang/Enum"), (6, .fieldref 1 42), (0, .nameAndType 43 44), (0, u "symbol"), (0, u "Ljava/lang/String;"), (0, .methodref 1 46), (0, .nameAndType 47 48), (0, u "values"), (0, u "()[Lcom/example/overflowstream/overflowstream/Query$Operator;"), (0, .methodref 50 51), (0, .class_ 52), (0, .nameAndType 53 54), (0, u "java/lang/String"), (0, u "equals"), (0, u "(Ljava/lang/Object;)Z"), (35, u "(Ljava/lang/String;)Lcom/example/overflowstream/overflowstream/Query$Operator;"), (3, u "written"), (11, .class_ 107), (0, u "com/example/overflowstream/overflowstream/Query")] 2

def k9c0 : Code := { maxStack := 1, maxLocals := 0, code := prog_36_method_1_code, exceptionTable := #[], attributes := #[] }
def k9m0 : Method := { name := "values", desc := "()[Lcom/example/overflowstream/overflowstream/Query$Operator;", sig := { parameters := [], returnType := some (.array (.object "com/example/overflowstream/overflowstream/Query$Operator")) }, accessFlags := 9, code := some k9c0 }
def k9c1 : Code := { maxStack := 2, maxLocals := 5, code := prog_36_method_4_code, exceptionTable := #[], attributes := #[] }
def k9m1 : Method := { name := "written", desc := "(Ljava/lang/String;)Lcom/example/overflowstream/overflowstream/Query$Operator;", sig := { parameters := [(.object "java/lang/String")], returnType := some (.object "com/example/overflowstream/overflowstream/Query$Operator") }, accessFlags := 8, code := some k9c1 }
/-- com/example/overflowstream/overflowstream/Query$Operator -/
def k9 : Class := { plain "com/example/overflowstream/overflowstream/Query$Operator" (some 8) with
  accessFlags := 16432
  interfaces := #[]
  cf := some (fileOf pool9 1 #[.nestHost 106] #[{ accessFlags := 9, nameIndex := 47, descriptorIndex := 48, attributes := #[] }, { accessFlags := 8, nameIndex := 94, descriptorIndex := 90, attributes := #[] }] 16432 32 #[] #[{ accessFlags := 16409, nameIndex := 5, descriptorIndex := 6, attributes := #[] }, { accessFlags := 16409, nameIndex := 9, descriptorIndex := 6, attributes := #[] }, { accessFlags := 16409, nameIndex := 12, descriptorIndex := 6, attributes := #[] }, { accessFlags := 16409, nameIndex := 15, descriptorIndex := 6, attributes := #[] }, { accessFlags := 16409, nameIndex := 18, descriptorIndex := 6, attributes := #[] }, { accessFlags := 16409, nameIndex := 21, descriptorIndex := 6, attributes := #[] }, { accessFlags := 18, nameIndex := 43, descriptorIndex := 44, attributes := #[] }, { accessFlags := 4122, nameIndex := 24, descriptorIndex := 25, attributes := #[] }])
  fields := #[{ name := "EQUAL", type := (.object "com/example/overflowstream/overflowstream/Query$Operator"), accessFlags := 16409, slot := 0, constantValue := 0 }, { name := "NOT_EQUAL", type := (.object "com/example/overflowstream/overflowstream/Query$Operator"), accessFlags := 16409, slot := 1, constantValue := 0 }, { name := "LESS", type := (.object "com/example/overflowstream/overflowstream/Query$Operator"), accessFlags := 16409, slot := 2, constantValue := 0 }, { name := "LESS_OR_EQUAL", type := (.object "com/example/overflowstream/overflowstream/Query$Operator"), accessFlags := 16409, slot := 3, constantValue := 0 }, { name := "GREATER", type := (.object "com/example/overflowstream/overflowstream/Query$Operator"), accessFlags := 16409, slot := 4, constantValue := 0 }, { name := "GREATER_OR_EQUAL", type := (.object "com/example/overflowstream/overflowstream/Query$Operator"), accessFlags := 16409, slot := 5, constantValue := 0 }, { name := "symbol", type := (.object "java/lang/String"), accessFlags := 18, slot := 3, constantValue := 0 }, { name := "$VALUES", type := (.array (.object "com/example/overflowstream/overflowstream/Query$Operator")), accessFlags := 4122, slot := 6, constantValue := 0 }]
  methods := #[k9m0, k9m1]
  instanceTypes := #[(.object "java/lang/String"), .int, .int, (.object "java/lang/String")]
  staticTypes := #[(.object "com/example/overflowstream/overflowstream/Query$Operator"), (.object "com/example/overflowstream/overflowstream/Query$Operator"), (.object "com/example/overflowstream/overflowstream/Query$Operator"), (.object "com/example/overflowstream/overflowstream/Query$Operator"), (.object "com/example/overflowstream/overflowstream/Query$Operator"), (.object "com/example/overflowstream/overflowstream/Query$Operator"), (.array (.object "com/example/overflowstream/overflowstream/Query$Operator"))]
  resolved := Array.replicate 110 none
  statics := some 1 }

def pool10 : Array CpInfo := pool [(1, .class_ 2), (0, u "java/lang/Cloneable"), (0, .class_ 4), (0, u "java/lang/Object")] 2

/-- java/lang/Cloneable -/
def k10 : Class := { plain "java/lang/Cloneable" (some 0) with
  accessFlags := 1537
  interfaces := #[]
  cf := some (fileOf pool10 1 #[] #[] 1537 3 #[] #[])
  fields := #[]
  methods := #[]
  instanceTypes := #[]
  staticTypes := #[]
  resolved := Array.replicate 7 none
  statics := none }

def pool11 : Array CpInfo := pool [(4, .class_ 6), (1, u "java/lang/Object"), (0, u "<init>"), (0, u "()V"), (5, .class_ 16), (1, u "java/lang/StringLatin1"), (73, u "canEncode"), (14, u "(C)Z"), (15, u "$assertionsDisabled"), (0, u "Z"), (98, .class_ 223), (1, u "java/lang/StringLatin1$LinesSpliterator"), (57, u "equals"), (0, u "([B[B)Z"), (97, u "toBytes"), (1, u "(C)[B"), (7, .class_ 391), (0, u "java/lang/StringLatin1$CharsSpliterator")] 3

def k11m0 : Method := { name := "<init>", desc := "()V", sig := { parameters := [], returnType := none }, accessFlags := 0, code := none }
def k11c1 : Code := { maxStack := 2, maxLocals := 1, code := jdk_43_method_3_code, exceptionTable := #[], attributes := #[] }
def k11m1 : Method := { name := "canEncode", desc := "(C)Z", sig := { parameters := [.char], returnType := some .boolean }, accessFlags := 9, code := some k11c1 }
def k11c2 : Code := { maxStack := 3, maxLocals := 3, code := jdk_43_method_13_code, exceptionTable := #[], attributes := #[] }
def k11m2 : Method := { name := "equals", desc := "([B[B)Z", sig := { parameters := [(.array .byte), (.array .byte)], returnType := some .boolean }, accessFlags := 9, code := some k11c2 }
def k11c3 : Code := { maxStack := 4, maxLocals := 1, code := jdk_43_method_46_code, exceptionTable := #[], attributes := #[] }
def k11m3 : Method := { name := "toBytes", desc := "(C)[B", sig := { parameters := [.char], returnType := some (.array .byte) }, accessFlags := 9, code := some k11c3 }
/-- java/lang/StringLatin1 -/
def k11 : Class := { plain "java/lang/StringLatin1" (some 0) with
  accessFlags := 48
  interfaces := #[]
  cf := some (fileOf pool11 14 #[.nestMembers #[390, 221]] #[{ accessFlags := 0, nameIndex := 7, descriptorIndex := 8, attributes := #[] }, { accessFlags := 9, nameIndex := 90, descriptorIndex := 105, attributes := #[] }, { accessFlags := 9, nameIndex := 281, descriptorIndex := 282, attributes := #[] }, { accessFlags := 9, nameIndex := 380, descriptorIndex := 382, attributes := #[] }] 48 4 #[] #[{ accessFlags := 4120, nameIndex := 121, descriptorIndex := 122, attributes := #[] }])
  fields := #[{ name := "$assertionsDisabled", type := .boolean, accessFlags := 4120, slot := 0, constantValue := 0 }]
  methods := #[k11m0, k11m1, k11m2, k11m3]
  instanceTypes := #[]
  staticTypes := #[.boolean]
  resolved := Array.replicate 395 none
  statics := none }

def pool12 : Array CpInfo := pool [(6, .class_ 8), (1, u "java/lang/Object"), (0, u "<init>"), (0, u "()V"), (1, .class_ 14), (1, u "java/lang/StringUTF16"), (31, u "$assertionsDisabled"), (0, u "Z"), (13, u "HI_BYTE_SHIFT"), (0, u "I"), (2, u "LO_BYTE_SHIFT"), (49, .methodref 12 116), (0, .nameAndType 117 118), (0, u "compress"), (0, u "([CI[BII)I"), (3, u "([CII)[B"), (138, u "coderFromArrayLen"), (0, u "([BI)B"), (106, .class_ 371), (1, u "java/lang/StringUTF16$LinesSpliterator"), (58, u "MAX_LENGTH"), (196, .class_ 628), (0, u "java/lang/StringUTF16$CodePointsSpliterator"), (0, .class_ 630), (0, u "java/lang/StringUTF16$CharsSpliterator")] 4

def k12m0 : Method := { name := "<init>", desc := "()V", sig := { parameters := [], returnType := none }, accessFlags := 0, code := none }
def k12c1 : Code := { maxStack := 2, maxLocals := 2, code := jdk_52_method_15_code, exceptionTable := #[], attributes := #[] }
def k12m1 : Method := { name := "coderFromArrayLen", desc := "([BI)B", sig := { parameters := [(.array .byte), .int], returnType := some .byte }, accessFlags := 8, code := some k12c1 }
def k12c2 : Code := { maxStack := 5, maxLocals := 6, code := jdk_52_method_16_code, exceptionTable := #[], attributes := #[] }
def k12m2 : Method := { name := "compress", desc := "([CII)[B", sig := { parameters := [(.array .char), .int, .int], returnType := some (.array .byte) }, accessFlags := 9, code := some k12c2 }
def k12c3 : Code := { maxStack := 3, maxLocals := 7, code := jdk_52_method_21_code, exceptionTable := #[], attributes := #[] }
def k12m3 : Method := { name := "compress", desc := "([CI[BII)I", sig := { parameters := [(.array .char), .int, (.array .byte), .int, .int], returnType := some .int }, accessFlags := 9, code := some k12c3 }
/-- java/lang/StringUTF16 -/
def k12 : Class := { plain "java/lang/StringUTF16" (some 0) with
  accessFlags := 48
  interfaces := #[]
  cf := some (fileOf pool12 12 #[.nestMembers #[627, 629, 369]] #[{ accessFlags := 0, nameIndex := 9, descriptorIndex := 10, attributes := #[] }, { accessFlags := 8, nameIndex := 261, descriptorIndex := 262, attributes := #[] }, { accessFlags := 9, nameIndex := 117, descriptorIndex := 122, attributes := #[] }, { accessFlags := 9, nameIndex := 117, descriptorIndex := 118, attributes := #[] }] 48 6 #[] #[{ accessFlags := 26, nameIndex := 61, descriptorIndex := 62, attributes := #[] }, { accessFlags := 26, nameIndex := 65, descriptorIndex := 62, attributes := #[] }, { accessFlags := 24, nameIndex := 430, descriptorIndex := 62, attributes := #[] }, { accessFlags := 4120, nameIndex := 46, descriptorIndex := 47, attributes := #[] }])
  fields := #[{ name := "HI_BYTE_SHIFT", type := .int, accessFlags := 26, slot := 0, constantValue := 0 }, { name := "LO_BYTE_SHIFT", type := .int, accessFlags := 26, slot := 1, constantValue := 0 }, { name := "MAX_LENGTH", type := .int, accessFlags := 24, slot := 2, constantValue := 0 }, { name := "$assertionsDisabled", type := .boolean, accessFlags := 4120, slot := 3, constantValue := 0 }]
  methods := #[k12m0, k12m1, k12m2, k12m3]
  instanceTypes := #[]
  staticTypes := #[.int, .int, .int, .boolean]
  resolved := Array.replicate 635 none
  statics := none }

def pool13 : Array CpInfo := pool [(2, .class_ 4), (1, u "java/lang/Object"), (0, u "<init>"), (0, u "()V"), (17, .class_ 26), (1, u "jdk/internal/util/Preconditions"), (28, .class_ 56), (0, u "jdk/internal/util/Preconditions$4"), (57, .class_ 115), (0, u "jdk/internal/util/Preconditions$1"), (7, u "SIOOBE_FORMATTER"), (0, u "Ljava/util/function/BiFunction;"), (0, .class_ 126), (0, u "jdk/internal/util/Preconditions$2"), (3, u "AIOOBE_FORMATTER"), (0, .class_ 132), (0, u "jdk/internal/util/Preconditions$3"), (3, u "IOOBE_FORMATTER")] 57

def k13m0 : Method := { name := "<init>", desc := "()V", sig := { parameters := [], returnType := none }, accessFlags := 1, code := none }
/-- jdk/internal/util/Preconditions -/
def k13 : Class := { plain "jdk/internal/util/Preconditions" (some 0) with
  accessFlags := 33
  interfaces := #[]
  cf := some (fileOf pool13 24 #[.nestMembers #[55, 131, 125, 114]] #[{ accessFlags := 1, nameIndex := 5, descriptorIndex := 6, attributes := #[] }] 33 2 #[] #[{ accessFlags := 25, nameIndex := 123, descriptorIndex := 124, attributes := #[] }, { accessFlags := 25, nameIndex := 130, descriptorIndex := 124, attributes := #[] }, { accessFlags := 25, nameIndex := 136, descriptorIndex := 124, attributes := #[] }])
  fields := #[{ name := "SIOOBE_FORMATTER", type := (.object "java/util/function/BiFunction"), accessFlags := 25, slot := 0, constantValue := 0 }, { name := "AIOOBE_FORMATTER", type := (.object "java/util/function/BiFunction"), accessFlags := 25, slot := 1, constantValue := 0 }, { name := "IOOBE_FORMATTER", type := (.object "java/util/function/BiFunction"), accessFlags := 25, slot := 2, constantValue := 0 }]
  methods := #[k13m0]
  instanceTypes := #[]
  staticTypes := #[(.object "java/util/function/BiFunction"), (.object "java/util/function/BiFunction"), (.object "java/util/function/BiFunction")]
  resolved := Array.replicate 194 none
  statics := some 2 }

def pool14 : Array CpInfo := pool [(9, u "<init>"), (6, .class_ 18), (1, u "java/lang/Object"), (0, u "()V"), (1, .class_ 23), (1, u "jdk/internal/util/ArraysSupport"), (0, u "LOG2_ARRAY_LONG_INDEX_SCALE"), (0, u "I"), (2, u "U"), (0, u "Ljdk/internal/misc/Unsafe;"), (8, u "BIG_ENDIAN"), (0, u "Z"), (8, u "LOG2_BYTE_BIT_SIZE"), (4, u "LOG2_ARRAY_INT_INDEX_SCALE"), (54, u "JLA"), (0, u "Ljdk/internal/access/JavaLangAccess;"), (11, u "LOG2_ARRAY_BOOLEAN_INDEX_SCALE"), (9, u "LOG2_ARRAY_BYTE_INDEX_SCALE"), (5, u "LOG2_ARRAY_CHAR_INDEX_SCALE"), (5, u "LOG2_ARRAY_SHORT_INDEX_SCALE"), (18, u "LOG2_ARRAY_FLOAT_INDEX_SCALE"), (24, u "LOG2_ARRAY_DOUBLE_INDEX_SCALE"), (89, u "T_BOOLEAN"), (2, u "T_CHAR"), (1, u "T_FLOAT"), (1, u "T_DOUBLE"), (1, u "T_BYTE"), (1, u "T_SHORT"), (1, u "T_INT"), (1, u "T_LONG"), (1, u "SOFT_MAX_ARRAY_LENGTH")] 83

def k14m0 : Method := { name := "<init>", desc := "()V", sig := { parameters := [], returnType := none }, accessFlags := 2, code := none }
/-- jdk/internal/util/ArraysSupport -/
def k14 : Class := { plain "jdk/internal/util/ArraysSupport" (some 0) with
  accessFlags := 33
  interfaces := #[]
  cf := some (fileOf pool14 21 #[] #[{ accessFlags := 2, nameIndex := 9, descriptorIndex := 19, attributes := #[] }] 33 16 #[] #[{ accessFlags := 24, nameIndex := 28, descriptorIndex := 29, attributes := #[] }, { accessFlags := 26, nameIndex := 38, descriptorIndex := 39, attributes := #[] }, { accessFlags := 25, nameIndex := 121, descriptorIndex := 25, attributes := #[] }, { accessFlags := 25, nameIndex := 131, descriptorIndex := 25, attributes := #[] }, { accessFlags := 25, nameIndex := 137, descriptorIndex := 25, attributes := #[] }, { accessFlags := 25, nameIndex := 143, descriptorIndex := 25, attributes := #[] }, { accessFlags := 25, nameIndex := 53, descriptorIndex := 25, attributes := #[] }, { accessFlags := 25, nameIndex := 24, descriptorIndex := 25, attributes := #[] }, { accessFlags := 25, nameIndex := 162, descriptorIndex := 25, attributes := #[] }, { accessFlags := 25, nameIndex := 187, descriptorIndex := 25, attributes := #[] }, { accessFlags := 26, nameIndex := 48, descriptorIndex := 25, attributes := #[] }, { accessFlags := 25, nameIndex := 277, descriptorIndex := 25, attributes := #[] }, { accessFlags := 25, nameIndex := 280, descriptorIndex := 25, attributes := #[] }, { accessFlags := 25, nameIndex := 282, descriptorIndex := 25, attributes := #[] }, { accessFlags := 25, nameIndex := 284, descriptorIndex := 25, attributes := #[] }, { accessFlags := 25, nameIndex := 286, descriptorIndex := 25, attributes := #[] }, { accessFlags := 25, nameIndex := 288, descriptorIndex := 25, attributes := #[] }, { accessFlags := 25, nameIndex := 290, descriptorIndex := 25, attributes := #[] }, { accessFlags := 25, nameIndex := 292, descriptorIndex := 25, attributes := #[] }, { accessFlags := 26, nameIndex := 108, descriptorIndex := 109, attributes := #[] }, { accessFlags := 25, nameIndex := 294, descriptorIndex := 25, attributes := #[] }])
  fields := #[{ name := "U", type := (.object "jdk/internal/misc/Unsafe"), accessFlags := 24, slot := 0, constantValue := 0 }, { name := "BIG_ENDIAN", type := .boolean, accessFlags := 26, slot := 1, constantValue := 0 }, { name := "LOG2_ARRAY_BOOLEAN_INDEX_SCALE", type := .int, accessFlags := 25, slot := 2, constantValue := 0 }, { name := "LOG2_ARRAY_BYTE_INDEX_SCALE", type := .int, accessFlags := 25, slot := 3, constantValue := 0 }, { name := "LOG2_ARRAY_CHAR_INDEX_SCALE", type := .int, accessFlags := 25, slot := 4, constantValue := 0 }, { name := "LOG2_ARRAY_SHORT_INDEX_SCALE", type := .int, accessFlags := 25, slot := 5, constantValue := 0 }, { name := "LOG2_ARRAY_INT_INDEX_SCALE", type := .int, accessFlags := 25, slot := 6, constantValue := 0 }, { name := "LOG2_ARRAY_LONG_INDEX_SCALE", type := .int, accessFlags := 25, slot := 7, constantValue := 0 }, { name := "LOG2_ARRAY_FLOAT_INDEX_SCALE", type := .int, accessFlags := 25, slot := 8, constantValue := 0 }, { name := "LOG2_ARRAY_DOUBLE_INDEX_SCALE", type := .int, accessFlags := 25, slot := 9, constantValue := 0 }, { name := "LOG2_BYTE_BIT_SIZE", type := .int, accessFlags := 26, slot := 10, constantValue := 0 }, { name := "T_BOOLEAN", type := .int, accessFlags := 25, slot := 11, constantValue := 0 }, { name := "T_CHAR", type := .int, accessFlags := 25, slot := 12, constantValue := 0 }, { name := "T_FLOAT", type := .int, accessFlags := 25, slot := 13, constantValue := 0 }, { name := "T_DOUBLE", type := .int, accessFlags := 25, slot := 14, constantValue := 0 }, { name := "T_BYTE", type := .int, accessFlags := 25, slot := 15, constantValue := 0 }, { name := "T_SHORT", type := .int, accessFlags := 25, slot := 16, constantValue := 0 }, { name := "T_INT", type := .int, accessFlags := 25, slot := 17, constantValue := 0 }, { name := "T_LONG", type := .int, accessFlags := 25, slot := 18, constantValue := 0 }, { name := "JLA", type := (.object "jdk/internal/access/JavaLangAccess"), accessFlags := 26, slot := 19, constantValue := 0 }, { name := "SOFT_MAX_ARRAY_LENGTH", type := .int, accessFlags := 25, slot := 20, constantValue := 0 }]
  methods := #[k14m0]
  instanceTypes := #[]
  staticTypes := #[(.object "jdk/internal/misc/Unsafe"), .boolean, .int, .int, .int, .int, .int, .int, .int, .int, .int, .int, .int, .int, .int, .int, .int, .int, .int, (.object "jdk/internal/access/JavaLangAccess"), .int]
  resolved := Array.replicate 378 none
  statics := none }

/-- the primitive byte -/
def k15 : Class := { plain "byte" none with kind := .primitive 'B', accessFlags := 0x411 }
/-- [B -/
def k16 : Class := { plain "[B" (some 0) with kind := .array 15 .byte, interfaces := #[10, 2], accessFlags := 1041 }

/-- the primitive char -/
def k17 : Class := { plain "char" none with kind := .primitive 'C', accessFlags := 0x411 }
/-- [C -/
def k18 : Class := { plain "[C" (some 0) with kind := .array 17 .char, interfaces := #[10, 2], accessFlags := 1041 }

/-- the primitive int -/
def k19 : Class := { plain "int" none with kind := .primitive 'I', accessFlags := 0x411 }
/-- [I -/
def k20 : Class := { plain "[I" (some 0) with kind := .array 19 .int, interfaces := #[10, 2], accessFlags := 1041 }

/-- [Lcom/example/overflowstream/overflowstream/Query$Operator; -/
def k21 : Class := { plain "[Lcom/example/overflowstream/overflowstream/Query$Operator;" (some 0) with kind := .array 9 (.object "com/example/overflowstream/overflowstream/Query$Operator"), interfaces := #[10, 2], accessFlags := 1041 }

def heap : Heap := #[{ cls := 7, slots := #[.long 0, .int 1, .null, .int 0, .null, .int 0, .int 0], vm := .statics 7 },
  { cls := 9, slots := #[.ref 4, .ref 5, .ref 6, .ref 7, .ref 8, .ref 9, .ref 3], vm := .statics 9 },
  { cls := 13, slots := #[.null, .null, .null], vm := .statics 13 },
  { cls := 21, slots := #[.ref 4, .ref 5, .ref 6, .ref 7, .ref 8, .ref 9], vm := .none },
  { cls := 9, slots := #[.null, .int 0, .int 0, .ref 10], vm := .none },
  { cls := 9, slots := #[.null, .int 1, .int 0, .ref 11], vm := .none },
  { cls := 9, slots := #[.null, .int 2, .int 0, .ref 12], vm := .none },
  { cls := 9, slots := #[.null, .int 3, .int 0, .ref 13], vm := .none },
  { cls := 9, slots := #[.null, .int 4, .int 0, .ref 14], vm := .none },
  { cls := 9, slots := #[.null, .int 5, .int 0, .ref 15], vm := .none },
  { cls := 7, slots := #[.ref 16, .int 0, .int 0, .int 0], vm := .none },
  { cls := 7, slots := #[.ref 17, .int 0, .int 0, .int 0], vm := .none },
  { cls := 7, slots := #[.ref 18, .int 0, .int 0, .int 0], vm := .none },
  { cls := 7, slots := #[.ref 19, .int 0, .int 0, .int 0], vm := .none },
  { cls := 7, slots := #[.ref 20, .int 0, .int 0, .int 0], vm := .none },
  { cls := 7, slots := #[.ref 21, .int 0, .int 0, .int 0], vm := .none },
  { cls := 16, slots := #[.int 61], vm := .none },
  { cls := 16, slots := #[.int 60, .int 62], vm := .none },
  { cls := 16, slots := #[.int 60], vm := .none },
  { cls := 16, slots := #[.int 60, .int 61], vm := .none },
  { cls := 16, slots := #[.int 62], vm := .none },
  { cls := 16, slots := #[.int 62, .int 61], vm := .none }]
def classes : Array Class := #[k0, k1, k2, k3, k4, k5, k6, k7, k8, k9, k10, k11, k12, k13, k14, k15, k16, k17, k18, k19, k20, k21]
def interned : List (Array UInt16 × Addr) := []
def slotsUsed : Nat := 80
def theMethod : MethodId := ⟨1, 3⟩
def args0 : Array Value := #[.int 1, .int 1, .int 2, .int 3]
def aboutOver (below : List Frame) : State where
  vm := { classes := classes, interned := interned.toArray }
  heap := heap
  slotsUsed := slotsUsed
  threads := #[{ frames := .invoking theMethod args0 :: below }]
def below0 : List Frame := [.native { method := ⟨0, 0⟩, args := #[] }]
def about1 : State := aboutOver below0
def p0 : Program := .bare "" "" ""
def e0 : Env := launch0.env 0 0 0
theorem w_frames : about1.frames = Frame.invoking theMethod args0 :: below0 := rfl
set_option maxRecDepth 65536 in
theorem w_args : argsFit about1.vm theMethod args0 = true := by decide +kernel
set_option maxRecDepth 65536 in
theorem w_heap : heapFits about1 = true := by decide +kernel
set_option maxRecDepth 65536 in
theorem w_runnable : about1.curStatus? = some .runnable := by decide +kernel
set_option maxRecDepth 65536 in
theorem w_alone : about1.alone = true := by decide +kernel
set_option maxRecDepth 65536 in
theorem w_named : about1.methodNamed? x = some theMethod := by decide +kernel
set_option maxRecDepth 65536 in
theorem w_hears : about1.hears theMethod below0 = true := by decide +kernel
set_option maxRecDepth 65536 in
theorem w_ripe : about1.ripe theMethod args0 below0 = true := by decide +kernel
theorem w_running : about1.status = .running := rfl
set_option maxRecDepth 65536 in
theorem w_room : about1.hasRoom e0.platform room_1 = true :=
  launch0.hasRoom_least _ room_1 (by decide +kernel) (by decide +kernel) (by decide +kernel) (by decide +kernel) (by decide +kernel) (by decide +kernel)
theorem allAtoms_all (ts : List Jvm.Cond) (a : Array Jvm.Value) (st : Jvm.State) : (allAtoms ts).before a st = ts.all (fun c => c.before a st) := by
  induction ts with
  | nil => rfl
  | cons c t ih =>
    show (Jvm.Cond.and c (allAtoms t)).before a st = _
    rw [Jvm.Cond.before_and, ih, List.all_cons]
def words1 : List Jvm.Cond := Jvm.Cond.code x code maxLocals ret :: tables_1
/-- a 'code' word, met by the world's own term for the bytes: nothing is compared byte by byte -/
theorem code_word {y : MethodName} {bytes : ByteArray} {mx : Nat} {rt : Option FieldType} {a : Array Value} {s : State} {m : MethodId} {meth : Method} {c : Code} (h1 : s.methodNamed? y = some m) (h2 : s.vm.method? m = some meth) (h3 : meth.code = some c) (h4 : c.code = bytes)
    (h5 : (c.maxLocals == mx && c.exceptionTable.isEmpty && decide (c.maxStack ≤ mostOperands) && decide (meth.sig.returnType = rt) && !meth.locks && decide (parseMethodDescriptor y.desc = some meth.sig)) = true) : (Jvm.Cond.code y bytes mx rt).before a s = true := by
  simp only [Bool.and_eq_true, beq_iff_eq, Bool.not_eq_true', decide_eq_true_eq] at h5
  obtain ⟨⟨⟨⟨⟨g1, g2⟩, g3⟩, g4⟩, g5⟩, g6⟩ := h5
  simp [Cond.before, Cond.holds, Cond.value, h1, h2, h3, h4, g1, g2, g3, g4, g5, g6]
def isCode : Jvm.Cond → Bool
  | .code _ _ _ _ => true
  | _ => false
theorem all_split {L : List Jvm.Cond} {P : Jvm.Cond → Bool} (h1 : L.all (fun c => isCode c || P c) = true) (h2 : ∀ c ∈ L.filter isCode, P c = true) : L.all P = true := by
  refine List.all_eq_true.mpr fun c hc => ?_
  have h := List.all_eq_true.mp h1 c hc
  rcases Bool.eq_false_or_eq_true (isCode c) with hi | hi
  · exact h2 c (List.mem_filter.mpr ⟨hc, hi⟩)
  · simpa [hi] using h
set_option maxRecDepth 65536 in
theorem w_c0 : (Jvm.Cond.code x code maxLocals ret).before args0 about1 = true := code_word (m := ⟨1, 3⟩) (meth := k1m3) (c := k1c3) (by decide +kernel) rfl rfl rfl (by decide +kernel)
set_option maxRecDepth 65536 in
theorem w_c1 : (Jvm.Cond.code ({ cls := "com/example/overflowstream/overflowstream/OperatorWrittenPinLaw", name := "pick", desc := "(I)C" } : Jvm.MethodName) method_2_code (2 : Nat) (Option.some Jvm.ClassFile.FieldType.char)).before args0 about1 = true := code_word (m := ⟨1, 1⟩) (meth := k1m1) (c := k1c1) (by decide +kernel) rfl rfl rfl (by decide +kernel)
set_option maxRecDepth 65536 in
theorem w_c2 : (Jvm.Cond.code ({ cls := "java/lang/String", name := "<init>", desc := "([C)V" } : Jvm.MethodName) jdk_42_method_3_code (2 : Nat) (Option.none : Option Jvm.ClassFile.FieldType)).before args0 about1 = true := code_word (m := ⟨7, 1⟩) (meth := k7m1) (c := k7c1) (by decide +kernel) rfl rfl rfl (by decide +kernel)
set_option maxRecDepth 65536 in
theorem w_c3 : (Jvm.Cond.code ({ cls := "java/lang/String", name := "<init>", desc := "([CIILjava/lang/Void;)V" } : Jvm.MethodName) jdk_42_method_149_code (6 : Nat) (Option.none : Option Jvm.ClassFile.FieldType)).before args0 about1 = true := code_word (m := ⟨7, 4⟩) (meth := k7m4) (c := k7c4) (by decide +kernel) rfl rfl rfl (by decide +kernel)
set_option maxRecDepth 65536 in
theorem w_c4 : (Jvm.Cond.code ({ cls := "java/lang/Object", name := "<init>", desc := "()V" } : Jvm.MethodName) object_method_1_code (1 : Nat) (Option.none : Option Jvm.ClassFile.FieldType)).before args0 about1 = true := code_word (m := ⟨0, 0⟩) (meth := k0m0) (c := k0c0) (by decide +kernel) rfl rfl rfl (by decide +kernel)
set_option maxRecDepth 65536 in
theorem w_c5 : (Jvm.Cond.code ({ cls := "com/example/overflowstream/overflowstream/OperatorWrittenPinLaw", name := "expected", desc := "(ICC)Lcom/example/overflowstream/overflowstream/Query$Operator;" } : Jvm.MethodName) method_3_code (3 : Nat) (Option.some (Jvm.ClassFile.FieldType.object "com/example/overflowstream/overflowstream/Query$Operator"))).before args0 about1 = true := code_word (m := ⟨1, 2⟩) (meth := k1m2) (c := k1c2) (by decide +kernel) rfl rfl rfl (by decide +kernel)
set_option maxRecDepth 65536 in
theorem w_c6 : (Jvm.Cond.code ({ cls := "com/example/overflowstream/overflowstream/Query$Operator", name := "written", desc := "(Ljava/lang/String;)Lcom/example/overflowstream/overflowstream/Query$Operator;" } : Jvm.MethodName) prog_36_method_4_code (5 : Nat) (Option.some (Jvm.ClassFile.FieldType.object "com/example/overflowstream/overflowstream/Query$Operator"))).before args0 about1 = true := code_word (m := ⟨9, 1⟩) (meth := k9m1) (c := k9c1) (by decide +kernel) rfl rfl rfl (by decide +kernel)
set_option maxRecDepth 65536 in
theorem w_c7 : (Jvm.Cond.code ({ cls := "com/example/overflowstream/overflowstream/Query$Operator", name := "values", desc := "()[Lcom/example/overflowstream/overflowstream/Query$Operator;" } : Jvm.MethodName) prog_36_method_1_code (0 : Nat) (Option.some (Jvm.ClassFile.FieldType.array (Jvm.ClassFile.FieldType.object "com/example/overflowstream/overflowstream/Query$Operator")))).before args0 about1 = true := code_word (m := ⟨9, 0⟩) (meth := k9m0) (c := k9c0) (by decide +kernel) rfl rfl rfl (by decide +kernel)
set_option maxRecDepth 65536 in
theorem w_c8 : (Jvm.Cond.code ({ cls := "java/lang/String", name := "equals", desc := "(Ljava/lang/Object;)Z" } : Jvm.MethodName) jdk_42_method_66_code (3 : Nat) (Option.some Jvm.ClassFile.FieldType.boolean)).before args0 about1 = true := code_word (m := ⟨7, 2⟩) (meth := k7m2) (c := k7c2) (by decide +kernel) rfl rfl rfl (by decide +kernel)
set_option maxRecDepth 65536 in
theorem w_c9 : (Jvm.Cond.code ({ cls := "java/lang/StringLatin1", name := "equals", desc := "([B[B)Z" } : Jvm.MethodName) jdk_43_method_13_code (3 : Nat) (Option.some Jvm.ClassFile.FieldType.boolean)).before args0 about1 = true := code_word (m := ⟨11, 2⟩) (meth := k11m2) (c := k11c2) (by decide +kernel) rfl rfl rfl (by decide +kernel)
set_option maxRecDepth 65536 in
theorem w_c10 : (Jvm.Cond.code ({ cls := "java/lang/StringUTF16", name := "compress", desc := "([CII)[B" } : Jvm.MethodName) jdk_52_method_16_code (6 : Nat) (Option.some (Jvm.ClassFile.FieldType.array Jvm.ClassFile.FieldType.byte))).before args0 about1 = true := code_word (m := ⟨12, 2⟩) (meth := k12m2) (c := k12c2) (by decide +kernel) rfl rfl rfl (by decide +kernel)
set_option maxRecDepth 65536 in
theorem w_c11 : (Jvm.Cond.code ({ cls := "java/lang/StringUTF16", name := "compress", desc := "([CI[BII)I" } : Jvm.MethodName) jdk_52_method_21_code (7 : Nat) (Option.some Jvm.ClassFile.FieldType.int)).before args0 about1 = true := code_word (m := ⟨12, 3⟩) (meth := k12m3) (c := k12c3) (by decide +kernel) rfl rfl rfl (by decide +kernel)
set_option maxRecDepth 65536 in
theorem w_c12 : (Jvm.Cond.code ({ cls := "java/lang/StringUTF16", name := "coderFromArrayLen", desc := "([BI)B" } : Jvm.MethodName) jdk_52_method_15_code (2 : Nat) (Option.some Jvm.ClassFile.FieldType.byte)).before args0 about1 = true := code_word (m := ⟨12, 1⟩) (meth := k12m1) (c := k12c1) (by decide +kernel) rfl rfl rfl (by decide +kernel)
set_option maxRecDepth 65536 in
theorem w_c13 : (Jvm.Cond.code ({ cls := "java/lang/String", name := "valueOf", desc := "(C)Ljava/lang/String;" } : Jvm.MethodName) jdk_42_method_139_code (1 : Nat) (Option.some (Jvm.ClassFile.FieldType.object "java/lang/String"))).before args0 about1 = true := code_word (m := ⟨7, 3⟩) (meth := k7m3) (c := k7c3) (by decide +kernel) rfl rfl rfl (by decide +kernel)
set_option maxRecDepth 65536 in
theorem w_c14 : (Jvm.Cond.code ({ cls := "java/lang/StringLatin1", name := "canEncode", desc := "(C)Z" } : Jvm.MethodName) jdk_43_method_3_code (1 : Nat) (Option.some Jvm.ClassFile.FieldType.boolean)).before args0 about1 = true := code_word (m := ⟨11, 1⟩) (meth := k11m1) (c := k11c1) (by decide +kernel) rfl rfl rfl (by decide +kernel)
set_option maxRecDepth 65536 in
theorem w_c15 : (Jvm.Cond.code ({ cls := "java/lang/StringLatin1", name := "toBytes", desc := "(C)[B" } : Jvm.MethodName) jdk_43_method_46_code (1 : Nat) (Option.some (Jvm.ClassFile.FieldType.array Jvm.ClassFile.FieldType.byte))).before args0 about1 = true := code_word (m := ⟨11, 3⟩) (meth := k11m3) (c := k11c3) (by decide +kernel) rfl rfl rfl (by decide +kernel)
set_option maxRecDepth 65536 in
theorem w_c16 : (Jvm.Cond.code ({ cls := "java/lang/String", name := "<init>", desc := "([BB)V" } : Jvm.MethodName) jdk_42_method_151_code (3 : Nat) (Option.none : Option Jvm.ClassFile.FieldType)).before args0 about1 = true := code_word (m := ⟨7, 5⟩) (meth := k7m5) (c := k7c5) (by decide +kernel) rfl rfl rfl (by decide +kernel)
def codes1 : List Jvm.Cond := [Jvm.Cond.code x code maxLocals ret, Jvm.Cond.code ({ cls := "com/example/overflowstream/overflowstream/OperatorWrittenPinLaw", name := "pick", desc := "(I)C" } : Jvm.MethodName) method_2_code (2 : Nat) (Option.some Jvm.ClassFile.FieldType.char), Jvm.Cond.code ({ cls := "java/lang/String", name := "<init>", desc := "([C)V" } : Jvm.MethodName) jdk_42_method_3_code (2 : Nat) (Option.none : Option Jvm.ClassFile.FieldType), Jvm.Cond.code ({ cls := "java/lang/String", name := "<init>", desc := "([CIILjava/lang/Void;)V" } : Jvm.MethodName) jdk_42_method_149_code (6 : Nat) (Option.none : Option Jvm.ClassFile.FieldType), Jvm.Cond.code ({ cls := "java/lang/Object", name := "<init>", desc := "()V" } : Jvm.MethodName) object_method_1_code (1 : Nat) (Option.none : Option Jvm.ClassFile.FieldType), Jvm.Cond.code ({ cls := "com/example/overflowstream/overflowstream/OperatorWrittenPinLaw", name := "expected", desc := "(ICC)Lcom/example/overflowstream/overflowstream/Query$Operator;" } : Jvm.MethodName) method_3_code (3 : Nat) (Option.some (Jvm.ClassFile.FieldType.object "com/example/overflowstream/overflowstream/Query$Operator")), Jvm.Cond.code ({ cls := "com/example/overflowstream/overflowstream/Query$Operator", name := "written", desc := "(Ljava/lang/String;)Lcom/example/overflowstream/overflowstream/Query$Operator;" } : Jvm.MethodName) prog_36_method_4_code (5 : Nat) (Option.some (Jvm.ClassFile.FieldType.object "com/example/overflowstream/overflowstream/Query$Operator")), Jvm.Cond.code ({ cls := "com/example/overflowstream/overflowstream/Query$Operator", name := "values", desc := "()[Lcom/example/overflowstream/overflowstream/Query$Operator;" } : Jvm.MethodName) prog_36_method_1_code (0 : Nat) (Option.some (Jvm.ClassFile.FieldType.array (Jvm.ClassFile.FieldType.object "com/example/overflowstream/overflowstream/Query$Operator"))), Jvm.Cond.code ({ cls := "java/lang/String", name := "equals", desc := "(Ljava/lang/Object;)Z" } : Jvm.MethodName) jdk_42_method_66_code (3 : Nat) (Option.some Jvm.ClassFile.FieldType.boolean), Jvm.Cond.code ({ cls := "java/lang/StringLatin1", name := "equals", desc := "([B[B)Z" } : Jvm.MethodName) jdk_43_method_13_code (3 : Nat) (Option.some Jvm.ClassFile.FieldType.boolean), Jvm.Cond.code ({ cls := "java/lang/StringUTF16", name := "compress", desc := "([CII)[B" } : Jvm.MethodName) jdk_52_method_16_code (6 : Nat) (Option.some (Jvm.ClassFile.FieldType.array Jvm.ClassFile.FieldType.byte)), Jvm.Cond.code ({ cls := "java/lang/StringUTF16", name := "compress", desc := "([CI[BII)I" } : Jvm.MethodName) jdk_52_method_21_code (7 : Nat) (Option.some Jvm.ClassFile.FieldType.int), Jvm.Cond.code ({ cls := "java/lang/StringUTF16", name := "coderFromArrayLen", desc := "([BI)B" } : Jvm.MethodName) jdk_52_method_15_code (2 : Nat) (Option.some Jvm.ClassFile.FieldType.byte), Jvm.Cond.code ({ cls := "java/lang/String", name := "valueOf", desc := "(C)Ljava/lang/String;" } : Jvm.MethodName) jdk_42_method_139_code (1 : Nat) (Option.some (Jvm.ClassFile.FieldType.object "java/lang/String")), Jvm.Cond.code ({ cls := "java/lang/StringLatin1", name := "canEncode", desc := "(C)Z" } : Jvm.MethodName) jdk_43_method_3_code (1 : Nat) (Option.some Jvm.ClassFile.FieldType.boolean), Jvm.Cond.code ({ cls := "java/lang/StringLatin1", name := "toBytes", desc := "(C)[B" } : Jvm.MethodName) jdk_43_method_46_code (1 : Nat) (Option.some (Jvm.ClassFile.FieldType.array Jvm.ClassFile.FieldType.byte)), Jvm.Cond.code ({ cls := "java/lang/String", name := "<init>", desc := "([BB)V" } : Jvm.MethodName) jdk_42_method_151_code (3 : Nat) (Option.none : Option Jvm.ClassFile.FieldType)]
set_option maxRecDepth 65536 in
theorem codes_eq : words1.filter isCode = codes1 := rfl
theorem w_codes : ∀ c ∈ words1.filter isCode, c.before args0 about1 = true := by
  rw [codes_eq]
  intro c hc
  simp only [codes1, List.mem_cons, List.not_mem_nil, or_false] at hc
  rcases hc with rfl | rfl | rfl | rfl | rfl | rfl | rfl | rfl | rfl | rfl | rfl | rfl | rfl | rfl | rfl | rfl | rfl
  · exact w_c0
  · exact w_c1
  · exact w_c2
  · exact w_c3
  · exact w_c4
  · exact w_c5
  · exact w_c6
  · exact w_c7
  · exact w_c8
  · exact w_c9
  · exact w_c10
  · exact w_c11
  · exact w_c12
  · exact w_c13
  · exact w_c14
  · exact w_c15
  · exact w_c16
set_option maxRecDepth 65536 in
theorem w_t1 : (words1.take 24).all (fun c => isCode c || c.before args0 about1) = true := by decide +kernel
set_option maxRecDepth 65536 in
theorem w_t2 : ((words1.drop 24).take 24).all (fun c => isCode c || c.before args0 about1) = true := by decide +kernel
set_option maxRecDepth 65536 in
theorem w_t3 : (((words1.drop 24).drop 24).take 24).all (fun c => isCode c || c.before args0 about1) = true := by decide +kernel
set_option maxRecDepth 65536 in
theorem w_t4 : (((words1.drop 24).drop 24).drop 24).all (fun c => isCode c || c.before args0 about1) = true := by decide +kernel
theorem w_tables : (allAtoms (Jvm.Cond.code x code maxLocals ret :: tables_1)).before args0 about1 = true := by
  rw [allAtoms_all]
  show words1.all (fun c => c.before args0 about1) = true
  refine all_split ?_ w_codes
  rw [← List.take_append_drop 24 words1, List.all_append, w_t1, ← List.take_append_drop 24 (words1.drop 24), List.all_append, w_t2, ← List.take_append_drop 24 ((words1.drop 24).drop 24), List.all_append, w_t3, w_t4]
  rfl
set_option maxRecDepth 65536 in
theorem w_rest : rest_1_c.before args0 about1 = true := by decide +kernel
set_option maxRecDepth 65536 in
theorem w_case : (Jvm.Cond.and given_1 narrow_1).before args0 about1 = true := by decide +kernel
set_option maxRecDepth 65536 in
theorem w_consts : constsHeld consts_1 about1 := Jvm.Lit.constsHeldB_iff.mp (by decide +kernel)
theorem w_applies : (headSpec (Jvm.Cond.code x code maxLocals ret :: tables_1) room_1).applies x e0.platform about1 = true :=
  (Spec.applies_iff w_frames).mpr ⟨w_running, w_runnable, w_alone, w_named, w_hears, w_ripe, w_room, w_tables⟩
theorem atStart : AtStart classFile x code maxLocals ret World_1 tables_1 room_1 Calls_1 rest_1 Pre_1 launch0 p0 e0 about1 theMethod args0 below0 :=
  ⟨lists_1, trivial, launch0.admits_env _ _ _, launch0.least_env, fairChoices_fair.cas, fairChoices_fair.clock, w_frames, w_args, w_heap, w_applies, ⟨w_consts, trivial⟩, w_rest, w_case⟩
end start1
theorem witness_1 : WitnessClaimed_1 := ⟨start1.p0, start1.e0, start1.about1, start1.theMethod, start1.args0, start1.below0, start1.atStart⟩
end Jvm.Pilot.@@N@@
