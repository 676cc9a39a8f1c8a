import JvmDerived
import JvmDerived.Pilot.@@N@@Statement
import JvmDerived.Pilot.@@N@@Code
set_option linter.unusedVariables false
set_option linter.unusedSimpArgs false
@@BLOCK:NumsL.lean.txt@@
@@BLOCK:LamKit.lean.txt@@
namespace Jvm.Pilot.@@N@@
open Jvm Jvm.ClassFile Sem Op Lib Jvm.Free Jvm.Stand Jvm.LawKit Jvm.RoadKit Bundle Jvm.Pilot.@@N@@.Jvm.D
section Own
variable {p : Program} {l : Launch} {e : Env} {R : Room} {s : State} {m : MethodId} {args : Array Value} {below : List Frame} {meth : Method} {c : Code} {T : State} {locs : List Loc} {cells slots : Nat} {Z : State} {a0 : Array Value} {h : Heap}
/-- from here the walk comes to an end that P holds of -/
def own_G (p : Program) (e : Env) (below : List Frame) (P : State → Outcome → Prop) (T : State) (g : JFrame) : Prop := ∃ t o, Steps p.tables e below (T.setTop g) t ∧ P t o
def own_P (below : List Frame) (s : State) (rm : Room) (Q : Option Value → Heap → List Loc → Prop) (t : State) (o : Outcome) : Prop := t.status = .running ∧ Ended t below o ∧ ∃ v L, o = .returned v ∧ Q v t.heap L ∧ FrameEnd s o t L rm.cells rm.slots
/-- a body's contract: over these arguments and this heap it returns, and Q holds of what it returns, the heap and the places written -/
def own_M (l : Launch) (Z : State) (y : MethodName) (code : ByteArray) (maxL : Nat) (ret : Option FieldType) (rm : Room) (as : Array Value) (h : Heap) (Q : Option Value → Heap → List Loc → Prop) : Prop :=
  ∀ ws : List Jvm.Cond, MetFree l y (head1 (Jvm.Cond.code y code maxL ret :: ws) rm) (fun a U => a = as ∧ Z.WarmedH U.vm ∧ U.heap = h) (fun _ _ _ _ _ => True) (fun _ U o U' => ∃ v L, o = .returned v ∧ Q v U'.heap L ∧ FrameEnd U o U' L rm.cells rm.slots)
theorem own_go {P : State → Outcome → Prop} {T' : State} {g g' : JFrame} (st : ∀ t, Steps p.tables e below (T'.setTop g') t → Steps p.tables e below (T.setTop g) t) (k : own_G p e below P T' g') : own_G p e below P T g := by
  obtain ⟨t, o, h1, h2⟩ := k
  exact ⟨t, o, st t h1, h2⟩
theorem own_body {y : MethodName} {code : ByteArray} {maxL : Nat} {ret : Option FieldType} {rm : Room} {as : Array Value} {Q : Option Value → Heap → List Loc → Prop} (hn : plainFor y = true)
    (body : ∀ (p : Program) (e : Env) (s : State) (m : MethodId) (below : List Frame) (meth : Method) (c : Code) (T : State), p.tables.exec = Jvm.exec → c.code = code → c.maxLocals = maxL → meth.locks = false → s.vm.findClass y.cls = some m.cls → meth.sig.returnType = ret → meth.name = y.name → Z.WarmedH s.vm → s.methodNamed? y = some m → Stand p l e rm s m as below meth c T [] 0 0 → T.heap = h → own_G p e below (own_P below s rm Q) T (entryFrame m as maxL)) :
    own_M l Z y code maxL ret rm as h Q := by
  intro ws
  refine MetFree.of_bodySF hn hisR ?_
  intro p e s m args below meth c s₁ Bd hml0 hP hK
  obtain ⟨rfl, hZ, hh⟩ := hP
  obtain ⟨t, o, h1, h2, h3, h4⟩ := body p e s m below meth c s₁ Bd.exec Bd.bytes hml0 Bd.notSynchronized (findClass_of_methodNamed Bd.named) Bd.returns (name_of_methodNamed Bd.named Bd.method).1 hZ Bd.named (Stand.of_body Bd) (by rw [← hh, Bd.state]; rfl)
  exact ⟨t, o, h1, h2, h3, h4⟩
theorem own_retI {rm : Room} {Q : Option Value → Heap → List Loc → Prop} (X : Stand p l e R s m args below meth c T locs cells slots) (hx : p.tables.exec = Jvm.exec) (hlk : meth.locks = false) (hret : meth.sig.returnType = some .int) {pc : Nat} {Ls : Array Slot} {z : Int32} {rest : List Value} (hd : decode c.code pc = .ok (.ireturn, 1)) (hc : cells ≤ rm.cells) (hs : slots ≤ rm.slots) (hQ : Q (some (.int z)) T.heap locs) :
    own_G p e below (own_P below s rm Q) T (mkF m pc Ls (.int z :: rest)) := by
  obtain ⟨fs, hr, hrun, hended, hW, hsame⟩ := X.leave (v := some (.int z)) (fun h => by rw [hret] at h; cases h) hlk
  exact ⟨_, _, retOut X hx hret rfl (Or.inl ⟨rfl, Or.inl rfl, _, rfl⟩) hd hr, hrun, hended, _, _, rfl, hQ, ⟨_, rfl⟩, hW, hsame.mono hc hs⟩
theorem own_retN {rm : Room} {Q : Option Value → Heap → List Loc → Prop} (X : Stand p l e R s m args below meth c T locs cells slots) (hx : p.tables.exec = Jvm.exec) (hlk : meth.locks = false) {t : FieldType} (hret : meth.sig.returnType = some t) (ht : t = .boolean ∨ t = .byte ∨ t = .char ∨ t = .short) {pc : Nat} {Ls : Array Slot} {z : Int32} {rest : List Value} (hd : decode c.code pc = .ok (.ireturn, 1)) (hc : cells ≤ rm.cells) (hs : slots ≤ rm.slots) (hQ : Q (some (.int (nar t z))) T.heap locs) :
    own_G p e below (own_P below s rm Q) T (mkF m pc Ls (.int z :: rest)) := by
  obtain ⟨fs, hr, hrun, hended, hW, hsame⟩ := X.leave (v := some (.int (nar t z))) (fun h => by rw [hret] at h; cases h) hlk
  exact ⟨_, _, retN X hx hret ht hd hr, hrun, hended, _, _, rfl, hQ, ⟨_, rfl⟩, hW, hsame.mono hc hs⟩
theorem own_narrow {t : FieldType} {w : Value} (hw : w.isRef = true) : narrow t w = w := by
  rcases ref_cases hw with rfl | ⟨a, rfl⟩ <;> cases t <;> rfl
theorem own_retA {rm : Room} {Q : Option Value → Heap → List Loc → Prop} (X : Stand p l e R s m args below meth c T locs cells slots) (hx : p.tables.exec = Jvm.exec) (hlk : meth.locks = false) {t : FieldType} (hret : meth.sig.returnType = some t) (ht : t.isReference = true) {pc : Nat} {Ls : Array Slot} {w : Value} {rest : List Value} (hw : w.isRef = true) (hd : decode c.code pc = .ok (.areturn, 1)) (hc : cells ≤ rm.cells) (hs : slots ≤ rm.slots) (hQ : Q (some w) T.heap locs) :
    own_G p e below (own_P below s rm Q) T (mkF m pc Ls (w :: rest)) := by
  obtain ⟨fs, hr, hrun, hended, hW, hsame⟩ := X.leave (v := some w) (fun h => by rw [hret] at h; cases h) hlk
  exact ⟨_, _, retOut X hx hret (own_narrow hw) (Or.inr (Or.inr (Or.inr (Or.inr ⟨rfl, ht, hw⟩)))) hd hr, hrun, hended, _, _, rfl, hQ, ⟨_, rfl⟩, hW, hsame.mono hc hs⟩
theorem own_ret0 {rm : Room} {Q : Option Value → Heap → List Loc → Prop} (X : Stand p l e R s m args below meth c T locs cells slots) (hx : p.tables.exec = Jvm.exec) (hlk : meth.locks = false) (hret : meth.sig.returnType = none) {pc : Nat} {Ls : Array Slot} (hd : decode c.code pc = .ok (.return_, 1)) (hc : cells ≤ rm.cells) (hs : slots ≤ rm.slots) (hQ : Q none T.heap locs) :
    own_G p e below (own_P below s rm Q) T (mkF m pc Ls []) := by
  obtain ⟨fs, hr, hrun, hended, hW, hsame⟩ := X.leave (v := none) (fun _ => rfl) hlk
  exact ⟨_, _, X.returnOut hx hret hd hr, hrun, hended, _, _, rfl, hQ, ⟨_, rfl⟩, hW, hsame.mono hc hs⟩
theorem own_backOf {y : MethodName} {bytes : ByteArray} {maxL : Nat} {ret : Option FieldType} {rm : Room} {len W : Nat} {as' : Array Value} {Q : Option Value → Heap → List Loc → Prop}
    (hM : own_M l Z y bytes maxL ret rm as' h Q) (hH : Z.WarmedH s.vm) (wc : (Jvm.Cond.code y bytes maxL ret).before a0 Z = true) (wz : (Jvm.Cond.initialized y.cls).before a0 Z = true) (hf : rm.frames + 1 ≤ R.frames) (hl : W + (maxL + 11) + rm.locals ≤ R.locals) :
    Back l R p e below s args y len W (fun A a => a = as' ∧ A.U.heap = h ∧ A.cells + rm.cells ≤ R.cells ∧ A.slots + rm.slots ≤ R.slots)
      (fun A _ v B => ∃ L, Q v B.U.heap L ∧ B.locs = A.locs ++ L ∧ B.cells = A.cells + rm.cells ∧ B.slots = A.slots + rm.slots) := by
  refine Back.of_free (bytes := bytes) (maxL := maxL) (ret := ret) (E := fun _ _ o t L k n => k = rm.cells ∧ n = rm.slots ∧ ∃ v, o = .returned v ∧ Q v t.heap L) (hM []) hf hl ?_ ?_ (fun _ _ _ _ _ _ _ _ _ => trivial) ?_ ?_
  · intro m meth c A a Y hp
    have hU : Z.Warmed39 A.U.vm := wtrans hH.wide Y.warmed
    exact ⟨by show (Jvm.Cond.and _ .tt).before a A.U = true; rw [Jvm.Cond.before_and, mv hU wc]; rfl, mv hU wc, mv hU wz, hp.2.2.1, hp.2.2.2⟩
  · intro m meth c A a g mk Y hp
    exact ⟨hp.1, State.WarmedH.trans hH Y.warmed, hp.2.1⟩
  · rintro _ _ _ _ ⟨v, L, h1, h2, h3⟩
    exact ⟨L, _, _, h3, rfl, rfl, v, h1, h2⟩
  · rintro m meth c A a g mk v t L k n Y hp _ _ ⟨e1, e2, v', e3, e4⟩
    cases e3; subst e1 e2
    exact ⟨L, e4, rfl, rfl, rfl⟩
theorem own_callS (X : Stand p l e R s m args below meth c T locs cells slots) (hx : p.tables.exec = Jvm.exec) (hH : Z.WarmedH s.vm) {own : String} {index : Nat} {y : MethodName} {bytes : ByteArray} {maxL : Nat} {ret : Option FieldType} (hown : s.vm.findClass own = some m.cls)
    (w1 : (Jvm.Cond.methodLink own index y).before a0 Z = true) (w2 : (Jvm.Cond.static y).before a0 Z = true) (w3 : (Jvm.Cond.initialized y.cls).before a0 Z = true) (w4 : (Jvm.Cond.code y bytes maxL ret).before a0 Z = true) (hy : y.cls ≠ "java/lang/invoke/MethodHandle" ∧ y.cls ≠ "java/lang/invoke/VarHandle")
    {rm : Room} {argsL rest : List Value} {Q : Option Value → Heap → List Loc → Prop} (hM : own_M l Z y bytes maxL ret rm argsL.toArray h Q) (eT : T.heap = h) {g : JFrame} (hg : g.method = m) (hsize : g.locals.size = c.maxLocals) {ps : List FieldType} {r : Option FieldType} (hpd : parseMethodDescriptor y.desc = some ⟨ps, r⟩) (hpl : argsL.length = ps.length)
    (hstack : g.stack = argsL.reverse ++ rest) {W : Nat} (hW : 2 * g.monitorRoom + (rest.map fun v => v.category).sum ≤ W) (hdg : decode c.code g.pc = .ok (.invokestatic index, 3)) (hf : rm.frames + 1 ≤ R.frames) (hl : W + (maxL + 11) + rm.locals ≤ R.locals) (hc : cells + rm.cells ≤ R.cells) (hs : slots + rm.slots ≤ R.slots) :
    ∃ (T' : State) (L : List Loc) (v : Option Value), Stand p l e R s m args below meth c T' (locs ++ L) (cells + rm.cells) (slots + rm.slots) ∧ Q v T'.heap L ∧ ∀ t, Steps p.tables e below (T'.setTop { g with pc := g.pc + 3, stack := v.toList ++ rest }) t → Steps p.tables e below (T.setTop g) t := by
  have hZ := hH.wide
  obtain ⟨v, vm₁, ⟨T', L', k', n'⟩, -, X', ⟨L, hQ, e1, e2, e3⟩, st⟩ := Jvm.LawKit.callS X hx (y := y) hown (mvT hZ w1) (mvT hZ w2) (mvT hZ w3) (mvT hZ w4) hy (own_backOf (W := W) hM hH w4 w3 hf hl) hg hsize (argsL := argsL) (rest := rest) (lenOf hpd hpl) hstack hW hdg (fun _ _ => ⟨rfl, eT, hc, hs⟩)
  dsimp only [Pt.U, Pt.locs, Pt.cells, Pt.slots] at X' e1 e2 e3 st hQ
  subst e1 e2 e3
  exact ⟨T', L, v, X', hQ, st⟩
theorem own_callV (X : Stand p l e R s m args below meth c T locs cells slots) (hx : p.tables.exec = Jvm.exec) (hH : Z.WarmedH s.vm) {own C : String} {index : Nat} {y z : MethodName} {bytes : ByteArray} {maxL : Nat} {ret : Option FieldType} (hown : s.vm.findClass own = some m.cls)
    (w1 : (Jvm.Cond.methodLink own index y).before a0 Z = true) (w2 : (Jvm.Cond.declares y).before a0 Z = true) (w3 : (Jvm.Cond.selects y.cls y z).before a0 Z = true) (w3' : (Jvm.Cond.selects C y z).before a0 Z = true) (w4 : (Jvm.Cond.instanceMethod z).before a0 Z = true) (w5 : (Jvm.Cond.code z bytes maxL ret).before a0 Z = true) (w6 : (Jvm.Cond.initialized z.cls).before a0 Z = true) (hnf : NotFace s y)
    (hy : y.cls ≠ "java/lang/invoke/MethodHandle" ∧ y.cls ≠ "java/lang/invoke/VarHandle")
    {rm : Room} {a : Addr} {argsL rest : List Value} {Q : Option Value → Heap → List Loc → Prop} (hM : own_M l Z z bytes maxL ret rm (.ref a :: argsL).toArray h Q) (eT : T.heap = h) (E : Exa Z h a C) {g : JFrame} (hg : g.method = m) (hsize : g.locals.size = c.maxLocals) {ps : List FieldType} {r : Option FieldType} (hpd : parseMethodDescriptor y.desc = some ⟨ps, r⟩) (hpl : argsL.length = ps.length)
    (hstack : g.stack = argsL.reverse ++ .ref a :: rest) {W : Nat} (hW : 2 * g.monitorRoom + (rest.map fun v => v.category).sum ≤ W) (hdg : decode c.code g.pc = .ok (.invokevirtual index, 3)) (hf : rm.frames + 1 ≤ R.frames) (hl : W + (maxL + 11) + rm.locals ≤ R.locals) (hc : cells + rm.cells ≤ R.cells) (hs : slots + rm.slots ≤ R.slots) :
    ∃ (T' : State) (L : List Loc) (v : Option Value), Stand p l e R s m args below meth c T' (locs ++ L) (cells + rm.cells) (slots + rm.slots) ∧ Q v T'.heap L ∧ ∀ t, Steps p.tables e below (T'.setTop { g with pc := g.pc + 3, stack := v.toList ++ rest }) t → Steps p.tables e below (T.setTop g) t := by
  obtain ⟨cq, kq, qa, qb, qc⟩ := isOf hH.wide eT E
  have hZ := hH.wide
  obtain ⟨v, vm₁, ⟨T', L', k', n'⟩, -, X', ⟨L, hQ, e1, e2, e3⟩, st⟩ := X.virtualBack hx (y := y) (z := z) hown (mvT hZ w1) (mvT hZ w2) hnf (mvT hZ w3') (mvT hZ w4) hy (own_backOf (W := W) hM hH w5 w6 hf hl) qa qc hg hsize (Steps.refl _) (argsL := argsL) (rest := rest) (lenOf hpd hpl) hstack hW hdg (fun _ _ => ⟨rfl, eT, hc, hs⟩)
  dsimp only [Pt.U, Pt.locs, Pt.cells, Pt.slots] at X' e1 e2 e3 st hQ
  subst e1 e2 e3
  exact ⟨T', L, v, X', hQ, fun t k => st.trans k⟩
theorem own_callU (X : Stand p l e R s m args below meth c T locs cells slots) (hx : p.tables.exec = Jvm.exec) (hH : Z.WarmedH s.vm) {own C owner : String} {index : Nat} {y z : MethodName} {bytes : ByteArray} {maxL : Nat} {ret : Option FieldType} (hown : s.vm.findClass own = some m.cls)
    (w1 : (Jvm.Cond.methodLink own index y).before a0 Z = true) (w2 : (Jvm.Cond.sameMethod y.cls owner y.name y.desc).before a0 Z = true) (w2' : (Jvm.Cond.declares ⟨owner, y.name, y.desc⟩).before a0 Z = true) (w3 : (Jvm.Cond.selects C y z).before a0 Z = true) (w4 : (Jvm.Cond.instanceMethod z).before a0 Z = true) (w5 : (Jvm.Cond.code z bytes maxL ret).before a0 Z = true) (w6 : (Jvm.Cond.initialized z.cls).before a0 Z = true)
    (hy : owner ≠ "java/lang/invoke/MethodHandle" ∧ owner ≠ "java/lang/invoke/VarHandle")
    {rm : Room} {a : Addr} {argsL rest : List Value} {Q : Option Value → Heap → List Loc → Prop} (hM : own_M l Z z bytes maxL ret rm (.ref a :: argsL).toArray h Q) (eT : T.heap = h) (E : Exa Z h a C) {g : JFrame} (hg : g.method = m) (hsize : g.locals.size = c.maxLocals) {ps : List FieldType} {r : Option FieldType} (hpd : parseMethodDescriptor y.desc = some ⟨ps, r⟩) (hpl : argsL.length = ps.length)
    (hstack : g.stack = argsL.reverse ++ .ref a :: rest) {W : Nat} (hW : 2 * g.monitorRoom + (rest.map fun v => v.category).sum ≤ W) (hdg : decode c.code g.pc = .ok (.invokevirtual index, 3)) (hf : rm.frames + 1 ≤ R.frames) (hl : W + (maxL + 11) + rm.locals ≤ R.locals) (hc : cells + rm.cells ≤ R.cells) (hs : slots + rm.slots ≤ R.slots) :
    ∃ (T' : State) (L : List Loc) (v : Option Value), Stand p l e R s m args below meth c T' (locs ++ L) (cells + rm.cells) (slots + rm.slots) ∧ Q v T'.heap L ∧ ∀ t, Steps p.tables e below (T'.setTop { g with pc := g.pc + 3, stack := v.toList ++ rest }) t → Steps p.tables e below (T.setTop g) t := by
  obtain ⟨cq, kq, qa, qb, qc⟩ := isOf hH.wide eT E
  have hZ := hH.wide
  obtain ⟨v, vm₁, ⟨T', L', k', n'⟩, -, X', ⟨L, hQ, e1, e2, e3⟩, st⟩ := X.virtualBackUp hx (x := y) (y := z) hown (mvT hZ w1) (mvT hZ w2) (mvT hZ w2') hy (mvT hZ w3) (mvT hZ w4) (own_backOf (W := W) hM hH w5 w6 hf hl) qa qc hg hsize (Steps.refl _) (argsL := argsL) (rest := rest) (lenOf hpd hpl) hstack hW hdg (fun _ _ => ⟨rfl, eT, hc, hs⟩)
  dsimp only [Pt.U, Pt.locs, Pt.cells, Pt.slots] at X' e1 e2 e3 st hQ
  subst e1 e2 e3
  exact ⟨T', L, v, X', hQ, fun t k => st.trans k⟩
theorem own_callN (X : Stand p l e R s m args below meth c T locs cells slots) (hx : p.tables.exec = Jvm.exec) (hH : Z.WarmedH s.vm) {own : String} {index : Nat} {y : MethodName} {bytes : ByteArray} {maxL : Nat} (hy1 : y.name = "<init>") (hown : s.vm.findClass own = some m.cls)
    (w1 : (Jvm.Cond.methodLink own index y).before a0 Z = true) (w2 : (Jvm.Cond.instanceMethod y).before a0 Z = true) (w3 : (Jvm.Cond.code y bytes maxL none).before a0 Z = true) (w4 : (Jvm.Cond.initialized y.cls).before a0 Z = true) (hy : y.cls ≠ "java/lang/invoke/MethodHandle" ∧ y.cls ≠ "java/lang/invoke/VarHandle")
    {rm : Room} {a : Addr} {argsL rest : List Value} {Q : Option Value → Heap → List Loc → Prop} (hM : own_M l Z y bytes maxL none rm (.ref a :: argsL).toArray h Q) (eT : T.heap = h) {g : JFrame} (hg : g.method = m) (hsize : g.locals.size = c.maxLocals) {ps : List FieldType} {r : Option FieldType} (hpd : parseMethodDescriptor y.desc = some ⟨ps, r⟩) (hpl : argsL.length = ps.length)
    (hstack : g.stack = argsL.reverse ++ .ref a :: rest) {W : Nat} (hW : 2 * g.monitorRoom + (rest.map fun v => v.category).sum ≤ W) (hdg : decode c.code g.pc = .ok (.invokespecial index, 3)) (hf : rm.frames + 1 ≤ R.frames) (hl : W + (maxL + 11) + rm.locals ≤ R.locals) (hc : cells + rm.cells ≤ R.cells) (hs : slots + rm.slots ≤ R.slots) :
    ∃ (T' : State) (L : List Loc) (v : Option Value), Stand p l e R s m args below meth c T' (locs ++ L) (cells + rm.cells) (slots + rm.slots) ∧ Q v T'.heap L ∧ ∀ t, Steps p.tables e below (T'.setTop { g with pc := g.pc + 3, stack := v.toList ++ rest }) t → Steps p.tables e below (T.setTop g) t := by
  have hZ := hH.wide
  obtain ⟨v, vm₁, ⟨T', L', k', n'⟩, -, X', ⟨L, hQ, e1, e2, e3⟩, st⟩ := X.specialBack hx (y := y) hy1 hown (mvT hZ w1) (mvT hZ w2) (mvT hZ w3) hy (own_backOf (W := W) hM hH w3 w4 hf hl) hg hsize (Steps.refl _) (a := a) (argsL := argsL) (rest := rest) (lenOf hpd hpl) hstack hW hdg (fun _ _ => ⟨rfl, eT, hc, hs⟩)
  dsimp only [Pt.U, Pt.locs, Pt.cells, Pt.slots] at X' e1 e2 e3 st hQ
  subst e1 e2 e3
  exact ⟨T', L, v, X', hQ, fun t k => st.trans k⟩
theorem own_neL {i K : Int32} {k : Int} (h : ¬ i = K) (hk : K.toInt = k) : k ≠ i.toInt := fun q => h (Int32.toInt_inj.mp (by rw [hk, q]))
abbrev own_cell (cA : ClassId) (vs : Array Value) : Cell := { cls := cA, slots := vs, vm := .none }
theorem own_in {cl : Cell} {j : Int32} {n : Nat} (hs : cl.slots.size = n) (hj : ¬ (j < 0 ∨ n ≤ j.toNatClampNeg)) : ¬ (j < 0 ∨ cl.slots.size ≤ j.toNatClampNeg) := by rw [hs]; exact hj
theorem own_cellAt {cl : Cell} {ty : FieldType} {a : Addr} (q : T.heap = h) (A : Arr Z h a cl ty) : T.heap[a]? = some cl := q ▸ A.1
theorem own_cat {v : Value} (q : v.isRef = true) : v.category = 1 := by rcases ref_cases q with rfl | ⟨a, rfl⟩ <;> rfl
theorem own_ext_refl (h : Heap) : Ext h h := ⟨Nat.le_refl _, fun _ _ q => q⟩
theorem own_ext_trans {h0 h h' : Heap} (E : Ext h0 h) (E' : Ext h h') : Ext h0 h' := ⟨Nat.le_trans E.1 E'.1, fun a c q => E'.2 a c (E.2 a c q)⟩
theorem own_ext_eq {h0 h h' : Heap} (E : Ext h0 h) (q : h' = h) : Ext h0 h' := q ▸ E
theorem own_acVF {v w : Value} (q : v = w) : Jvm.Free.XT.acmp .ne v w = false := by subst q; simp [Jvm.Free.XT.acmp]
theorem own_ext_wr {h0 h h' : Heap} {a : Addr} {sl : Nat} {v : Value} (E : Ext h0 h) (W : Wr h h' a sl v) (q : h0.size ≤ a) : Ext h0 h' := by
  refine ⟨by rw [W.size]; exact E.1, fun x cx hx => ?_⟩
  obtain ⟨c', e1, -, -, -, e5, -⟩ := wr_at W (E.2 x cx hx)
  rw [← e5 (Nat.ne_of_lt (Nat.lt_of_lt_of_le (Array.getElem?_eq_some_iff.mp hx).1 q))]
  exact e1
theorem own_fld {t : Term} {a : Addr} {C n d : String} {k : Int32} (ev : t.eval args Z none [] Z = some (.ref a)) (w : (Jvm.Cond.eq (.field t C n d) (.int k)).value args Z none Z [] = some true) : Fld Z Z.heap a C n d (.int k) := by
  obtain ⟨x, y, e1, e2, k1, k2⟩ := cmp_v (Or.inl w)
  obtain rfl : y = .int k := (Option.some.inj e2).symm
  obtain ⟨z, rfl⟩ := k2
  have hz := gotT (Jvm.Cond.eq_ints e1 e2) w
  rw [fld_at ev] at e1
  rw [hz] at e1
  exact Fld.start e1
theorem own_len {t : Term} {a : Addr} {cl : Cell} {ty : FieldType} {k : Int32} (ev : t.eval args Z none [] Z = some (.ref a)) (A : Arr Z Z.heap a cl ty) (w : (Jvm.Cond.eq (.length t) (.int k)).value args Z none Z [] = some true) : cl.slots.size = k.toInt.toNat := by
  obtain ⟨x, y, e1, e2, k1, k2⟩ := cmp_v (Or.inl w)
  obtain rfl : y = .int k := (Option.some.inj e2).symm
  obtain ⟨z, rfl⟩ := k2
  have hz := gotT (Jvm.Cond.eq_ints e1 e2) w
  have hA : Z.arrayAt? a = some cl := Arr.fin (Vm.Alike.refl _) A
  by_cases hl : cl.slots.size < 2 ^ 31
  · rw [len_f ev hA hl] at e1
    have h1 : cl.slots.size.toInt32 = z := Value.int.inj (Option.some.inj e1)
    rw [← hz, ← h1, len_toInt hl]
    rfl
  · simp [Term.eval, ev, hA, hl] at e1
theorem own_elemI {t : Term} {a : Addr} {cl : Cell} {ty : FieldType} {j k : Int32} (ev : t.eval args Z none [] Z = some (.ref a)) (A : Arr Z Z.heap a cl ty) (w : (Jvm.Cond.eq (.elem t (.int j)) (.int k)).value args Z none Z [] = some true) : cl.slots[j.toNatClampNeg]? = some (.int k) := by
  obtain ⟨x, y, e1, e2, k1, k2⟩ := cmp_v (Or.inl w)
  obtain rfl : y = .int k := (Option.some.inj e2).symm
  obtain ⟨z, rfl⟩ := k2
  have hz := gotT (Jvm.Cond.eq_ints e1 e2) w
  rw [← hz]
  exact (elem_in e1 ev (Term.int_eval j) A.1).2
theorem own_elemR {t u : Term} {a b : Addr} {cl : Cell} {ty : FieldType} {j : Int32} (ev : t.eval args Z none [] Z = some (.ref a)) (A : Arr Z Z.heap a cl ty) (ev' : u.eval args Z none [] Z = some (.ref b)) (w : (Jvm.Cond.eq (.elem t (.int j)) u).value args Z none Z [] = some true) : cl.slots[j.toNatClampNeg]? = some (.ref b) := by
  obtain ⟨x, y, e1, e2, k1, k2⟩ := cmp_v (Or.inl w)
  obtain rfl : y = .ref b := (Option.some.inj (ev'.symm.trans e2)).symm
  have hz := gotT (eq_R e1 e2 k2.2 rfl) w
  rw [← hz]
  exact (elem_in e1 ev (Term.int_eval j) A.1).2
theorem own_neV {a b : Int32} (h : a ≠ b) : (Value.int a) ≠ Value.int b := fun q => h (Value.int.inj q)
theorem own_acT {a b : Addr} (h : a = b) : Jvm.Free.XT.acmp .eq (.ref a) (.ref b) = true := by subst h; simp [Jvm.Free.XT.acmp]
theorem own_acF {a b : Addr} (h : a ≠ b) : Jvm.Free.XT.acmp .eq (.ref a) (.ref b) = false := by simp [Jvm.Free.XT.acmp, h]
theorem own_acnT {a b : Addr} (h : a ≠ b) : Jvm.Free.XT.acmp .ne (.ref a) (.ref b) = true := by simp [Jvm.Free.XT.acmp, h]
theorem own_acnF {a b : Addr} (h : a = b) : Jvm.Free.XT.acmp .ne (.ref a) (.ref b) = false := by subst h; simp [Jvm.Free.XT.acmp]
theorem own_mask (x : Int32) : 0 ≤ (x &&& 2147483647).toInt := by
  have := Jvm.Kit.i32_mask x 2147483647 (k := 31) (by decide) (by decide)
  omega
theorem own_rem (y n : Int32) (h0 : 0 ≤ y.toInt) (hn : 0 < n.toInt) : 0 ≤ (y % n).toInt ∧ (y % n).toInt < n.toInt := by
  rw [Int32.toInt_mod]
  exact ⟨Int.tmod_nonneg _ h0, by
    have := Int.tmod_lt_of_pos y.toInt hn
    exact this⟩
end Own
end Jvm.Pilot.@@N@@

namespace Jvm.Pilot.@@N@@
open Jvm Jvm.ClassFile Sem Op Lib Jvm.Free Jvm.Stand Jvm.LawKit Jvm.RoadKit Bundle Jvm.Pilot.@@N@@.Jvm.D
section Lam
variable {p : Program} {l : Launch} {e : Env} {R : Room} {s : State} {m : MethodId} {args : Array Value} {below : List Frame} {meth : Method} {c : Code} {T : State} {locs : List Loc} {cells slots : Nat} {Z : State} {a0 : Array Value} {h : Heap}
/-- the shape of the one lambda, as the sheet's word says it; the class's name; the forwarder that the model's rule writes for it -/
abbrev own_K : String := "com/example/halyard/halyard/engine/OperandStack"
def own_sh : Lambda.Shape := Jvm.Lambda.Shape.mk "com/example/halyard/halyard/engine/Code" "run" (Jvm.ClassFile.MethodDescriptor.mk [.object "com/example/halyard/halyard/engine/Frame"] (some (.object "java/lang/Object"))) [.object "com/example/halyard/halyard/engine/OperandStack", .int, .int] 5 "com/example/halyard/halyard/engine/OperandStack" "lambda$operand$0" (Jvm.ClassFile.MethodDescriptor.mk [.int, .int, .object "com/example/halyard/halyard/engine/Frame"] (some (.object "java/lang/Object"))) false (Jvm.ClassFile.MethodDescriptor.mk [.object "com/example/halyard/halyard/engine/Frame"] (some (.object "java/lang/Object")))
def own_fc : ByteArray := ⟨#[0x2a, 0xb4, 0x00, 0x12, 0x2a, 0xb4, 0x00, 0x14, 0x2a, 0xb4, 0x00, 0x16, 0x2b, 0xb6, 0x00, 0x1e, 0xb0]⟩
theorem own_fok : Jvm.LamKit.fwdOK own_sh own_K own_fc 2 (some (.object "java/lang/Object")) 30 26 = true := by decide +kernel
theorem own_c0 : Jvm.LamKit.capOK own_sh own_K 18 0 = true := by decide +kernel
theorem own_c1 : Jvm.LamKit.capOK own_sh own_K 20 1 = true := by decide +kernel
theorem own_c2 : Jvm.LamKit.capOK own_sh own_K 22 2 = true := by decide +kernel
theorem own_f0 : decode own_fc 0 = .ok (.aload_n 0, 1) := by decide +kernel
theorem own_f1 : decode own_fc 1 = .ok (.getfield 18, 3) := by decide +kernel
theorem own_f4 : decode own_fc 4 = .ok (.aload_n 0, 1) := by decide +kernel
theorem own_f5 : decode own_fc 5 = .ok (.getfield 20, 3) := by decide +kernel
theorem own_f8 : decode own_fc 8 = .ok (.aload_n 0, 1) := by decide +kernel
theorem own_f9 : decode own_fc 9 = .ok (.getfield 22, 3) := by decide +kernel
theorem own_f12 : decode own_fc 12 = .ok (.aload_n 1, 1) := by decide +kernel
theorem own_f13 : decode own_fc 13 = .ok (.invokevirtual 30, 3) := by decide +kernel
theorem own_f16 : decode own_fc 16 = .ok (.areturn, 1) := by decide +kernel
theorem own_made {U : State} (hH : Z.WarmedH U.vm) {host : String} {σ : Lambda.Shape} {cK : ClassId} (hmd : Jvm.LamKit.Made Z host σ cK) : Jvm.LamKit.Made U host σ cK := by
  obtain ⟨d, dk, hd, hdn, hmade, hcan⟩ := hmd
  obtain ⟨dk', hd', he⟩ := hH.alike.2.2 _ _ hd
  refine ⟨d, dk', hd', by rw [he]; exact hdn, Lambda.isMade_warmer hH hmade, ?_⟩
  have hA := hH.alike
  simp only [State.lambdaCallable, hA.findClass, hA.assignable, hA.superclasses, hA.declaredIn] at hcan ⊢
  exact hcan
/-- the site in a body that was entered with warmer tables than the start's: a new object holds what it captures -/
theorem own_site (X : Stand p l e R s m args below meth c T locs cells slots) (hx : p.tables.exec = Jvm.exec) (hH : Z.WarmedH s.vm) {x : MethodName} {pc index fi : Nat} {σ : Lambda.Shape} (hnamed : s.methodNamed? x = some m)
    (hsite : (Jvm.Cond.lambdaSite x pc index σ).before a0 Z = true) (hcap : σ.captured ≠ []) (hok : Jvm.LamKit.capOK σ x.cls fi 0 = true) (hO : (Jvm.Cond.instantiable "java/lang/Object" 0).before a0 Z = true)
    {g : JFrame} (hg : g.method = m) (hpc : g.pc = pc) (hsize : g.locals.size = c.maxLocals) (hdg : decode c.code g.pc = .ok (.invokedynamic index, 5))
    {vals rest : List Value} (hlen : vals.length = σ.captured.length) (hstack : g.stack = vals.reverse ++ rest) (hfit : ∀ (i : Nat) t v, σ.captured[i]? = some t → vals[i]? = some v → narrow t v = v ∧ fits t v = true)
    (hwords : 2 * g.monitorRoom + (g.stack.map fun v => v.category).sum + 3072 ≤ R.locals) (hcells : cells + 1 ≤ R.cells) (hslots : slots + vals.length ≤ R.slots) :
    ∃ cK : ClassId, Jvm.LamKit.Made Z x.cls σ cK ∧ Stand p l e R s m args below meth c (T.pushCell { cls := cK, slots := vals.toArray, vm := .none }) locs (cells + 1) (slots + vals.length) ∧
      ∀ target, Steps p.tables e below ((T.pushCell { cls := cK, slots := vals.toArray, vm := .none }).setTop { g with pc := g.pc + 5, stack := .ref T.heap.size :: rest }) target → Steps p.tables e below (T.setTop g) target := by
  obtain ⟨cK, one, hat0⟩ := Jvm.Cond.lambdaSite_spec hsite
  obtain ⟨mE, kE, cfE, i0, p0, lk, hmE, hkE, hcfE, hsh, -, hfindE, hmadeE, hcanE, hl⟩ := State.lambdaAt?_spec hat0
  obtain ⟨kE', hkE', hnameE⟩ := className_of_methodNamed hmE
  cases hkE.symm.trans hkE'
  have hmD : s.methodNamed? x = some mE := (State.methodNamed?_setVm (s := Z) hH.alike x).trans hmE
  cases hnamed.symm.trans hmD
  obtain ⟨kD, hkD2, he⟩ := hH.alike.2.2 _ _ hkE
  have hcfD : kD.cf = some cfE := by rw [he]; exact hcfE
  have hfind : (kD.callSites.find? fun y => y.1 == m.idx && y.2.1 == pc) = some (i0, p0, lk) := by rw [he]; exact hfindE
  have hnameD : kD.name = x.cls := by rw [he]; exact hnameE
  have hmade := Lambda.isMade_warmer hH hmadeE
  rcases hl with ⟨a, cell, -, -, hc0, -⟩ | ⟨rfl, -, -⟩
  · exact absurd hc0 hcap
  · obtain ⟨b, nt, desc, site, h1, h2, h3, h4⟩ := Jvm.Lambda.shapeOf?_site hsh
    obtain ⟨kc, f, hkc, hkind, hty, -⟩ := Jvm.LamKit.made_cap hok hkD2 hnameD hmade (Jvm.LamKit.noFields hO hH)
    have hz : ((kc.instanceTypes.toList.zip vals).map fun (t, v) => narrow t v) = vals := by rw [hty]; exact Jvm.LamKit.zip_narrow _ _ hlen fun i t v a b => (hfit i t v a b).1
    have hw : e.platform.lambdaLinkWords = 3072 := by rw [X.admits.platform]
    have q := X.lambdaMakes hx hg hsize hdg (vals := vals) (rest := rest) hkD2 (by rw [hpc]; exact hfind) hcfD h1 h2 (parseLong_of_parse h3) (by rw [h4]; exact hlen) hstack hkc (by rw [hw]; exact hwords) hcells (by rw [hz]; exact hslots)
      (fun i v hv => by
        rw [hz] at hv
        have hv' : vals[i]? = some v := by simpa using hv
        have hi : i < σ.captured.length := by rw [← hlen]; exact (List.getElem?_eq_some_iff.mp hv').1
        have := (hfit i _ v (List.getElem?_eq_getElem hi) hv').2
        simp [State.fitsSlot, State.slotType?, hkc, hkind, hty, List.getElem?_eq_getElem hi, this])
    rw [hz] at q
    exact ⟨cK, ⟨_, kE, hkE, hnameE, hmadeE, hcanE⟩, by simpa using q.1, q.2⟩
abbrev own_xi : MethodName := ⟨"com/example/halyard/halyard/engine/Code", "run", "(Lcom/example/halyard/halyard/engine/Frame;)Ljava/lang/Object;"⟩
abbrev own_y : MethodName := ⟨own_K, "lambda$operand$0", "(IILcom/example/halyard/halyard/engine/Frame;)Ljava/lang/Object;"⟩
theorem own_ef (mk : MethodId) (a : Addr) : entryFrame mk #[.ref a, .null] 2 = mkF mk 0 #[.val (.ref a), .val .null] [] := by first | (simp [entryFrame, mkF, argsToLocals, Value.category]; done) | rfl
/-- run(null) on the function object: the call, the forwarder's loads, the private method behind it, and back -/
theorem own_lam (X : Stand p l e R s m args below meth c T locs cells slots) (hx : p.tables.exec = Jvm.exec) (hH : Z.WarmedH s.vm) {own : String} {index count : Nat} {bytes : ByteArray} {maxL : Nat} {zz : MethodName}
    (hown : s.vm.findClass own = some m.cls) (w1 : (Jvm.Cond.methodLink own index own_xi).before a0 Z = true) (w2 : (Jvm.Cond.declares own_xi).before a0 Z = true) (w3 : (Jvm.Cond.interfaceMethod own_xi.cls own_xi.cls own_xi.name own_xi.desc).before a0 Z = true)
    (w4 : (Jvm.Cond.instanceMethod own_y).before a0 Z = true) (w5 : (Jvm.Cond.privateMethod own_y).before a0 Z = true) (w6 : (Jvm.Cond.code own_y bytes maxL (some (.object "java/lang/Object"))).before a0 Z = true) (w7 : (Jvm.Cond.initialized own_y.cls).before a0 Z = true)
    (w8 : (Jvm.Cond.selects own_K zz zz).before a0 Z = true) (hzz : zz.cls = own_K) (wO : (Jvm.Cond.instantiable "java/lang/Object" 0).before a0 Z = true)
    {cK : ClassId} (hmd : Jvm.LamKit.Made Z own_K own_sh cK) {a s1 : Addr} {d i : Int32} (eT : T.heap = h) (hcell : h[a]? = some { cls := cK, slots := #[.ref s1, .int d, .int i], vm := .none }) {cellB : Cell} (hcB : h[s1]? = some cellB) (hobB : ∀ q, cellB.vm ≠ .statics q)
    {w : Value} (hw : w.isRef = true) {rm : Room} (hM : own_M l Z own_y bytes maxL (some (.object "java/lang/Object")) rm #[.ref s1, .int d, .int i, .null] h (fun v h' L => v = some w ∧ L = [] ∧ h' = h)) (hr1 : rm.cells = 0) (hr2 : rm.slots = 0)
    {g : JFrame} (hg : g.method = m) (hsize : g.locals.size = c.maxLocals) {rest : List Value} (hstack : g.stack = .null :: .ref a :: rest) (hdg : decode c.code g.pc = .ok (.invokeinterface index count, 5))
    (hfr : rm.frames + 2 ≤ R.frames) (hlo : 2 * g.monitorRoom + (rest.map fun v => v.category).sum + (2 + 11) + ((maxL + 11) + rm.locals) ≤ R.locals) (hcl : cells ≤ R.cells) (hsl : slots ≤ R.slots) :
    ∃ T' : State, Stand p l e R s m args below meth c T' locs cells slots ∧ T'.heap = h ∧ ∀ target, Steps p.tables e below (T'.setTop { g with pc := g.pc + 5, stack := w :: rest }) target → Steps p.tables e below (T.setTop g) target := by
  have hZ := hH.wide
  have hpoly : own_xi.cls ≠ "java/lang/invoke/MethodHandle" ∧ own_xi.cls ≠ "java/lang/invoke/VarHandle" := by decide
  have hpoly' : own_y.cls ≠ "java/lang/invoke/MethodHandle" ∧ own_y.cls ≠ "java/lang/invoke/VarHandle" := by decide
  have w3s : (Jvm.Cond.interfaceMethod own_xi.cls own_xi.cls own_xi.name own_xi.desc).before args s = true := mvT hZ w3
  have w2s : (Jvm.Cond.declares own_xi).before args s = true := mvT hZ w2
  obtain ⟨kK, methk, hkK, hmk, hpub, habs, hsel⟩ := Jvm.LamKit.madeSelects (own_made hH hmd) own_fok w3s ⟨rfl, rfl, by decide +kernel⟩
  obtain ⟨r0, r, hn, hrm, hstR, hsigR⟩ := Jvm.Cond.declares_spec w2s
  obtain ⟨cL, kL, r1, hcL, hkL, hiL, -, -⟩ := Jvm.Cond.interfaceMethod_spec w3s
  have hr0cls : r0.cls = cL := Option.some.inj ((findClass_of_methodNamed hn).symm.trans hcL)
  obtain ⟨hasg, hsel', hway⟩ := hsel r0 r hn hrm
  have hparX : parseMethodDescriptor own_xi.desc = some ⟨[.object "com/example/halyard/halyard/engine/Frame"], some (.object "java/lang/Object")⟩ := by decide +kernel
  obtain ⟨vm₁, X₁, hstep₁⟩ := X.invokeinterface hx hown (mvT hZ w1) hn hrm hstR (by rw [hr0cls]; exact hkL) hiL hpoly (a := a) (cell := { cls := cK, slots := #[.ref s1, .int d, .int i], vm := .none }) (kcell := kK) (by rw [eT]; exact hcell) (fun z q => by cases q) hkK hasg
    (m' := ⟨cK, 1⟩) (meth' := methk) (by rw [Launch.admits_selectMethod X.admits]; exact hsel') hmk hway hpub habs hg (argsL := [.null]) (rest := rest) (lenOf hparX rfl _ hsigR) hstack hdg
  have hW₁ : Z.WarmedH vm₁ := State.WarmedH.trans hH X₁.warmed
  obtain ⟨d1, dk1, hd1, hdn1, hmade1, -⟩ := own_made (U := T.setVm vm₁) hW₁ hmd
  obtain ⟨kK₁, tk₁, file₁, methk₁, ck₁, toy₁, t₁, nt, hkK₁, hpn₁, hfile₁, hidx₁, hnt₁, hmk₁, hck₁, hbytes₁, hml₁, hlk₁, -, hretk₁, htoy₁, htk₁, hlook₁, hready₁, hclsR₁⟩ := Jvm.LamKit.made_static own_fok hd1 hdn1 hmade1
  -- the target
  obtain ⟨mT, methT, hmT, hmethT, hstT, habT⟩ := Jvm.Cond.instanceMethod_spec w4
  obtain ⟨methT', cT, hmethT', hcT, -, hlocT, -, -, -, hsigT⟩ := Jvm.Cond.code_spec hmT w6
  cases hmethT.symm.trans hmethT'
  have hpriv : methT.isPrivate = true := Jvm.Cond.privateMethod_at w5 mT methT hmT hmethT
  obtain ⟨kT, hkT, hnameT⟩ := className_of_methodNamed hmT
  have hfT : Z.vm.findClass own_y.cls = some mT.cls := findClass_of_methodNamed hmT
  obtain ⟨c2, r2, m2, -, -, q3, -, kP, hkP, hkPi⟩ := Jvm.Cond.selects_spec w8
  have hm2 : m2.cls = mT.cls := by
    have q := findClass_of_methodNamed q3
    rw [hzz] at q
    exact Option.some.inj (q.symm.trans hfT)
  rw [hm2] at hkP
  cases hkT.symm.trans hkP
  have hfT₁ : (T.setVm vm₁).vm.findClass own_sh.implClass = some mT.cls := by
    show vm₁.findClass own_K = some mT.cls
    rw [hW₁.alike.findClass]; exact hfT
  cases htoy₁.symm.trans hfT₁
  have ht₁ : t₁ = mT := by
    have h1 : (Z.setVm vm₁).methodFound? own_y.cls own_y.name own_y.desc = some mT := by rw [State.methodFound?_setVm hW₁.alike]; exact State.methodFound?_of_named hmT hpoly'
    have e3 : own_sh.implDesc.toString = own_y.desc := by decide +kernel
    rw [e3] at hlook₁
    have hf2 : (Z.setVm vm₁).vm.findClass own_y.cls = some mT.cls := hfT₁
    have htk2 : (Z.setVm vm₁).vm.classes[mT.cls]? = some tk₁ := htk₁
    simp only [State.methodFound?, hf2, htk2, Option.bind_eq_bind, Option.bind_some] at h1
    have h2 : ((methodIn mT.cls own_y.name own_y.desc tk₁.isInterface none).ask { classPath := fun _ => none } (Z.setVm vm₁).vm).1 = .ok t₁ := hlook₁
    rw [h2] at h1
    exact Option.some.inj h1
  subst ht₁
  have hmethT₁ : vm₁.method? t₁ = some methT := by rw [hW₁.alike.method?]; exact hmethT
  obtain ⟨kT₁, hkT₁, heT₁⟩ := hW₁.alike.2.2 _ _ hkT
  have htk2 : vm₁.classes[t₁.cls]? = some tk₁ := htk₁
  cases htk2.symm.trans hkT₁
  have hif : tk₁.isInterface = false := by
    have q : tk₁.isInterface = kT.isInterface := by rw [heT₁]; rfl
    rw [q]; exact hkPi
  have hsp : ∀ z : Method, signaturePolymorphic tk₁ z = false := fun z => by
    have hn' : tk₁.name = own_y.cls := by rw [heT₁]; exact hnameT
    have h1 : tk₁.name ≠ "java/lang/invoke/MethodHandle" := by rw [hn']; exact hpoly'.1
    have h2 : tk₁.name ≠ "java/lang/invoke/VarHandle" := by rw [hn']; exact hpoly'.2
    simp [signaturePolymorphic, h1, h2]
  have hpk : (T.setVm vm₁).plainMethod ⟨cK, 1⟩ := State.plainMethod.of_name (fun k' hk' => by cases hkK₁.symm.trans hk'; exact hpn₁)
  obtain ⟨Y₀, hin⟩ := X₁.into (g := { g with stack := rest }) hg hsize hdg #[.ref a, .null] (R' := { frames := rm.frames + 1, cells := 0, slots := 0, locals := (maxL + 11) + rm.locals }) hmk₁ hck₁ hlk₁ hpk hfr (by rw [hml₁]; exact hlo) hcl hsl
  rw [hml₁, own_ef] at Y₀ hin
  generalize hU : ((T.setVm vm₁).setTop { g with stack := rest }).pushFrame (.java (mkF ⟨cK, 1⟩ 0 #[.val (.ref a), .val .null] [])) = U at Y₀ hin
  have hvmU : U.vm = vm₁ := by rw [← hU]; rfl
  have hheapU : U.heap = h := by rw [← hU]; exact eT
  generalize hs' : (T.setVm vm₁).calling { g with stack := rest } ⟨cK, 1⟩ #[.ref a, .null] = s' at Y₀
  have hvm' : s'.vm = vm₁ := by rw [← hs']; rfl
  have hWs' : Z.WarmedH s'.vm := by rw [hvm']; exact hW₁
  have hK := own_backOf (R := { frames := rm.frames + 1, cells := 0, slots := 0, locals := (maxL + 11) + rm.locals }) (p := p) (e := e) (below := .java { g with stack := rest } :: below) (s := s') (args := #[.ref a, .null]) (len := 3) (W := 0) hM hWs' w6 w7 (Nat.le_refl _) (by show 0 + (maxL + 11) + rm.locals ≤ (maxL + 11) + rm.locals; omega)
  have hnamedU : U.methodNamed? own_y = some t₁ := by
    have q : (Z.setVm vm₁).methodNamed? own_y = some t₁ := by rw [State.methodNamed?_setVm hW₁.alike]; exact hmT
    rw [← hU]; exact q
  obtain ⟨v, ⟨U', ls, cc, sl⟩, Y₁, ⟨L, ⟨rfl, rfl, e1⟩, hl, hcc, hss⟩, hsteps⟩ := hK ⟨cK, 1⟩ methk₁ ck₁ ⟨U, [], 0, 0⟩ (mkF ⟨cK, 1⟩ 13 #[.val (.ref a), .val .null] []) (.invokevirtual 30) t₁ #[.ref s1, .int d, .int i, .null] Y₀ rfl (by rw [hml₁]; rfl) (by rw [hbytes₁]; exact own_f13) (Nat.le_refl _) hnamedU
    ⟨rfl, hheapU, by show 0 + rm.cells ≤ 0; omega, by show 0 + rm.slots ≤ 0; omega⟩
  dsimp only [Pt.U, Pt.locs, Pt.cells, Pt.slots] at Y₁ e1 hl hcc hss hsteps
  subst hl; subst hcc; subst hss
  obtain ⟨fs, hleave, -, hended, hWe, hsame⟩ := Y₁.leave (v := some w) (fun q => by rw [hretk₁] at q; cases q) hlk₁
  subst hs'
  obtain ⟨T', X', -, -, ht⟩ := X₁.outOf (g := { g with stack := rest }) hg hdg hended hWe hsame
  have hheap' : T'.heap = h := by
    have q : (U'.setFrames fs).heap = (T'.setTop { g with pc := g.pc + 5, stack := w :: rest }).heap := congrArg State.heap ht
    exact (show T'.heap = U'.heap from q.symm).trans e1
  refine ⟨T', by simpa [hr1, hr2] using X', hheap', fun target k => hstep₁ _ fun acts => ?_⟩
  have hin' := hin acts
  refine Steps.trans ?_ k
  show Steps p.tables e below (doInvoke e ((T.setVm vm₁).setTop { g with stack := rest }) acts ⟨cK, 1⟩ #[.ref a, .null]).1 _
  rw [hin']
  have ht' : U'.setFrames fs = T'.setTop { g with pc := g.pc + 5, stack := w :: rest } := ht
  rw [← ht']
  refine Steps.weaken (mid := [.java { g with stack := rest }]) ?_
  have hWU : Z.WarmedH U.vm := by rw [hvmU]; exact hW₁
  have hcU : U.heap[a]? = some { cls := cK, slots := #[.ref s1, .int d, .int i], vm := .none } := by rw [hheapU]; exact hcell
  show Steps p.tables e (.java { g with stack := rest } :: below) (U.setTop (mkF ⟨cK, 1⟩ 0 #[.val (.ref a), .val .null] [])) _
  refine XS.aloadN Y₀.here hx rfl (hb hbytes₁ own_f0) rfl rfl ?_
  show Steps p.tables e (.java { g with stack := rest } :: below) (U.setTop (mkF ⟨cK, 1⟩ 1 #[.val (.ref a), .val .null] [(.ref a)])) _
  refine Jvm.LamKit.getCap (s := Z) hx Y₀.here hWU hmd own_c0 wO hcU rfl (v := .ref s1) rfl rfl rfl (hb hbytes₁ own_f1) ?_
  show Steps p.tables e (.java { g with stack := rest } :: below) (U.setTop (mkF ⟨cK, 1⟩ 4 #[.val (.ref a), .val .null] [(.ref s1)])) _
  refine XS.aloadN Y₀.here hx rfl (hb hbytes₁ own_f4) rfl rfl ?_
  show Steps p.tables e (.java { g with stack := rest } :: below) (U.setTop (mkF ⟨cK, 1⟩ 5 #[.val (.ref a), .val .null] [(.ref a), (.ref s1)])) _
  refine Jvm.LamKit.getCap (s := Z) hx Y₀.here hWU hmd own_c1 wO hcU rfl (v := .int d) rfl rfl rfl (hb hbytes₁ own_f5) ?_
  show Steps p.tables e (.java { g with stack := rest } :: below) (U.setTop (mkF ⟨cK, 1⟩ 8 #[.val (.ref a), .val .null] [(.int d), (.ref s1)])) _
  refine XS.aloadN Y₀.here hx rfl (hb hbytes₁ own_f8) rfl rfl ?_
  show Steps p.tables e (.java { g with stack := rest } :: below) (U.setTop (mkF ⟨cK, 1⟩ 9 #[.val (.ref a), .val .null] [(.ref a), (.int d), (.ref s1)])) _
  refine Jvm.LamKit.getCap (s := Z) hx Y₀.here hWU hmd own_c2 wO hcU rfl (v := .int i) rfl rfl rfl (hb hbytes₁ own_f9) ?_
  show Steps p.tables e (.java { g with stack := rest } :: below) (U.setTop (mkF ⟨cK, 1⟩ 12 #[.val (.ref a), .val .null] [(.int i), (.int d), (.ref s1)])) _
  refine XS.aloadN Y₀.here hx rfl (hb hbytes₁ own_f12) rfl rfl ?_
  show Steps p.tables e (.java { g with stack := rest } :: below) (U.setTop (mkF ⟨cK, 1⟩ 13 #[.val (.ref a), .val .null] [.null, (.int i), (.int d), (.ref s1)])) _
  have hsU : U.topJava?.isSome := Y₀.here.top
  have hparY : parseMethodDescriptor own_y.desc = some ⟨[.int, .int, .object "com/example/halyard/halyard/engine/Frame"], some (.object "java/lang/Object")⟩ := by decide +kernel
  have hnam : namesAClass U cK 30 := ⟨kK₁, file₁, 26, nt, t₁.cls, tk₁, by rw [hvmU]; exact hkK₁, hfile₁, hidx₁, by rw [hvmU]; exact hclsR₁, by rw [hvmU]; exact htk₁, hif⟩
  have hd13 : decode ck₁.code 13 = .ok (.invokevirtual 30, 3) := by rw [hbytes₁]; exact own_f13
  jvm_step Y₀.here [hx, hd13, invokevirtual.wp_ready (e := e) (s := U) (r := t₁) (m := t₁) (k := tk₁) (mk := tk₁) (rmeth := methT) (meth := methT) (a := s1) (args := [.int d, .int i, .null]) (rest := []) (cell := cellB)
    (f := mkF ⟨cK, 1⟩ 13 #[.val (.ref a), .val .null] [.null, (.int i), (.int d), (.ref s1)]) hsU hnam (by rw [hvmU]; exact hready₁) (by rw [hvmU]; exact htk₁) (by rw [hvmU]; exact hmethT₁) (hsp _) hstT (lenOf hparY rfl _ hsigT) rfl
    (by rw [hheapU]; exact hcB) hobB (by rw [hvmU]; exact selectMethod_private hmethT₁ hpriv) (by rw [hvmU]; exact hmethT₁) habT (by rw [hvmU]; exact htk₁) hif]
  intro acts'
  rw [doInvoke_state]
  refine hsteps.trans ?_
  exact Jvm.RoadKit.retOut Y₁ hx hretk₁ (own_narrow hw) (Or.inr (Or.inr (Or.inr (Or.inr ⟨rfl, rfl, hw⟩)))) (hb hbytes₁ own_f16) hleave
end Lam
end Jvm.Pilot.@@N@@
namespace Jvm.Pilot.@@N@@
open Jvm Jvm.ClassFile Sem Op Lib Jvm.Free Jvm.Stand Jvm.LawKit Jvm.RoadKit Bundle Jvm.Pilot.@@N@@.Jvm.D
section Stk
variable {p : Program} {l : Launch} {e : Env} {R : Room} {s : State} {m : MethodId} {args : Array Value} {below : List Frame} {meth : Method} {c : Code} {T : State} {locs : List Loc} {cells slots : Nat} {Z : State} {a0 : Array Value} {h h' : Heap}
/-- the stack at s1: its array at ar, its size, the array's first four places -/
def own_ST (Z : State) (h : Heap) (s1 ar : Addr) (n : Int32) (v0 v1 v2 v3 : Value) : Prop :=
  Exa Z h s1 own_K ∧ Fld Z h s1 own_K "values" "[Ljava/lang/Object;" (.ref ar) ∧ Fld Z h s1 own_K "size" "I" (.int n) ∧ s1 ≠ ar ∧ ∃ cl : Cell, Arr Z h ar cl (.object "java/lang/Object") ∧ Ovr Z cl.cls "java/lang/Object" ∧ cl.slots.size = 64 ∧ cl.slots[0]? = some v0 ∧ cl.slots[1]? = some v1 ∧ cl.slots[2]? = some v2 ∧ cl.slots[3]? = some v3
theorem own_ST_ext {s1 ar : Addr} {n : Int32} {v0 v1 v2 v3 : Value} (E : Ext h h') (S : own_ST Z h s1 ar n v0 v1 v2 v3) : own_ST Z h' s1 ar n v0 v1 v2 v3 := by
  obtain ⟨h1, h2, h3, h4, cl, h5, r⟩ := S
  exact ⟨h1.ext E, h2.ext E, h3.ext E, h4, cl, h5.ext E, r⟩
theorem own_ST_sto {s1 ar y : Addr} {n : Int32} {v0 v1 v2 v3 : Value} (S : own_ST Z h s1 ar n v0 v1 v2 v3) (I : Ins Z h y "java/lang/Object" true) : Sto Z h ar (.ref y) := by
  obtain ⟨-, -, -, -, cl, A, O, -⟩ := S
  exact Sto.of A O I
theorem own_ST_cell {s1 ar : Addr} {n : Int32} {v0 v1 v2 v3 : Value} (S : own_ST Z h s1 ar n v0 v1 v2 v3) : ∃ cellB : Cell, h[s1]? = some cellB ∧ ∀ q, cellB.vm ≠ .statics q := by
  obtain ⟨⟨cellB, kB, h1, -, -, h4, -⟩, -⟩ := S
  exact ⟨cellB, h1, fun q z => by rw [z] at h4; cases h4⟩
theorem own_hit {cl : Cell} {k : Nat} {v : Value} (hsz : cl.slots.size = 64) (hk : k < 64) : (cl.setSlot k v).slots[k]? = some v := by simp [Cell.setSlot, hsz, hk]
theorem own_miss {cl : Cell} {i k : Nat} {v w : Value} (hw : cl.slots[i]? = some w) (q : i ≠ k) : (cl.setSlot k v).slots[i]? = some w := by
  rw [← hw]
  exact Array.getElem?_setIfInBounds_ne (Ne.symm q)
theorem own_ext_keep {hb : Heap} {ws : List Addr} (E : Ext hb h) (K : Keep h h' ws) (q : ∀ x ∈ ws, hb.size ≤ x) : Ext hb h' := ⟨Nat.le_trans E.1 K.1, fun a c r => K.2.1 a c (E.2 a c r) (fun z => absurd (Array.getElem?_eq_some_iff.mp r).1 (Nat.not_lt.mpr (q a z)))⟩
theorem own_ext_push (h : Heap) (c : Cell) : Ext h (h.push c) := ext_of fun a q => Array.getElem?_push_lt q |>.trans (Array.getElem?_eq_getElem q).symm
theorem own_push_at (h : Heap) (c : Cell) : (h.push c)[h.size]? = some c := by simp
theorem own_fit (s1 : Addr) (d i : Int32) : ∀ (k : Nat) t v, own_sh.captured[k]? = some t → ([.ref s1, .int d, .int i] : List Value)[k]? = some v → narrow t v = v ∧ fits t v = true := by
  intro k t v h1 h2
  match k, h1, h2 with
  | 0, h1, h2 => cases h1; cases h2; exact ⟨rfl, rfl⟩
  | 1, h1, h2 => cases h1; cases h2; exact ⟨rfl, rfl⟩
  | 2, h1, h2 => cases h1; cases h2; exact ⟨rfl, rfl⟩
  | k + 3, h1, h2 => simp [own_sh] at h1
end Stk
end Jvm.Pilot.@@N@@
namespace Jvm.Pilot.@@N@@
open Jvm Jvm.ClassFile Sem Op Lib Jvm.Free Jvm.Stand Jvm.LawKit Jvm.RoadKit Bundle Jvm.Pilot.@@N@@.Jvm.D
def own_B (Z : State) (h : Heap) (ac r0 r1 r2 r3 : Addr) (clc : Cell) : Prop := Sta Z h "java/lang/Integer$IntegerCache" "high" "I" (.int (127 : Int32)) ∧ Sta Z h "java/lang/Integer$IntegerCache" "cache" "[Ljava/lang/Integer;" (.ref ac) ∧ Arr Z h ac clc (.object "java/lang/Integer") ∧ clc.slots.size = 256 ∧ clc.slots[(128 : Int32).toNatClampNeg]? = some (.ref r0) ∧ Exa Z h r0 "java/lang/Integer" ∧ Fld Z h r0 "java/lang/Integer" "value" "I" (.int (0 : Int32)) ∧ clc.slots[(129 : Int32).toNatClampNeg]? = some (.ref r1) ∧ Exa Z h r1 "java/lang/Integer" ∧ Fld Z h r1 "java/lang/Integer" "value" "I" (.int (1 : Int32)) ∧ clc.slots[(130 : Int32).toNatClampNeg]? = some (.ref r2) ∧ Exa Z h r2 "java/lang/Integer" ∧ Fld Z h r2 "java/lang/Integer" "value" "I" (.int (2 : Int32)) ∧ clc.slots[(131 : Int32).toNatClampNeg]? = some (.ref r3) ∧ Exa Z h r3 "java/lang/Integer" ∧ Fld Z h r3 "java/lang/Integer" "value" "I" (.int (3 : Int32))
theorem own_B_ext {Z : State} {h h' : Heap} {ac r0 r1 r2 r3 : Addr} {clc : Cell} (E : Ext h h') (B : own_B Z h ac r0 r1 r2 r3 clc) : own_B Z h' ac r0 r1 r2 r3 clc := by
  obtain ⟨S_h, S_c, A_c, Z_c, V_0, E_0, F_0, V_1, E_1, F_1, V_2, E_2, F_2, V_3, E_3, F_3⟩ := B
  exact ⟨S_h.ext E, S_c.ext E, A_c.ext E, Z_c, V_0, E_0.ext E, F_0.ext E, V_1, E_1.ext E, F_1.ext E, V_2, E_2.ext E, F_2.ext E, V_3, E_3.ext E, F_3.ext E⟩
theorem own_cache {Z : State} {args : Array Value} {ac : Addr} {cl : Cell} (ev : (Jvm.Term.static "java/lang/Integer$IntegerCache" "cache" "[Ljava/lang/Integer;").eval args Z none [] Z = some (.ref ac)) (A : Arr Z Z.heap ac cl (.object "java/lang/Integer")) (hsz : cl.slots.size = 256)
    (w : (Jvm.Cond.all (Jvm.Term.static "java/lang/Integer$IntegerCache" "cache" "[Ljava/lang/Integer;") (.and (.exactly (.elem (Jvm.Term.static "java/lang/Integer$IntegerCache" "cache" "[Ljava/lang/Integer;") (.index 0)) "java/lang/Integer") (.eq (.field (.elem (Jvm.Term.static "java/lang/Integer$IntegerCache" "cache" "[Ljava/lang/Integer;") (.index 0)) "java/lang/Integer" "value" "I") (.sub (.index 0) (.int 128))))).value args Z none Z [] = some true) :
    ∀ i, i < 256 → ∃ r, cl.slots[i]? = some (.ref r) ∧ Exa Z Z.heap r "java/lang/Integer" ∧ Fld Z Z.heap r "java/lang/Integer" "value" "I" (.int (i.toInt32 - 128)) := by
  intro i hi
  have hA : Z.arrayAt? ac = some cl := Arr.fin (Vm.Alike.refl _) A
  obtain ⟨q1, q2⟩ := and_e (Jvm.Cond.all_elim ev hA w i (by rw [hsz]; exact hi))
  obtain ⟨r, er⟩ := exa_v q1
  have ej : (Jvm.Term.index 0).eval args Z none [i] Z = some (.int i.toInt32) := Term.index_eval _
  have hj := (elem_in er (by exact ev) ej A.1).2
  have hi2 : i.toInt32.toNatClampNeg = i := by
    have : i.toInt32.toInt = i := len_toInt (by omega)
    show i.toInt32.toInt.toNat = i
    rw [this]; rfl
  rw [hi2] at hj
  refine ⟨r, hj, exa_at er q1, ?_⟩
  obtain ⟨x, y, e1, e2, k1, k2⟩ := cmp_v (Or.inl q2)
  have e3 : (Jvm.Term.sub (.index 0) (.int 128)).eval args Z none [i] Z = some (.int (i.toInt32 - 128)) := by simp [Term.eval]
  obtain rfl : y = .int (i.toInt32 - 128) := Option.some.inj (e2.symm.trans e3)
  obtain ⟨z, rfl⟩ := k2
  have hz := gotT (Jvm.Cond.eq_ints e1 e2) q2
  rw [fld_at er, hz] at e1
  exact Fld.start e1
theorem own_l4 (z : Int32) (h0 : 0 ≤ z.toInt) (h1 : z.toInt ≤ 3) : z = (0 : Int32) ∨ z = (1 : Int32) ∨ z = (2 : Int32) ∨ z = (3 : Int32) := by
  simp only [← Int32.toInt_inj]
  change z.toInt = 0 ∨ z.toInt = 1 ∨ z.toInt = 2 ∨ z.toInt = 3
  omega
theorem own_l3 (z : Int32) (h0 : 0 ≤ z.toInt) (h1 : z.toInt ≤ 2) : z = (0 : Int32) ∨ z = (1 : Int32) ∨ z = (2 : Int32) := by
  simp only [← Int32.toInt_inj]
  change z.toInt = 0 ∨ z.toInt = 1 ∨ z.toInt = 2
  omega
theorem own_l2 (z : Int32) (h0 : 0 ≤ z.toInt) (h1 : z.toInt ≤ 1) : z = (0 : Int32) ∨ z = (1 : Int32) := by
  simp only [← Int32.toInt_inj]
  change z.toInt = 0 ∨ z.toInt = 1
  omega
theorem own_l1 (z : Int32) (h0 : 0 ≤ z.toInt) (h1 : z.toInt ≤ 0) : z = (0 : Int32) := by
  simp only [← Int32.toInt_inj]
  change z.toInt = 0
  omega
theorem d1_0 : decode prog_114_method_1_code 0 = .ok (.aload_n 0, 1) := by decide +kernel
theorem d1_1 : decode prog_114_method_1_code 1 = .ok (.invokespecial 1, 3) := by decide +kernel
theorem d1_4 : decode prog_114_method_1_code 4 = .ok (.aload_n 0, 1) := by decide +kernel
theorem d1_5 : decode prog_114_method_1_code 5 = .ok (.bipush 64, 2) := by decide +kernel
theorem d1_7 : decode prog_114_method_1_code 7 = .ok (.anewarray 2, 3) := by decide +kernel
theorem d1_10 : decode prog_114_method_1_code 10 = .ok (.putfield 7, 3) := by decide +kernel
theorem d1_13 : decode prog_114_method_1_code 13 = .ok (.return_, 1) := by decide +kernel
theorem pn_1 : plainFor (⟨"com/example/halyard/halyard/engine/OperandStack", "<init>", "()V"⟩ : MethodName) = true := by first | exact plainFor_of_name (by first | (simp [plainName, overriddenIn]; done) | decide +kernel) | decide +kernel
theorem d4_0 : decode prog_114_method_2_code 0 = .ok (.aload_n 0, 1) := by decide +kernel
theorem d4_1 : decode prog_114_method_2_code 1 = .ok (.getfield 13, 3) := by decide +kernel
theorem d4_4 : decode prog_114_method_2_code 4 = .ok (.aload_n 0, 1) := by decide +kernel
theorem d4_5 : decode prog_114_method_2_code 5 = .ok (.getfield 7, 3) := by decide +kernel
theorem d4_8 : decode prog_114_method_2_code 8 = .ok (.arraylength, 1) := by decide +kernel
theorem d4_9 : decode prog_114_method_2_code 9 = .ok (.if_icmp .ne 20, 3) := by decide +kernel
theorem d4_12 : decode prog_114_method_2_code 12 = .ok (.aload_n 0, 1) := by decide +kernel
theorem d4_13 : decode prog_114_method_2_code 13 = .ok (.aload_n 0, 1) := by decide +kernel
theorem d4_14 : decode prog_114_method_2_code 14 = .ok (.getfield 7, 3) := by decide +kernel
theorem d4_17 : decode prog_114_method_2_code 17 = .ok (.aload_n 0, 1) := by decide +kernel
theorem d4_18 : decode prog_114_method_2_code 18 = .ok (.getfield 13, 3) := by decide +kernel
theorem d4_21 : decode prog_114_method_2_code 21 = .ok (.iconst 2, 1) := by decide +kernel
theorem d4_22 : decode prog_114_method_2_code 22 = .ok (.imul, 1) := by decide +kernel
theorem d4_23 : decode prog_114_method_2_code 23 = .ok (.invokestatic 17, 3) := by decide +kernel
theorem d4_26 : decode prog_114_method_2_code 26 = .ok (.putfield 7, 3) := by decide +kernel
theorem d4_29 : decode prog_114_method_2_code 29 = .ok (.aload_n 0, 1) := by decide +kernel
theorem d4_30 : decode prog_114_method_2_code 30 = .ok (.getfield 7, 3) := by decide +kernel
theorem d4_33 : decode prog_114_method_2_code 33 = .ok (.aload_n 0, 1) := by decide +kernel
theorem d4_34 : decode prog_114_method_2_code 34 = .ok (.dup, 1) := by decide +kernel
theorem d4_35 : decode prog_114_method_2_code 35 = .ok (.getfield 13, 3) := by decide +kernel
theorem d4_38 : decode prog_114_method_2_code 38 = .ok (.dup_x1, 1) := by decide +kernel
theorem d4_39 : decode prog_114_method_2_code 39 = .ok (.iconst 1, 1) := by decide +kernel
theorem d4_40 : decode prog_114_method_2_code 40 = .ok (.iadd, 1) := by decide +kernel
theorem d4_41 : decode prog_114_method_2_code 41 = .ok (.putfield 13, 3) := by decide +kernel
theorem d4_44 : decode prog_114_method_2_code 44 = .ok (.aload_n 1, 1) := by decide +kernel
theorem d4_45 : decode prog_114_method_2_code 45 = .ok (.aastore, 1) := by decide +kernel
theorem d4_46 : decode prog_114_method_2_code 46 = .ok (.return_, 1) := by decide +kernel
theorem pn_4 : plainFor (⟨"com/example/halyard/halyard/engine/OperandStack", "push", "(Ljava/lang/Object;)V"⟩ : MethodName) = true := by first | exact plainFor_of_name (by first | (simp [plainName, overriddenIn]; done) | decide +kernel) | decide +kernel
theorem d5_0 : decode prog_114_method_4_code 0 = .ok (.iconst 0, 1) := by decide +kernel
theorem d5_1 : decode prog_114_method_4_code 1 = .ok (.istore_n 2, 1) := by decide +kernel
theorem d5_2 : decode prog_114_method_4_code 2 = .ok (.iload_n 2, 1) := by decide +kernel
theorem d5_3 : decode prog_114_method_4_code 3 = .ok (.iload_n 1, 1) := by decide +kernel
theorem d5_4 : decode prog_114_method_4_code 4 = .ok (.if_icmp .ge 26, 3) := by decide +kernel
theorem d5_7 : decode prog_114_method_4_code 7 = .ok (.aload_n 0, 1) := by decide +kernel
theorem d5_8 : decode prog_114_method_4_code 8 = .ok (.getfield 7, 3) := by decide +kernel
theorem d5_11 : decode prog_114_method_4_code 11 = .ok (.aload_n 0, 1) := by decide +kernel
theorem d5_12 : decode prog_114_method_4_code 12 = .ok (.dup, 1) := by decide +kernel
theorem d5_13 : decode prog_114_method_4_code 13 = .ok (.getfield 13, 3) := by decide +kernel
theorem d5_16 : decode prog_114_method_4_code 16 = .ok (.iconst 1, 1) := by decide +kernel
theorem d5_17 : decode prog_114_method_4_code 17 = .ok (.isub, 1) := by decide +kernel
theorem d5_18 : decode prog_114_method_4_code 18 = .ok (.dup_x1, 1) := by decide +kernel
theorem d5_19 : decode prog_114_method_4_code 19 = .ok (.putfield 13, 3) := by decide +kernel
theorem d5_22 : decode prog_114_method_4_code 22 = .ok (.aconst_null, 1) := by decide +kernel
theorem d5_23 : decode prog_114_method_4_code 23 = .ok (.aastore, 1) := by decide +kernel
theorem d5_24 : decode prog_114_method_4_code 24 = .ok (.iinc 2 1, 3) := by decide +kernel
theorem d5_27 : decode prog_114_method_4_code 27 = .ok (.goto (-25), 3) := by decide +kernel
theorem d5_30 : decode prog_114_method_4_code 30 = .ok (.return_, 1) := by decide +kernel
theorem pn_5 : plainFor (⟨"com/example/halyard/halyard/engine/OperandStack", "drop", "(I)V"⟩ : MethodName) = true := by first | exact plainFor_of_name (by first | (simp [plainName, overriddenIn]; done) | decide +kernel) | decide +kernel
theorem d8_0 : decode prog_114_method_6_code 0 = .ok (.aload_n 0, 1) := by decide +kernel
theorem d8_1 : decode prog_114_method_6_code 1 = .ok (.getfield 7, 3) := by decide +kernel
theorem d8_4 : decode prog_114_method_6_code 4 = .ok (.aload_n 0, 1) := by decide +kernel
theorem d8_5 : decode prog_114_method_6_code 5 = .ok (.getfield 13, 3) := by decide +kernel
theorem d8_8 : decode prog_114_method_6_code 8 = .ok (.iload_n 1, 1) := by decide +kernel
theorem d8_9 : decode prog_114_method_6_code 9 = .ok (.isub, 1) := by decide +kernel
theorem d8_10 : decode prog_114_method_6_code 10 = .ok (.iload_n 2, 1) := by decide +kernel
theorem d8_11 : decode prog_114_method_6_code 11 = .ok (.iadd, 1) := by decide +kernel
theorem d8_12 : decode prog_114_method_6_code 12 = .ok (.aaload, 1) := by decide +kernel
theorem d8_13 : decode prog_114_method_6_code 13 = .ok (.areturn, 1) := by decide +kernel
theorem pn_8 : plainFor (⟨"com/example/halyard/halyard/engine/OperandStack", "lambda$operand$0", "(IILcom/example/halyard/halyard/engine/Frame;)Ljava/lang/Object;"⟩ : MethodName) = true := by first | exact plainFor_of_name (by first | (simp [plainName, overriddenIn]; done) | decide +kernel) | decide +kernel
theorem d7_0 : decode prog_114_method_5_code 0 = .ok (.aload_n 0, 1) := by decide +kernel
theorem d7_1 : decode prog_114_method_5_code 1 = .ok (.iload_n 2, 1) := by decide +kernel
theorem d7_2 : decode prog_114_method_5_code 2 = .ok (.iload_n 1, 1) := by decide +kernel
theorem d7_3 : decode prog_114_method_5_code 3 = .ok (.invokedynamic 27, 5) := by decide +kernel
theorem d7_8 : decode prog_114_method_5_code 8 = .ok (.areturn, 1) := by decide +kernel
theorem pn_7 : plainFor (⟨"com/example/halyard/halyard/engine/OperandStack", "operand", "(II)Lcom/example/halyard/halyard/engine/Code;"⟩ : MethodName) = true := by first | exact plainFor_of_name (by first | (simp [plainName, overriddenIn]; done) | decide +kernel) | decide +kernel
theorem d3_0 : decode jdk_33_method_22_code 0 = .ok (.iload_n 0, 1) := by decide +kernel
theorem d3_1 : decode jdk_33_method_22_code 1 = .ok (.bipush (-128), 2) := by decide +kernel
theorem d3_3 : decode jdk_33_method_22_code 3 = .ok (.if_icmp .lt 20, 3) := by decide +kernel
theorem d3_6 : decode jdk_33_method_22_code 6 = .ok (.iload_n 0, 1) := by decide +kernel
theorem d3_7 : decode jdk_33_method_22_code 7 = .ok (.getstatic 191, 3) := by decide +kernel
theorem d3_10 : decode jdk_33_method_22_code 10 = .ok (.if_icmp .gt 13, 3) := by decide +kernel
theorem d3_13 : decode jdk_33_method_22_code 13 = .ok (.getstatic 195, 3) := by decide +kernel
theorem d3_16 : decode jdk_33_method_22_code 16 = .ok (.iload_n 0, 1) := by decide +kernel
theorem d3_17 : decode jdk_33_method_22_code 17 = .ok (.sipush 128, 3) := by decide +kernel
theorem d3_20 : decode jdk_33_method_22_code 20 = .ok (.iadd, 1) := by decide +kernel
theorem d3_21 : decode jdk_33_method_22_code 21 = .ok (.aaload, 1) := by decide +kernel
theorem d3_22 : decode jdk_33_method_22_code 22 = .ok (.areturn, 1) := by decide +kernel
theorem d3_23 : decode jdk_33_method_22_code 23 = .ok (.new 1, 3) := by decide +kernel
theorem d3_26 : decode jdk_33_method_22_code 26 = .ok (.dup, 1) := by decide +kernel
theorem d3_27 : decode jdk_33_method_22_code 27 = .ok (.iload_n 0, 1) := by decide +kernel
theorem d3_28 : decode jdk_33_method_22_code 28 = .ok (.invokespecial 199, 3) := by decide +kernel
theorem d3_31 : decode jdk_33_method_22_code 31 = .ok (.areturn, 1) := by decide +kernel
theorem pn_3 : plainFor (⟨"java/lang/Integer", "valueOf", "(I)Ljava/lang/Integer;"⟩ : MethodName) = true := by first | exact plainFor_of_name (by first | (simp [plainName, overriddenIn]; done) | decide +kernel) | decide +kernel
theorem d6_0 : decode method_3_code 0 = .ok (.iload_n 1, 1) := by decide +kernel
theorem d6_1 : decode method_3_code 1 = .ok (.iload_n 2, 1) := by decide +kernel
theorem d6_2 : decode method_3_code 2 = .ok (.if_icmp .le 5, 3) := by decide +kernel
theorem d6_5 : decode method_3_code 5 = .ok (.iconst 1, 1) := by decide +kernel
theorem d6_6 : decode method_3_code 6 = .ok (.ireturn, 1) := by decide +kernel
theorem d6_7 : decode method_3_code 7 = .ok (.aload_n 0, 1) := by decide +kernel
theorem d6_8 : decode method_3_code 8 = .ok (.iload_n 1, 1) := by decide +kernel
theorem d6_9 : decode method_3_code 9 = .ok (.iload_n 3, 1) := by decide +kernel
theorem d6_10 : decode method_3_code 10 = .ok (.iconst 1, 1) := by decide +kernel
theorem d6_11 : decode method_3_code 11 = .ok (.iadd, 1) := by decide +kernel
theorem d6_12 : decode method_3_code 12 = .ok (.invokevirtual 31, 3) := by decide +kernel
theorem d6_15 : decode method_3_code 15 = .ok (.aconst_null, 1) := by decide +kernel
theorem d6_16 : decode method_3_code 16 = .ok (.invokeinterface 35 2, 5) := by decide +kernel
theorem d6_21 : decode method_3_code 21 = .ok (.astore 4, 2) := by decide +kernel
theorem d6_23 : decode method_3_code 23 = .ok (.iload_n 1, 1) := by decide +kernel
theorem d6_24 : decode method_3_code 24 = .ok (.iload_n 3, 1) := by decide +kernel
theorem d6_25 : decode method_3_code 25 = .ok (.if_icmp .gt 29, 3) := by decide +kernel
theorem d6_28 : decode method_3_code 28 = .ok (.aload 4, 2) := by decide +kernel
theorem d6_30 : decode method_3_code 30 = .ok (.instanceof 12, 3) := by decide +kernel
theorem d6_33 : decode method_3_code 33 = .ok (.ifCond .eq 19, 3) := by decide +kernel
theorem d6_36 : decode method_3_code 36 = .ok (.aload 4, 2) := by decide +kernel
theorem d6_38 : decode method_3_code 38 = .ok (.checkcast 12, 3) := by decide +kernel
theorem d6_41 : decode method_3_code 41 = .ok (.invokevirtual 41, 3) := by decide +kernel
theorem d6_44 : decode method_3_code 44 = .ok (.iload_n 1, 1) := by decide +kernel
theorem d6_45 : decode method_3_code 45 = .ok (.if_icmp .ne 7, 3) := by decide +kernel
theorem d6_48 : decode method_3_code 48 = .ok (.iconst 1, 1) := by decide +kernel
theorem d6_49 : decode method_3_code 49 = .ok (.goto 4, 3) := by decide +kernel
theorem d6_52 : decode method_3_code 52 = .ok (.iconst 0, 1) := by decide +kernel
theorem d6_53 : decode method_3_code 53 = .ok (.ireturn, 1) := by decide +kernel
theorem d6_54 : decode method_3_code 54 = .ok (.aload 4, 2) := by decide +kernel
theorem d6_56 : decode method_3_code 56 = .ok (.ifnonnull 7, 3) := by decide +kernel
theorem d6_59 : decode method_3_code 59 = .ok (.iconst 1, 1) := by decide +kernel
theorem d6_60 : decode method_3_code 60 = .ok (.goto 4, 3) := by decide +kernel
theorem d6_63 : decode method_3_code 63 = .ok (.iconst 0, 1) := by decide +kernel
theorem d6_64 : decode method_3_code 64 = .ok (.ireturn, 1) := by decide +kernel
theorem pn_6 : plainFor (⟨"com/example/halyard/halyard/engine/OperandStackDropPinLaw", "slot", "(Lcom/example/halyard/halyard/engine/OperandStack;III)Z"⟩ : MethodName) = true := by first | exact plainFor_of_name (by first | (simp [plainName, overriddenIn]; done) | decide +kernel) | decide +kernel
set_option maxRecDepth 65536 in
set_option maxHeartbeats 40000000 in
theorem c_init (l : Launch) (Z : State) (a0 : Array Value) (hw : ∀ d ∈ tables_1, d.before a0 Z = true) (s1 : Addr) (h0 : Heap) (n0 : Nat) (Z0 : n0 ≤ h0.size) (E1 : Exa Z h0 s1 own_K) (F1 : Fld Z h0 s1 own_K "values" "[Ljava/lang/Object;" .null) (F2 : Fld Z h0 s1 own_K "size" "I" (.int (0 : Int32))) (g1 : n0 ≤ s1) :
    own_M l Z (⟨"com/example/halyard/halyard/engine/OperandStack", "<init>", "()V"⟩ : MethodName) prog_114_method_1_code 1 none ⟨1, 1, 64, 16⟩ #[.ref s1] h0 (fun v h L => v = none ∧ Fr n0 L ∧ Keep h0 h [s1] ∧ own_ST Z h s1 h0.size (0 : Int32) .null .null .null .null) := by
  refine own_body pn_1 ?_
  intro p e s m below meth c T0 hx hby hml hlk hown hret hnm hH hnamed X0 e0
  have hZ := hH.wide
  replace hown : s.vm.findClass "com/example/halyard/halyard/engine/OperandStack" = some m.cls := hown
  replace hml : c.maxLocals = 1 := hml
  have N0 := Fr.nil n0
  have ef : entryFrame m #[.ref s1] 1 = (mkF m 0 #[.val (.ref s1)] []) := by first | (simp [entryFrame, mkF, argsToLocals, Value.category]; done) | rfl
  rw [ef]
  refine own_go (fun t k => XS.aloadN X0.here hx rfl (hb hby d1_0) rfl rfl k) ?_
  show own_G p e below _ T0 (mkF m 1 #[.val (.ref s1)] [(.ref s1)])
  obtain ⟨T1, X1, e1, st1⟩ := initO X0 hx hZ hown (hw _ (List.mem_of_getElem? (i := 7) rfl)) (hw _ (List.mem_of_getElem? (i := 8) rfl)) (hw _ (List.mem_of_getElem? (i := 9) rfl)) e0 (g := (mkF m 1 #[.val (.ref s1)] [(.ref s1)])) rfl (by rw [hml]; rfl) rfl (hb hby d1_1) (by decide) (W := 0) (by show 2 * 0 + _ ≤ _; exact Nat.le_of_eq rfl) (by decide)
  refine own_go st1 ?_
  show own_G p e below _ T1 (mkF m 4 #[.val (.ref s1)] [])
  refine own_go (fun t k => XS.aloadN X1.here hx rfl (hb hby d1_4) rfl rfl k) ?_
  show own_G p e below _ T1 (mkF m 5 #[.val (.ref s1)] [(.ref s1)])
  refine own_go (fun t k => XS.bipush X1.here hx rfl (hb hby d1_5) k) ?_
  show own_G p e below _ T1 (mkF m 7 #[.val (.ref s1)] [(.int (64 : Int32)), (.ref s1)])
  obtain ⟨T2, h2, c2, X2, e2, E2, A2, O2, st2⟩ := newR X1 hx hZ hown (hw _ (List.mem_of_getElem? (i := 10) rfl)) (hw _ (List.mem_of_getElem? (i := 11) rfl)) e1 (g := (mkF m 7 #[.val (.ref s1)] [(.int (64 : Int32)), (.ref s1)])) rfl (hb hby d1_7) rfl (by decide) (cap := 64) (by decide) (by decide) (by decide) (by decide)
  refine own_go st2 ?_
  show own_G p e below _ T2 (mkF m 10 #[.val (.ref s1)] [(.ref h0.size), (.ref s1)])
  have ne_s : s1 ≠ h0.size := Nat.ne_of_lt E1.lt
  obtain ⟨T3, h3, X3, e3, W3, st3⟩ := putF X2 hx hZ hown (host := "") (Or.inl (hw _ (List.mem_of_getElem? (i := 12) rfl))) Via.refl e2 (F1.ext E2) (E1.ext E2) (Or.inl (hw _ (List.mem_of_getElem? (i := 13) rfl))) (hw _ (List.mem_of_getElem? (i := 2) rfl)) (ty := .array (.object "java/lang/Object")) (by decide +kernel) rfl rfl (g := (mkF m 10 #[.val (.ref s1)] [(.ref h0.size), (.ref s1)])) rfl rfl (hb hby d1_10)
  have N3 := Fr.snoc X3 N0 g1
  have K3 := ((Keep.refl h0 [s1]).ext E2).wr W3 (Or.inl (by simp))
  have S3 : own_ST Z h3 s1 h0.size (0 : Int32) .null .null .null .null := ⟨(E1.ext E2).wr W3, (F1.ext E2).same W3, (F2.ext E2).other W3 (Or.inr (slot_ne (Or.inl (hw _ (List.mem_of_getElem? (i := 27) rfl))) (Or.inl (hw _ (List.mem_of_getElem? (i := 13) rfl))) (by decide) (t := .int) (t' := .array (.object "java/lang/Object")) (by decide +kernel) (by decide +kernel))), ne_s, _, A2.other W3 (Ne.symm ne_s), O2, sz_new _ _ _, get_new (k := 0) (by decide), get_new (k := 1) (by decide), get_new (k := 2) (by decide), get_new (k := 3) (by decide)⟩
  refine own_go st3 ?_
  show own_G p e below _ T3 (mkF m 13 #[.val (.ref s1)] [])
  exact own_ret0 X3 hx hlk hret (hb hby d1_13) (by decide) (by decide) ⟨rfl, N3, (by rw [e3]; exact K3), (by rw [e3]; exact S3)⟩
set_option maxRecDepth 65536 in
set_option maxHeartbeats 40000000 in
theorem c_push_0A (l : Launch) (Z : State) (a0 : Array Value) (hw : ∀ d ∈ tables_1, d.before a0 Z = true) (s1 ar : Addr) (b1 : Addr) (v0 v1 v2 v3 : Value) (h0 : Heap) (n0 : Nat) (Z0 : n0 ≤ h0.size) (S : own_ST Z h0 s1 ar (0 : Int32) v0 v1 v2 v3) (hsto : Sto Z h0 ar (.ref b1)) (g1 : n0 ≤ s1) (g2 : n0 ≤ ar) :
    own_M l Z (⟨"com/example/halyard/halyard/engine/OperandStack", "push", "(Ljava/lang/Object;)V"⟩ : MethodName) prog_114_method_2_code 2 none ⟨0, 0, 0, 0⟩ #[.ref s1, (.ref b1)] h0 (fun v h L => v = none ∧ Fr n0 L ∧ Keep h0 h [s1, ar] ∧ own_ST Z h s1 ar (1 : Int32) (.ref b1) v1 v2 v3) := by
  refine own_body pn_4 ?_
  intro p e s m below meth c T0 hx hby hml hlk hown hret hnm hH hnamed X0 e0
  have hZ := hH.wide
  replace hown : s.vm.findClass "com/example/halyard/halyard/engine/OperandStack" = some m.cls := hown
  replace hml : c.maxLocals = 2 := hml
  obtain ⟨E_s, F_v, F_s, ne_s, cl, A_r, O_v, hsz, t0, t1, t2, t3⟩ := id S
  have N0 := Fr.nil n0
  have ef : entryFrame m #[.ref s1, (.ref b1)] 2 = (mkF m 0 #[.val (.ref s1), .val (.ref b1)] []) := by first | (simp [entryFrame, mkF, argsToLocals, Value.category]; done) | rfl
  rw [ef]
  refine own_go (fun t k => XS.aloadN X0.here hx rfl (hb hby d4_0) rfl rfl k) ?_
  show own_G p e below _ T0 (mkF m 1 #[.val (.ref s1), .val (.ref b1)] [(.ref s1)])
  obtain ⟨T1, X1, e1, st1⟩ := getF X0 hx hZ hown (host := "") (Or.inl (hw _ (List.mem_of_getElem? (i := 26) rfl))) Via.refl e0 F_s (g := (mkF m 1 #[.val (.ref s1), .val (.ref b1)] [(.ref s1)])) rfl rfl (hb hby d4_1)
  refine own_go st1 ?_
  show own_G p e below _ T1 (mkF m 4 #[.val (.ref s1), .val (.ref b1)] [(.int (0 : Int32))])
  refine own_go (fun t k => XS.aloadN X1.here hx rfl (hb hby d4_4) rfl rfl k) ?_
  show own_G p e below _ T1 (mkF m 5 #[.val (.ref s1), .val (.ref b1)] [(.ref s1), (.int (0 : Int32))])
  obtain ⟨T2, X2, e2, st2⟩ := getF X1 hx hZ hown (host := "") (Or.inl (hw _ (List.mem_of_getElem? (i := 12) rfl))) Via.refl e1 F_v (g := (mkF m 5 #[.val (.ref s1), .val (.ref b1)] [(.ref s1), (.int (0 : Int32))])) rfl rfl (hb hby d4_5)
  refine own_go st2 ?_
  show own_G p e below _ T2 (mkF m 8 #[.val (.ref s1), .val (.ref b1)] [(.ref ar), (.int (0 : Int32))])
  refine own_go (X2.arraylength hx (own_cellAt e2 A_r) (State.isArrayOf_alike hZ.alike A_r.2.1) (g := (mkF m 8 #[.val (.ref s1), .val (.ref b1)] [(.ref ar), (.int (0 : Int32))])) rfl rfl (hb hby d4_8)) ?_
  rw [hsz]
  show own_G p e below _ T2 (mkF m 9 #[.val (.ref s1), .val (.ref b1)] [(.int (64 : Int32)), (.int (0 : Int32))])
  refine own_go (fun t k => XS.icmpYes X2.here hx rfl (pc0 := 9) (pc' := 29) rfl (hb hby d4_9) rfl (by decide) (by decide) (by decide) k) ?_
  show own_G p e below _ T2 (mkF m 29 #[.val (.ref s1), .val (.ref b1)] [])
  refine own_go (fun t k => XS.aloadN X2.here hx rfl (hb hby d4_29) rfl rfl k) ?_
  show own_G p e below _ T2 (mkF m 30 #[.val (.ref s1), .val (.ref b1)] [(.ref s1)])
  obtain ⟨T3, X3, e3, st3⟩ := getF X2 hx hZ hown (host := "") (Or.inl (hw _ (List.mem_of_getElem? (i := 12) rfl))) Via.refl e2 F_v (g := (mkF m 30 #[.val (.ref s1), .val (.ref b1)] [(.ref s1)])) rfl rfl (hb hby d4_30)
  refine own_go st3 ?_
  show own_G p e below _ T3 (mkF m 33 #[.val (.ref s1), .val (.ref b1)] [(.ref ar)])
  refine own_go (fun t k => XS.aloadN X3.here hx rfl (hb hby d4_33) rfl rfl k) ?_
  show own_G p e below _ T3 (mkF m 34 #[.val (.ref s1), .val (.ref b1)] [(.ref s1), (.ref ar)])
  refine own_go (fun t k => XS.dup X3.here hx rfl (hb hby d4_34) rfl rfl k) ?_
  show own_G p e below _ T3 (mkF m 35 #[.val (.ref s1), .val (.ref b1)] [(.ref s1), (.ref s1), (.ref ar)])
  obtain ⟨T4, X4, e4, st4⟩ := getF X3 hx hZ hown (host := "") (Or.inl (hw _ (List.mem_of_getElem? (i := 26) rfl))) Via.refl e3 F_s (g := (mkF m 35 #[.val (.ref s1), .val (.ref b1)] [(.ref s1), (.ref s1), (.ref ar)])) rfl rfl (hb hby d4_35)
  refine own_go st4 ?_
  show own_G p e below _ T4 (mkF m 38 #[.val (.ref s1), .val (.ref b1)] [(.int (0 : Int32)), (.ref s1), (.ref ar)])
  refine own_go (fun t k => XT.dupX1 X4.here hx rfl (hb hby d4_38) rfl rfl rfl k) ?_
  show own_G p e below _ T4 (mkF m 39 #[.val (.ref s1), .val (.ref b1)] [(.int (0 : Int32)), (.ref s1), (.int (0 : Int32)), (.ref ar)])
  refine own_go (fun t k => XS.iconst X4.here hx rfl (hb hby d4_39) k) ?_
  show own_G p e below _ T4 (mkF m 40 #[.val (.ref s1), .val (.ref b1)] [(.int (1 : Int32)), (.int (0 : Int32)), (.ref s1), (.int (0 : Int32)), (.ref ar)])
  refine own_go (fun t k => XS.iadd X4.here hx rfl (hb hby d4_40) rfl k) ?_
  show own_G p e below _ T4 (mkF m 41 #[.val (.ref s1), .val (.ref b1)] [(.int (1 : Int32)), (.ref s1), (.int (0 : Int32)), (.ref ar)])
  obtain ⟨T5, h5, X5, e5, W5, st5⟩ := putF X4 hx hZ hown (host := "") (Or.inl (hw _ (List.mem_of_getElem? (i := 26) rfl))) Via.refl e4 F_s E_s (Or.inl (hw _ (List.mem_of_getElem? (i := 27) rfl))) (hw _ (List.mem_of_getElem? (i := 2) rfl)) (ty := .int) (by decide) rfl rfl (g := (mkF m 41 #[.val (.ref s1), .val (.ref b1)] [(.int (1 : Int32)), (.ref s1), (.int (0 : Int32)), (.ref ar)])) rfl rfl (hb hby d4_41)
  have Fs5 := F_s.same W5
  have Fv5 := F_v.other W5 (Or.inr (slot_ne (Or.inl (hw _ (List.mem_of_getElem? (i := 13) rfl))) (Or.inl (hw _ (List.mem_of_getElem? (i := 27) rfl))) (by decide) (t := .array (.object "java/lang/Object")) (t' := .int) (by decide +kernel) (by decide +kernel)))
  have E5 := E_s.wr W5
  have A5 := A_r.other W5 (Ne.symm ne_s)
  have N5 := Fr.snoc X5 N0 g1
  have K5 := (Keep.refl h0 [s1, ar]).wr W5 (Or.inl (by simp))
  have Q5 := hsto.wr W5
  refine own_go st5 ?_
  show own_G p e below _ T5 (mkF m 44 #[.val (.ref s1), .val (.ref b1)] [(.int (0 : Int32)), (.ref ar)])
  refine own_go (fun t k => XS.aloadN X5.here hx rfl (hb hby d4_44) rfl rfl k) ?_
  show own_G p e below _ T5 (mkF m 45 #[.val (.ref s1), .val (.ref b1)] [(.ref b1), (.int (0 : Int32)), (.ref ar)])
  obtain ⟨T6, h6, X6, e6, W6, st6⟩ := stR X5 hx hZ e5 A5 (j := (0 : Int32)) (own_in hsz (by decide)) rfl Q5 (g := (mkF m 45 #[.val (.ref s1), .val (.ref b1)] [(.ref b1), (.int (0 : Int32)), (.ref ar)])) rfl rfl (hb hby d4_45)
  have A6 : Arr Z h6 ar (cl.setSlot 0 (.ref b1)) (.object "java/lang/Object") := A5.same W6
  have z6 : (cl.setSlot 0 (.ref b1)).slots.size = 64 := (sz_set _ _ _).trans hsz
  have u6_0 : (cl.setSlot 0 (.ref b1)).slots[0]? = some (.ref b1) := own_hit hsz (by decide)
  have u6_1 : (cl.setSlot 0 (.ref b1)).slots[1]? = some v1 := own_miss t1 (by decide)
  have u6_2 : (cl.setSlot 0 (.ref b1)).slots[2]? = some v2 := own_miss t2 (by decide)
  have u6_3 : (cl.setSlot 0 (.ref b1)).slots[3]? = some v3 := own_miss t3 (by decide)
  have Fs6 := Fs5.other W6 (Or.inl ne_s)
  have Fv6 := Fv5.other W6 (Or.inl ne_s)
  have E6 := E5.wr W6
  have N6 := Fr.snoc X6 N5 g2
  have K6 := K5.wr W6 (Or.inl (by simp))
  refine own_go st6 ?_
  show own_G p e below _ T6 (mkF m 46 #[.val (.ref s1), .val (.ref b1)] [])
  exact own_ret0 X6 hx hlk hret (hb hby d4_46) (by decide) (by decide) ⟨rfl, N6, (by rw [e6]; exact K6), (by rw [e6]; exact ⟨E6, Fv6, Fs6, ne_s, _, A6, O_v, z6, u6_0, u6_1, u6_2, u6_3⟩)⟩
set_option maxRecDepth 65536 in
set_option maxHeartbeats 40000000 in
theorem c_push_1A (l : Launch) (Z : State) (a0 : Array Value) (hw : ∀ d ∈ tables_1, d.before a0 Z = true) (s1 ar : Addr) (b1 : Addr) (v0 v1 v2 v3 : Value) (h0 : Heap) (n0 : Nat) (Z0 : n0 ≤ h0.size) (S : own_ST Z h0 s1 ar (1 : Int32) v0 v1 v2 v3) (hsto : Sto Z h0 ar (.ref b1)) (g1 : n0 ≤ s1) (g2 : n0 ≤ ar) :
    own_M l Z (⟨"com/example/halyard/halyard/engine/OperandStack", "push", "(Ljava/lang/Object;)V"⟩ : MethodName) prog_114_method_2_code 2 none ⟨0, 0, 0, 0⟩ #[.ref s1, (.ref b1)] h0 (fun v h L => v = none ∧ Fr n0 L ∧ Keep h0 h [s1, ar] ∧ own_ST Z h s1 ar (2 : Int32) v0 (.ref b1) v2 v3) := by
  refine own_body pn_4 ?_
  intro p e s m below meth c T0 hx hby hml hlk hown hret hnm hH hnamed X0 e0
  have hZ := hH.wide
  replace hown : s.vm.findClass "com/example/halyard/halyard/engine/OperandStack" = some m.cls := hown
  replace hml : c.maxLocals = 2 := hml
  obtain ⟨E_s, F_v, F_s, ne_s, cl, A_r, O_v, hsz, t0, t1, t2, t3⟩ := id S
  have N0 := Fr.nil n0
  have ef : entryFrame m #[.ref s1, (.ref b1)] 2 = (mkF m 0 #[.val (.ref s1), .val (.ref b1)] []) := by first | (simp [entryFrame, mkF, argsToLocals, Value.category]; done) | rfl
  rw [ef]
  refine own_go (fun t k => XS.aloadN X0.here hx rfl (hb hby d4_0) rfl rfl k) ?_
  show own_G p e below _ T0 (mkF m 1 #[.val (.ref s1), .val (.ref b1)] [(.ref s1)])
  obtain ⟨T1, X1, e1, st1⟩ := getF X0 hx hZ hown (host := "") (Or.inl (hw _ (List.mem_of_getElem? (i := 26) rfl))) Via.refl e0 F_s (g := (mkF m 1 #[.val (.ref s1), .val (.ref b1)] [(.ref s1)])) rfl rfl (hb hby d4_1)
  refine own_go st1 ?_
  show own_G p e below _ T1 (mkF m 4 #[.val (.ref s1), .val (.ref b1)] [(.int (1 : Int32))])
  refine own_go (fun t k => XS.aloadN X1.here hx rfl (hb hby d4_4) rfl rfl k) ?_
  show own_G p e below _ T1 (mkF m 5 #[.val (.ref s1), .val (.ref b1)] [(.ref s1), (.int (1 : Int32))])
  obtain ⟨T2, X2, e2, st2⟩ := getF X1 hx hZ hown (host := "") (Or.inl (hw _ (List.mem_of_getElem? (i := 12) rfl))) Via.refl e1 F_v (g := (mkF m 5 #[.val (.ref s1), .val (.ref b1)] [(.ref s1), (.int (1 : Int32))])) rfl rfl (hb hby d4_5)
  refine own_go st2 ?_
  show own_G p e below _ T2 (mkF m 8 #[.val (.ref s1), .val (.ref b1)] [(.ref ar), (.int (1 : Int32))])
  refine own_go (X2.arraylength hx (own_cellAt e2 A_r) (State.isArrayOf_alike hZ.alike A_r.2.1) (g := (mkF m 8 #[.val (.ref s1), .val (.ref b1)] [(.ref ar), (.int (1 : Int32))])) rfl rfl (hb hby d4_8)) ?_
  rw [hsz]
  show own_G p e below _ T2 (mkF m 9 #[.val (.ref s1), .val (.ref b1)] [(.int (64 : Int32)), (.int (1 : Int32))])
  refine own_go (fun t k => XS.icmpYes X2.here hx rfl (pc0 := 9) (pc' := 29) rfl (hb hby d4_9) rfl (by decide) (by decide) (by decide) k) ?_
  show own_G p e below _ T2 (mkF m 29 #[.val (.ref s1), .val (.ref b1)] [])
  refine own_go (fun t k => XS.aloadN X2.here hx rfl (hb hby d4_29) rfl rfl k) ?_
  show own_G p e below _ T2 (mkF m 30 #[.val (.ref s1), .val (.ref b1)] [(.ref s1)])
  obtain ⟨T3, X3, e3, st3⟩ := getF X2 hx hZ hown (host := "") (Or.inl (hw _ (List.mem_of_getElem? (i := 12) rfl))) Via.refl e2 F_v (g := (mkF m 30 #[.val (.ref s1), .val (.ref b1)] [(.ref s1)])) rfl rfl (hb hby d4_30)
  refine own_go st3 ?_
  show own_G p e below _ T3 (mkF m 33 #[.val (.ref s1), .val (.ref b1)] [(.ref ar)])
  refine own_go (fun t k => XS.aloadN X3.here hx rfl (hb hby d4_33) rfl rfl k) ?_
  show own_G p e below _ T3 (mkF m 34 #[.val (.ref s1), .val (.ref b1)] [(.ref s1), (.ref ar)])
  refine own_go (fun t k => XS.dup X3.here hx rfl (hb hby d4_34) rfl rfl k) ?_
  show own_G p e below _ T3 (mkF m 35 #[.val (.ref s1), .val (.ref b1)] [(.ref s1), (.ref s1), (.ref ar)])
  obtain ⟨T4, X4, e4, st4⟩ := getF X3 hx hZ hown (host := "") (Or.inl (hw _ (List.mem_of_getElem? (i := 26) rfl))) Via.refl e3 F_s (g := (mkF m 35 #[.val (.ref s1), .val (.ref b1)] [(.ref s1), (.ref s1), (.ref ar)])) rfl rfl (hb hby d4_35)
  refine own_go st4 ?_
  show own_G p e below _ T4 (mkF m 38 #[.val (.ref s1), .val (.ref b1)] [(.int (1 : Int32)), (.ref s1), (.ref ar)])
  refine own_go (fun t k => XT.dupX1 X4.here hx rfl (hb hby d4_38) rfl rfl rfl k) ?_
  show own_G p e below _ T4 (mkF m 39 #[.val (.ref s1), .val (.ref b1)] [(.int (1 : Int32)), (.ref s1), (.int (1 : Int32)), (.ref ar)])
  refine own_go (fun t k => XS.iconst X4.here hx rfl (hb hby d4_39) k) ?_
  show own_G p e below _ T4 (mkF m 40 #[.val (.ref s1), .val (.ref b1)] [(.int (1 : Int32)), (.int (1 : Int32)), (.ref s1), (.int (1 : Int32)), (.ref ar)])
  refine own_go (fun t k => XS.iadd X4.here hx rfl (hb hby d4_40) rfl k) ?_
  show own_G p e below _ T4 (mkF m 41 #[.val (.ref s1), .val (.ref b1)] [(.int (2 : Int32)), (.ref s1), (.int (1 : Int32)), (.ref ar)])
  obtain ⟨T5, h5, X5, e5, W5, st5⟩ := putF X4 hx hZ hown (host := "") (Or.inl (hw _ (List.mem_of_getElem? (i := 26) rfl))) Via.refl e4 F_s E_s (Or.inl (hw _ (List.mem_of_getElem? (i := 27) rfl))) (hw _ (List.mem_of_getElem? (i := 2) rfl)) (ty := .int) (by decide) rfl rfl (g := (mkF m 41 #[.val (.ref s1), .val (.ref b1)] [(.int (2 : Int32)), (.ref s1), (.int (1 : Int32)), (.ref ar)])) rfl rfl (hb hby d4_41)
  have Fs5 := F_s.same W5
  have Fv5 := F_v.other W5 (Or.inr (slot_ne (Or.inl (hw _ (List.mem_of_getElem? (i := 13) rfl))) (Or.inl (hw _ (List.mem_of_getElem? (i := 27) rfl))) (by decide) (t := .array (.object "java/lang/Object")) (t' := .int) (by decide +kernel) (by decide +kernel)))
  have E5 := E_s.wr W5
  have A5 := A_r.other W5 (Ne.symm ne_s)
  have N5 := Fr.snoc X5 N0 g1
  have K5 := (Keep.refl h0 [s1, ar]).wr W5 (Or.inl (by simp))
  have Q5 := hsto.wr W5
  refine own_go st5 ?_
  show own_G p e below _ T5 (mkF m 44 #[.val (.ref s1), .val (.ref b1)] [(.int (1 : Int32)), (.ref ar)])
  refine own_go (fun t k => XS.aloadN X5.here hx rfl (hb hby d4_44) rfl rfl k) ?_
  show own_G p e below _ T5 (mkF m 45 #[.val (.ref s1), .val (.ref b1)] [(.ref b1), (.int (1 : Int32)), (.ref ar)])
  obtain ⟨T6, h6, X6, e6, W6, st6⟩ := stR X5 hx hZ e5 A5 (j := (1 : Int32)) (own_in hsz (by decide)) rfl Q5 (g := (mkF m 45 #[.val (.ref s1), .val (.ref b1)] [(.ref b1), (.int (1 : Int32)), (.ref ar)])) rfl rfl (hb hby d4_45)
  have A6 : Arr Z h6 ar (cl.setSlot 1 (.ref b1)) (.object "java/lang/Object") := A5.same W6
  have z6 : (cl.setSlot 1 (.ref b1)).slots.size = 64 := (sz_set _ _ _).trans hsz
  have u6_0 : (cl.setSlot 1 (.ref b1)).slots[0]? = some v0 := own_miss t0 (by decide)
  have u6_1 : (cl.setSlot 1 (.ref b1)).slots[1]? = some (.ref b1) := own_hit hsz (by decide)
  have u6_2 : (cl.setSlot 1 (.ref b1)).slots[2]? = some v2 := own_miss t2 (by decide)
  have u6_3 : (cl.setSlot 1 (.ref b1)).slots[3]? = some v3 := own_miss t3 (by decide)
  have Fs6 := Fs5.other W6 (Or.inl ne_s)
  have Fv6 := Fv5.other W6 (Or.inl ne_s)
  have E6 := E5.wr W6
  have N6 := Fr.snoc X6 N5 g2
  have K6 := K5.wr W6 (Or.inl (by simp))
  refine own_go st6 ?_
  show own_G p e below _ T6 (mkF m 46 #[.val (.ref s1), .val (.ref b1)] [])
  exact own_ret0 X6 hx hlk hret (hb hby d4_46) (by decide) (by decide) ⟨rfl, N6, (by rw [e6]; exact K6), (by rw [e6]; exact ⟨E6, Fv6, Fs6, ne_s, _, A6, O_v, z6, u6_0, u6_1, u6_2, u6_3⟩)⟩
set_option maxRecDepth 65536 in
set_option maxHeartbeats 40000000 in
theorem c_push_2A (l : Launch) (Z : State) (a0 : Array Value) (hw : ∀ d ∈ tables_1, d.before a0 Z = true) (s1 ar : Addr) (b1 : Addr) (v0 v1 v2 v3 : Value) (h0 : Heap) (n0 : Nat) (Z0 : n0 ≤ h0.size) (S : own_ST Z h0 s1 ar (2 : Int32) v0 v1 v2 v3) (hsto : Sto Z h0 ar (.ref b1)) (g1 : n0 ≤ s1) (g2 : n0 ≤ ar) :
    own_M l Z (⟨"com/example/halyard/halyard/engine/OperandStack", "push", "(Ljava/lang/Object;)V"⟩ : MethodName) prog_114_method_2_code 2 none ⟨0, 0, 0, 0⟩ #[.ref s1, (.ref b1)] h0 (fun v h L => v = none ∧ Fr n0 L ∧ Keep h0 h [s1, ar] ∧ own_ST Z h s1 ar (3 : Int32) v0 v1 (.ref b1) v3) := by
  refine own_body pn_4 ?_
  intro p e s m below meth c T0 hx hby hml hlk hown hret hnm hH hnamed X0 e0
  have hZ := hH.wide
  replace hown : s.vm.findClass "com/example/halyard/halyard/engine/OperandStack" = some m.cls := hown
  replace hml : c.maxLocals = 2 := hml
  obtain ⟨E_s, F_v, F_s, ne_s, cl, A_r, O_v, hsz, t0, t1, t2, t3⟩ := id S
  have N0 := Fr.nil n0
  have ef : entryFrame m #[.ref s1, (.ref b1)] 2 = (mkF m 0 #[.val (.ref s1), .val (.ref b1)] []) := by first | (simp [entryFrame, mkF, argsToLocals, Value.category]; done) | rfl
  rw [ef]
  refine own_go (fun t k => XS.aloadN X0.here hx rfl (hb hby d4_0) rfl rfl k) ?_
  show own_G p e below _ T0 (mkF m 1 #[.val (.ref s1), .val (.ref b1)] [(.ref s1)])
  obtain ⟨T1, X1, e1, st1⟩ := getF X0 hx hZ hown (host := "") (Or.inl (hw _ (List.mem_of_getElem? (i := 26) rfl))) Via.refl e0 F_s (g := (mkF m 1 #[.val (.ref s1), .val (.ref b1)] [(.ref s1)])) rfl rfl (hb hby d4_1)
  refine own_go st1 ?_
  show own_G p e below _ T1 (mkF m 4 #[.val (.ref s1), .val (.ref b1)] [(.int (2 : Int32))])
  refine own_go (fun t k => XS.aloadN X1.here hx rfl (hb hby d4_4) rfl rfl k) ?_
  show own_G p e below _ T1 (mkF m 5 #[.val (.ref s1), .val (.ref b1)] [(.ref s1), (.int (2 : Int32))])
  obtain ⟨T2, X2, e2, st2⟩ := getF X1 hx hZ hown (host := "") (Or.inl (hw _ (List.mem_of_getElem? (i := 12) rfl))) Via.refl e1 F_v (g := (mkF m 5 #[.val (.ref s1), .val (.ref b1)] [(.ref s1), (.int (2 : Int32))])) rfl rfl (hb hby d4_5)
  refine own_go st2 ?_
  show own_G p e below _ T2 (mkF m 8 #[.val (.ref s1), .val (.ref b1)] [(.ref ar), (.int (2 : Int32))])
  refine own_go (X2.arraylength hx (own_cellAt e2 A_r) (State.isArrayOf_alike hZ.alike A_r.2.1) (g := (mkF m 8 #[.val (.ref s1), .val (.ref b1)] [(.ref ar), (.int (2 : Int32))])) rfl rfl (hb hby d4_8)) ?_
  rw [hsz]
  show own_G p e below _ T2 (mkF m 9 #[.val (.ref s1), .val (.ref b1)] [(.int (64 : Int32)), (.int (2 : Int32))])
  refine own_go (fun t k => XS.icmpYes X2.here hx rfl (pc0 := 9) (pc' := 29) rfl (hb hby d4_9) rfl (by decide) (by decide) (by decide) k) ?_
  show own_G p e below _ T2 (mkF m 29 #[.val (.ref s1), .val (.ref b1)] [])
  refine own_go (fun t k => XS.aloadN X2.here hx rfl (hb hby d4_29) rfl rfl k) ?_
  show own_G p e below _ T2 (mkF m 30 #[.val (.ref s1), .val (.ref b1)] [(.ref s1)])
  obtain ⟨T3, X3, e3, st3⟩ := getF X2 hx hZ hown (host := "") (Or.inl (hw _ (List.mem_of_getElem? (i := 12) rfl))) Via.refl e2 F_v (g := (mkF m 30 #[.val (.ref s1), .val (.ref b1)] [(.ref s1)])) rfl rfl (hb hby d4_30)
  refine own_go st3 ?_
  show own_G p e below _ T3 (mkF m 33 #[.val (.ref s1), .val (.ref b1)] [(.ref ar)])
  refine own_go (fun t k => XS.aloadN X3.here hx rfl (hb hby d4_33) rfl rfl k) ?_
  show own_G p e below _ T3 (mkF m 34 #[.val (.ref s1), .val (.ref b1)] [(.ref s1), (.ref ar)])
  refine own_go (fun t k => XS.dup X3.here hx rfl (hb hby d4_34) rfl rfl k) ?_
  show own_G p e below _ T3 (mkF m 35 #[.val (.ref s1), .val (.ref b1)] [(.ref s1), (.ref s1), (.ref ar)])
  obtain ⟨T4, X4, e4, st4⟩ := getF X3 hx hZ hown (host := "") (Or.inl (hw _ (List.mem_of_getElem? (i := 26) rfl))) Via.refl e3 F_s (g := (mkF m 35 #[.val (.ref s1), .val (.ref b1)] [(.ref s1), (.ref s1), (.ref ar)])) rfl rfl (hb hby d4_35)
  refine own_go st4 ?_
  show own_G p e below _ T4 (mkF m 38 #[.val (.ref s1), .val (.ref b1)] [(.int (2 : Int32)), (.ref s1), (.ref ar)])
  refine own_go (fun t k => XT.dupX1 X4.here hx rfl (hb hby d4_38) rfl rfl rfl k) ?_
  show own_G p e below _ T4 (mkF m 39 #[.val (.ref s1), .val (.ref b1)] [(.int (2 : Int32)), (.ref s1), (.int (2 : Int32)), (.ref ar)])
  refine own_go (fun t k => XS.iconst X4.here hx rfl (hb hby d4_39) k) ?_
  show own_G p e below _ T4 (mkF m 40 #[.val (.ref s1), .val (.ref b1)] [(.int (1 : Int32)), (.int (2 : Int32)), (.ref s1), (.int (2 : Int32)), (.ref ar)])
  refine own_go (fun t k => XS.iadd X4.here hx rfl (hb hby d4_40) rfl k) ?_
  show own_G p e below _ T4 (mkF m 41 #[.val (.ref s1), .val (.ref b1)] [(.int (3 : Int32)), (.ref s1), (.int (2 : Int32)), (.ref ar)])
  obtain ⟨T5, h5, X5, e5, W5, st5⟩ := putF X4 hx hZ hown (host := "") (Or.inl (hw _ (List.mem_of_getElem? (i := 26) rfl))) Via.refl e4 F_s E_s (Or.inl (hw _ (List.mem_of_getElem? (i := 27) rfl))) (hw _ (List.mem_of_getElem? (i := 2) rfl)) (ty := .int) (by decide) rfl rfl (g := (mkF m 41 #[.val (.ref s1), .val (.ref b1)] [(.int (3 : Int32)), (.ref s1), (.int (2 : Int32)), (.ref ar)])) rfl rfl (hb hby d4_41)
  have Fs5 := F_s.same W5
  have Fv5 := F_v.other W5 (Or.inr (slot_ne (Or.inl (hw _ (List.mem_of_getElem? (i := 13) rfl))) (Or.inl (hw _ (List.mem_of_getElem? (i := 27) rfl))) (by decide) (t := .array (.object "java/lang/Object")) (t' := .int) (by decide +kernel) (by decide +kernel)))
  have E5 := E_s.wr W5
  have A5 := A_r.other W5 (Ne.symm ne_s)
  have N5 := Fr.snoc X5 N0 g1
  have K5 := (Keep.refl h0 [s1, ar]).wr W5 (Or.inl (by simp))
  have Q5 := hsto.wr W5
  refine own_go st5 ?_
  show own_G p e below _ T5 (mkF m 44 #[.val (.ref s1), .val (.ref b1)] [(.int (2 : Int32)), (.ref ar)])
  refine own_go (fun t k => XS.aloadN X5.here hx rfl (hb hby d4_44) rfl rfl k) ?_
  show own_G p e below _ T5 (mkF m 45 #[.val (.ref s1), .val (.ref b1)] [(.ref b1), (.int (2 : Int32)), (.ref ar)])
  obtain ⟨T6, h6, X6, e6, W6, st6⟩ := stR X5 hx hZ e5 A5 (j := (2 : Int32)) (own_in hsz (by decide)) rfl Q5 (g := (mkF m 45 #[.val (.ref s1), .val (.ref b1)] [(.ref b1), (.int (2 : Int32)), (.ref ar)])) rfl rfl (hb hby d4_45)
  have A6 : Arr Z h6 ar (cl.setSlot 2 (.ref b1)) (.object "java/lang/Object") := A5.same W6
  have z6 : (cl.setSlot 2 (.ref b1)).slots.size = 64 := (sz_set _ _ _).trans hsz
  have u6_0 : (cl.setSlot 2 (.ref b1)).slots[0]? = some v0 := own_miss t0 (by decide)
  have u6_1 : (cl.setSlot 2 (.ref b1)).slots[1]? = some v1 := own_miss t1 (by decide)
  have u6_2 : (cl.setSlot 2 (.ref b1)).slots[2]? = some (.ref b1) := own_hit hsz (by decide)
  have u6_3 : (cl.setSlot 2 (.ref b1)).slots[3]? = some v3 := own_miss t3 (by decide)
  have Fs6 := Fs5.other W6 (Or.inl ne_s)
  have Fv6 := Fv5.other W6 (Or.inl ne_s)
  have E6 := E5.wr W6
  have N6 := Fr.snoc X6 N5 g2
  have K6 := K5.wr W6 (Or.inl (by simp))
  refine own_go st6 ?_
  show own_G p e below _ T6 (mkF m 46 #[.val (.ref s1), .val (.ref b1)] [])
  exact own_ret0 X6 hx hlk hret (hb hby d4_46) (by decide) (by decide) ⟨rfl, N6, (by rw [e6]; exact K6), (by rw [e6]; exact ⟨E6, Fv6, Fs6, ne_s, _, A6, O_v, z6, u6_0, u6_1, u6_2, u6_3⟩)⟩
set_option maxRecDepth 65536 in
set_option maxHeartbeats 40000000 in
theorem c_push_3A (l : Launch) (Z : State) (a0 : Array Value) (hw : ∀ d ∈ tables_1, d.before a0 Z = true) (s1 ar : Addr) (b1 : Addr) (v0 v1 v2 v3 : Value) (h0 : Heap) (n0 : Nat) (Z0 : n0 ≤ h0.size) (S : own_ST Z h0 s1 ar (3 : Int32) v0 v1 v2 v3) (hsto : Sto Z h0 ar (.ref b1)) (g1 : n0 ≤ s1) (g2 : n0 ≤ ar) :
    own_M l Z (⟨"com/example/halyard/halyard/engine/OperandStack", "push", "(Ljava/lang/Object;)V"⟩ : MethodName) prog_114_method_2_code 2 none ⟨0, 0, 0, 0⟩ #[.ref s1, (.ref b1)] h0 (fun v h L => v = none ∧ Fr n0 L ∧ Keep h0 h [s1, ar] ∧ own_ST Z h s1 ar (4 : Int32) v0 v1 v2 (.ref b1)) := by
  refine own_body pn_4 ?_
  intro p e s m below meth c T0 hx hby hml hlk hown hret hnm hH hnamed X0 e0
  have hZ := hH.wide
  replace hown : s.vm.findClass "com/example/halyard/halyard/engine/OperandStack" = some m.cls := hown
  replace hml : c.maxLocals = 2 := hml
  obtain ⟨E_s, F_v, F_s, ne_s, cl, A_r, O_v, hsz, t0, t1, t2, t3⟩ := id S
  have N0 := Fr.nil n0
  have ef : entryFrame m #[.ref s1, (.ref b1)] 2 = (mkF m 0 #[.val (.ref s1), .val (.ref b1)] []) := by first | (simp [entryFrame, mkF, argsToLocals, Value.category]; done) | rfl
  rw [ef]
  refine own_go (fun t k => XS.aloadN X0.here hx rfl (hb hby d4_0) rfl rfl k) ?_
  show own_G p e below _ T0 (mkF m 1 #[.val (.ref s1), .val (.ref b1)] [(.ref s1)])
  obtain ⟨T1, X1, e1, st1⟩ := getF X0 hx hZ hown (host := "") (Or.inl (hw _ (List.mem_of_getElem? (i := 26) rfl))) Via.refl e0 F_s (g := (mkF m 1 #[.val (.ref s1), .val (.ref b1)] [(.ref s1)])) rfl rfl (hb hby d4_1)
  refine own_go st1 ?_
  show own_G p e below _ T1 (mkF m 4 #[.val (.ref s1), .val (.ref b1)] [(.int (3 : Int32))])
  refine own_go (fun t k => XS.aloadN X1.here hx rfl (hb hby d4_4) rfl rfl k) ?_
  show own_G p e below _ T1 (mkF m 5 #[.val (.ref s1), .val (.ref b1)] [(.ref s1), (.int (3 : Int32))])
  obtain ⟨T2, X2, e2, st2⟩ := getF X1 hx hZ hown (host := "") (Or.inl (hw _ (List.mem_of_getElem? (i := 12) rfl))) Via.refl e1 F_v (g := (mkF m 5 #[.val (.ref s1), .val (.ref b1)] [(.ref s1), (.int (3 : Int32))])) rfl rfl (hb hby d4_5)
  refine own_go st2 ?_
  show own_G p e below _ T2 (mkF m 8 #[.val (.ref s1), .val (.ref b1)] [(.ref ar), (.int (3 : Int32))])
  refine own_go (X2.arraylength hx (own_cellAt e2 A_r) (State.isArrayOf_alike hZ.alike A_r.2.1) (g := (mkF m 8 #[.val (.ref s1), .val (.ref b1)] [(.ref ar), (.int (3 : Int32))])) rfl rfl (hb hby d4_8)) ?_
  rw [hsz]
  show own_G p e below _ T2 (mkF m 9 #[.val (.ref s1), .val (.ref b1)] [(.int (64 : Int32)), (.int (3 : Int32))])
  refine own_go (fun t k => XS.icmpYes X2.here hx rfl (pc0 := 9) (pc' := 29) rfl (hb hby d4_9) rfl (by decide) (by decide) (by decide) k) ?_
  show own_G p e below _ T2 (mkF m 29 #[.val (.ref s1), .val (.ref b1)] [])
  refine own_go (fun t k => XS.aloadN X2.here hx rfl (hb hby d4_29) rfl rfl k) ?_
  show own_G p e below _ T2 (mkF m 30 #[.val (.ref s1), .val (.ref b1)] [(.ref s1)])
  obtain ⟨T3, X3, e3, st3⟩ := getF X2 hx hZ hown (host := "") (Or.inl (hw _ (List.mem_of_getElem? (i := 12) rfl))) Via.refl e2 F_v (g := (mkF m 30 #[.val (.ref s1), .val (.ref b1)] [(.ref s1)])) rfl rfl (hb hby d4_30)
  refine own_go st3 ?_
  show own_G p e below _ T3 (mkF m 33 #[.val (.ref s1), .val (.ref b1)] [(.ref ar)])
  refine own_go (fun t k => XS.aloadN X3.here hx rfl (hb hby d4_33) rfl rfl k) ?_
  show own_G p e below _ T3 (mkF m 34 #[.val (.ref s1), .val (.ref b1)] [(.ref s1), (.ref ar)])
  refine own_go (fun t k => XS.dup X3.here hx rfl (hb hby d4_34) rfl rfl k) ?_
  show own_G p e below _ T3 (mkF m 35 #[.val (.ref s1), .val (.ref b1)] [(.ref s1), (.ref s1), (.ref ar)])
  obtain ⟨T4, X4, e4, st4⟩ := getF X3 hx hZ hown (host := "") (Or.inl (hw _ (List.mem_of_getElem? (i := 26) rfl))) Via.refl e3 F_s (g := (mkF m 35 #[.val (.ref s1), .val (.ref b1)] [(.ref s1), (.ref s1), (.ref ar)])) rfl rfl (hb hby d4_35)
  refine own_go st4 ?_
  show own_G p e below _ T4 (mkF m 38 #[.val (.ref s1), .val (.ref b1)] [(.int (3 : Int32)), (.ref s1), (.ref ar)])
  refine own_go (fun t k => XT.dupX1 X4.here hx rfl (hb hby d4_38) rfl rfl rfl k) ?_
  show own_G p e below _ T4 (mkF m 39 #[.val (.ref s1), .val (.ref b1)] [(.int (3 : Int32)), (.ref s1), (.int (3 : Int32)), (.ref ar)])
  refine own_go (fun t k => XS.iconst X4.here hx rfl (hb hby d4_39) k) ?_
  show own_G p e below _ T4 (mkF m 40 #[.val (.ref s1), .val (.ref b1)] [(.int (1 : Int32)), (.int (3 : Int32)), (.ref s1), (.int (3 : Int32)), (.ref ar)])
  refine own_go (fun t k => XS.iadd X4.here hx rfl (hb hby d4_40) rfl k) ?_
  show own_G p e below _ T4 (mkF m 41 #[.val (.ref s1), .val (.ref b1)] [(.int (4 : Int32)), (.ref s1), (.int (3 : Int32)), (.ref ar)])
  obtain ⟨T5, h5, X5, e5, W5, st5⟩ := putF X4 hx hZ hown (host := "") (Or.inl (hw _ (List.mem_of_getElem? (i := 26) rfl))) Via.refl e4 F_s E_s (Or.inl (hw _ (List.mem_of_getElem? (i := 27) rfl))) (hw _ (List.mem_of_getElem? (i := 2) rfl)) (ty := .int) (by decide) rfl rfl (g := (mkF m 41 #[.val (.ref s1), .val (.ref b1)] [(.int (4 : Int32)), (.ref s1), (.int (3 : Int32)), (.ref ar)])) rfl rfl (hb hby d4_41)
  have Fs5 := F_s.same W5
  have Fv5 := F_v.other W5 (Or.inr (slot_ne (Or.inl (hw _ (List.mem_of_getElem? (i := 13) rfl))) (Or.inl (hw _ (List.mem_of_getElem? (i := 27) rfl))) (by decide) (t := .array (.object "java/lang/Object")) (t' := .int) (by decide +kernel) (by decide +kernel)))
  have E5 := E_s.wr W5
  have A5 := A_r.other W5 (Ne.symm ne_s)
  have N5 := Fr.snoc X5 N0 g1
  have K5 := (Keep.refl h0 [s1, ar]).wr W5 (Or.inl (by simp))
  have Q5 := hsto.wr W5
  refine own_go st5 ?_
  show own_G p e below _ T5 (mkF m 44 #[.val (.ref s1), .val (.ref b1)] [(.int (3 : Int32)), (.ref ar)])
  refine own_go (fun t k => XS.aloadN X5.here hx rfl (hb hby d4_44) rfl rfl k) ?_
  show own_G p e below _ T5 (mkF m 45 #[.val (.ref s1), .val (.ref b1)] [(.ref b1), (.int (3 : Int32)), (.ref ar)])
  obtain ⟨T6, h6, X6, e6, W6, st6⟩ := stR X5 hx hZ e5 A5 (j := (3 : Int32)) (own_in hsz (by decide)) rfl Q5 (g := (mkF m 45 #[.val (.ref s1), .val (.ref b1)] [(.ref b1), (.int (3 : Int32)), (.ref ar)])) rfl rfl (hb hby d4_45)
  have A6 : Arr Z h6 ar (cl.setSlot 3 (.ref b1)) (.object "java/lang/Object") := A5.same W6
  have z6 : (cl.setSlot 3 (.ref b1)).slots.size = 64 := (sz_set _ _ _).trans hsz
  have u6_0 : (cl.setSlot 3 (.ref b1)).slots[0]? = some v0 := own_miss t0 (by decide)
  have u6_1 : (cl.setSlot 3 (.ref b1)).slots[1]? = some v1 := own_miss t1 (by decide)
  have u6_2 : (cl.setSlot 3 (.ref b1)).slots[2]? = some v2 := own_miss t2 (by decide)
  have u6_3 : (cl.setSlot 3 (.ref b1)).slots[3]? = some (.ref b1) := own_hit hsz (by decide)
  have Fs6 := Fs5.other W6 (Or.inl ne_s)
  have Fv6 := Fv5.other W6 (Or.inl ne_s)
  have E6 := E5.wr W6
  have N6 := Fr.snoc X6 N5 g2
  have K6 := K5.wr W6 (Or.inl (by simp))
  refine own_go st6 ?_
  show own_G p e below _ T6 (mkF m 46 #[.val (.ref s1), .val (.ref b1)] [])
  exact own_ret0 X6 hx hlk hret (hb hby d4_46) (by decide) (by decide) ⟨rfl, N6, (by rw [e6]; exact K6), (by rw [e6]; exact ⟨E6, Fv6, Fs6, ne_s, _, A6, O_v, z6, u6_0, u6_1, u6_2, u6_3⟩)⟩
set_option maxRecDepth 65536 in
set_option maxHeartbeats 40000000 in
theorem c_drop_1_0 (l : Launch) (Z : State) (a0 : Array Value) (hw : ∀ d ∈ tables_1, d.before a0 Z = true) (s1 ar : Addr) (v0 v1 v2 v3 : Value) (h0 : Heap) (n0 : Nat) (Z0 : n0 ≤ h0.size) (S : own_ST Z h0 s1 ar (1 : Int32) v0 v1 v2 v3) (g1 : n0 ≤ s1) (g2 : n0 ≤ ar) :
    own_M l Z (⟨"com/example/halyard/halyard/engine/OperandStack", "drop", "(I)V"⟩ : MethodName) prog_114_method_4_code 3 none ⟨0, 0, 0, 0⟩ #[.ref s1, .int (0 : Int32)] h0 (fun v h L => v = none ∧ Fr n0 L ∧ Keep h0 h [s1, ar] ∧ own_ST Z h s1 ar (1 : Int32) v0 v1 v2 v3) := by
  refine own_body pn_5 ?_
  intro p e s m below meth c T0 hx hby hml hlk hown hret hnm hH hnamed X0 e0
  have hZ := hH.wide
  replace hown : s.vm.findClass "com/example/halyard/halyard/engine/OperandStack" = some m.cls := hown
  replace hml : c.maxLocals = 3 := hml
  obtain ⟨E_s, F_v, F_s, ne_s, cl, A_r, O_v, hsz, t0, t1, t2, t3⟩ := id S
  have N0 := Fr.nil n0
  have ef : entryFrame m #[.ref s1, .int (0 : Int32)] 3 = (mkF m 0 #[.val (.ref s1), .val (.int (0 : Int32)), .unset] []) := by first | (simp [entryFrame, mkF, argsToLocals, Value.category]; done) | rfl
  rw [ef]
  refine own_go (fun t k => XS.iconst X0.here hx rfl (hb hby d5_0) k) ?_
  show own_G p e below _ T0 (mkF m 1 #[.val (.ref s1), .val (.int (0 : Int32)), .unset] [(.int (0 : Int32))])
  refine own_go (fun t k => XS.istoreN X0.here hx rfl (hb hby d5_1) rfl (l' := #[.val (.ref s1), .val (.int (0 : Int32)), .val (.int (0 : Int32))]) rfl k) ?_
  show own_G p e below _ T0 (mkF m 2 #[.val (.ref s1), .val (.int (0 : Int32)), .val (.int (0 : Int32))] [])
  refine own_go (fun t k => XS.iloadN X0.here hx rfl (hb hby d5_2) rfl k) ?_
  show own_G p e below _ T0 (mkF m 3 #[.val (.ref s1), .val (.int (0 : Int32)), .val (.int (0 : Int32))] [(.int (0 : Int32))])
  refine own_go (fun t k => XS.iloadN X0.here hx rfl (hb hby d5_3) rfl k) ?_
  show own_G p e below _ T0 (mkF m 4 #[.val (.ref s1), .val (.int (0 : Int32)), .val (.int (0 : Int32))] [(.int (0 : Int32)), (.int (0 : Int32))])
  refine own_go (fun t k => XS.icmpYes X0.here hx rfl (pc0 := 4) (pc' := 30) rfl (hb hby d5_4) rfl (by decide) (by decide) (by decide) k) ?_
  show own_G p e below _ T0 (mkF m 30 #[.val (.ref s1), .val (.int (0 : Int32)), .val (.int (0 : Int32))] [])
  exact own_ret0 X0 hx hlk hret (hb hby d5_30) (by decide) (by decide) ⟨rfl, N0, (by rw [e0]; exact Keep.refl _ _), (by rw [e0]; exact S)⟩
set_option maxRecDepth 65536 in
set_option maxHeartbeats 40000000 in
theorem c_drop_2_0 (l : Launch) (Z : State) (a0 : Array Value) (hw : ∀ d ∈ tables_1, d.before a0 Z = true) (s1 ar : Addr) (v0 v1 v2 v3 : Value) (h0 : Heap) (n0 : Nat) (Z0 : n0 ≤ h0.size) (S : own_ST Z h0 s1 ar (2 : Int32) v0 v1 v2 v3) (g1 : n0 ≤ s1) (g2 : n0 ≤ ar) :
    own_M l Z (⟨"com/example/halyard/halyard/engine/OperandStack", "drop", "(I)V"⟩ : MethodName) prog_114_method_4_code 3 none ⟨0, 0, 0, 0⟩ #[.ref s1, .int (0 : Int32)] h0 (fun v h L => v = none ∧ Fr n0 L ∧ Keep h0 h [s1, ar] ∧ own_ST Z h s1 ar (2 : Int32) v0 v1 v2 v3) := by
  refine own_body pn_5 ?_
  intro p e s m below meth c T0 hx hby hml hlk hown hret hnm hH hnamed X0 e0
  have hZ := hH.wide
  replace hown : s.vm.findClass "com/example/halyard/halyard/engine/OperandStack" = some m.cls := hown
  replace hml : c.maxLocals = 3 := hml
  obtain ⟨E_s, F_v, F_s, ne_s, cl, A_r, O_v, hsz, t0, t1, t2, t3⟩ := id S
  have N0 := Fr.nil n0
  have ef : entryFrame m #[.ref s1, .int (0 : Int32)] 3 = (mkF m 0 #[.val (.ref s1), .val (.int (0 : Int32)), .unset] []) := by first | (simp [entryFrame, mkF, argsToLocals, Value.category]; done) | rfl
  rw [ef]
  refine own_go (fun t k => XS.iconst X0.here hx rfl (hb hby d5_0) k) ?_
  show own_G p e below _ T0 (mkF m 1 #[.val (.ref s1), .val (.int (0 : Int32)), .unset] [(.int (0 : Int32))])
  refine own_go (fun t k => XS.istoreN X0.here hx rfl (hb hby d5_1) rfl (l' := #[.val (.ref s1), .val (.int (0 : Int32)), .val (.int (0 : Int32))]) rfl k) ?_
  show own_G p e below _ T0 (mkF m 2 #[.val (.ref s1), .val (.int (0 : Int32)), .val (.int (0 : Int32))] [])
  refine own_go (fun t k => XS.iloadN X0.here hx rfl (hb hby d5_2) rfl k) ?_
  show own_G p e below _ T0 (mkF m 3 #[.val (.ref s1), .val (.int (0 : Int32)), .val (.int (0 : Int32))] [(.int (0 : Int32))])
  refine own_go (fun t k => XS.iloadN X0.here hx rfl (hb hby d5_3) rfl k) ?_
  show own_G p e below _ T0 (mkF m 4 #[.val (.ref s1), .val (.int (0 : Int32)), .val (.int (0 : Int32))] [(.int (0 : Int32)), (.int (0 : Int32))])
  refine own_go (fun t k => XS.icmpYes X0.here hx rfl (pc0 := 4) (pc' := 30) rfl (hb hby d5_4) rfl (by decide) (by decide) (by decide) k) ?_
  show own_G p e below _ T0 (mkF m 30 #[.val (.ref s1), .val (.int (0 : Int32)), .val (.int (0 : Int32))] [])
  exact own_ret0 X0 hx hlk hret (hb hby d5_30) (by decide) (by decide) ⟨rfl, N0, (by rw [e0]; exact Keep.refl _ _), (by rw [e0]; exact S)⟩
set_option maxRecDepth 65536 in
set_option maxHeartbeats 40000000 in
theorem c_drop_2_1 (l : Launch) (Z : State) (a0 : Array Value) (hw : ∀ d ∈ tables_1, d.before a0 Z = true) (s1 ar : Addr) (v0 v1 v2 v3 : Value) (h0 : Heap) (n0 : Nat) (Z0 : n0 ≤ h0.size) (S : own_ST Z h0 s1 ar (2 : Int32) v0 v1 v2 v3) (g1 : n0 ≤ s1) (g2 : n0 ≤ ar) :
    own_M l Z (⟨"com/example/halyard/halyard/engine/OperandStack", "drop", "(I)V"⟩ : MethodName) prog_114_method_4_code 3 none ⟨0, 0, 0, 0⟩ #[.ref s1, .int (1 : Int32)] h0 (fun v h L => v = none ∧ Fr n0 L ∧ Keep h0 h [s1, ar] ∧ own_ST Z h s1 ar (1 : Int32) v0 .null v2 v3) := by
  refine own_body pn_5 ?_
  intro p e s m below meth c T0 hx hby hml hlk hown hret hnm hH hnamed X0 e0
  have hZ := hH.wide
  replace hown : s.vm.findClass "com/example/halyard/halyard/engine/OperandStack" = some m.cls := hown
  replace hml : c.maxLocals = 3 := hml
  obtain ⟨E_s, F_v, F_s, ne_s, cl, A_r, O_v, hsz, t0, t1, t2, t3⟩ := id S
  have N0 := Fr.nil n0
  have ef : entryFrame m #[.ref s1, .int (1 : Int32)] 3 = (mkF m 0 #[.val (.ref s1), .val (.int (1 : Int32)), .unset] []) := by first | (simp [entryFrame, mkF, argsToLocals, Value.category]; done) | rfl
  rw [ef]
  refine own_go (fun t k => XS.iconst X0.here hx rfl (hb hby d5_0) k) ?_
  show own_G p e below _ T0 (mkF m 1 #[.val (.ref s1), .val (.int (1 : Int32)), .unset] [(.int (0 : Int32))])
  refine own_go (fun t k => XS.istoreN X0.here hx rfl (hb hby d5_1) rfl (l' := #[.val (.ref s1), .val (.int (1 : Int32)), .val (.int (0 : Int32))]) rfl k) ?_
  show own_G p e below _ T0 (mkF m 2 #[.val (.ref s1), .val (.int (1 : Int32)), .val (.int (0 : Int32))] [])
  refine own_go (fun t k => XS.iloadN X0.here hx rfl (hb hby d5_2) rfl k) ?_
  show own_G p e below _ T0 (mkF m 3 #[.val (.ref s1), .val (.int (1 : Int32)), .val (.int (0 : Int32))] [(.int (0 : Int32))])
  refine own_go (fun t k => XS.iloadN X0.here hx rfl (hb hby d5_3) rfl k) ?_
  show own_G p e below _ T0 (mkF m 4 #[.val (.ref s1), .val (.int (1 : Int32)), .val (.int (0 : Int32))] [(.int (1 : Int32)), (.int (0 : Int32))])
  refine own_go (fun t k => XS.icmpNo X0.here hx rfl (hb hby d5_4) rfl (by decide) k) ?_
  show own_G p e below _ T0 (mkF m 7 #[.val (.ref s1), .val (.int (1 : Int32)), .val (.int (0 : Int32))] [])
  refine own_go (fun t k => XS.aloadN X0.here hx rfl (hb hby d5_7) rfl rfl k) ?_
  show own_G p e below _ T0 (mkF m 8 #[.val (.ref s1), .val (.int (1 : Int32)), .val (.int (0 : Int32))] [(.ref s1)])
  obtain ⟨T1, X1, e1, st1⟩ := getF X0 hx hZ hown (host := "") (Or.inl (hw _ (List.mem_of_getElem? (i := 12) rfl))) Via.refl e0 F_v (g := (mkF m 8 #[.val (.ref s1), .val (.int (1 : Int32)), .val (.int (0 : Int32))] [(.ref s1)])) rfl rfl (hb hby d5_8)
  refine own_go st1 ?_
  show own_G p e below _ T1 (mkF m 11 #[.val (.ref s1), .val (.int (1 : Int32)), .val (.int (0 : Int32))] [(.ref ar)])
  refine own_go (fun t k => XS.aloadN X1.here hx rfl (hb hby d5_11) rfl rfl k) ?_
  show own_G p e below _ T1 (mkF m 12 #[.val (.ref s1), .val (.int (1 : Int32)), .val (.int (0 : Int32))] [(.ref s1), (.ref ar)])
  refine own_go (fun t k => XS.dup X1.here hx rfl (hb hby d5_12) rfl rfl k) ?_
  show own_G p e below _ T1 (mkF m 13 #[.val (.ref s1), .val (.int (1 : Int32)), .val (.int (0 : Int32))] [(.ref s1), (.ref s1), (.ref ar)])
  obtain ⟨T2, X2, e2, st2⟩ := getF X1 hx hZ hown (host := "") (Or.inl (hw _ (List.mem_of_getElem? (i := 26) rfl))) Via.refl e1 F_s (g := (mkF m 13 #[.val (.ref s1), .val (.int (1 : Int32)), .val (.int (0 : Int32))] [(.ref s1), (.ref s1), (.ref ar)])) rfl rfl (hb hby d5_13)
  refine own_go st2 ?_
  show own_G p e below _ T2 (mkF m 16 #[.val (.ref s1), .val (.int (1 : Int32)), .val (.int (0 : Int32))] [(.int (2 : Int32)), (.ref s1), (.ref ar)])
  refine own_go (fun t k => XS.iconst X2.here hx rfl (hb hby d5_16) k) ?_
  show own_G p e below _ T2 (mkF m 17 #[.val (.ref s1), .val (.int (1 : Int32)), .val (.int (0 : Int32))] [(.int (1 : Int32)), (.int (2 : Int32)), (.ref s1), (.ref ar)])
  refine own_go (fun t k => XS.isub X2.here hx rfl (hb hby d5_17) rfl k) ?_
  show own_G p e below _ T2 (mkF m 18 #[.val (.ref s1), .val (.int (1 : Int32)), .val (.int (0 : Int32))] [(.int (1 : Int32)), (.ref s1), (.ref ar)])
  refine own_go (fun t k => XT.dupX1 X2.here hx rfl (hb hby d5_18) rfl rfl rfl k) ?_
  show own_G p e below _ T2 (mkF m 19 #[.val (.ref s1), .val (.int (1 : Int32)), .val (.int (0 : Int32))] [(.int (1 : Int32)), (.ref s1), (.int (1 : Int32)), (.ref ar)])
  obtain ⟨T3, h3, X3, e3, W3, st3⟩ := putF X2 hx hZ hown (host := "") (Or.inl (hw _ (List.mem_of_getElem? (i := 26) rfl))) Via.refl e2 F_s E_s (Or.inl (hw _ (List.mem_of_getElem? (i := 27) rfl))) (hw _ (List.mem_of_getElem? (i := 2) rfl)) (ty := .int) (by decide) rfl rfl (g := (mkF m 19 #[.val (.ref s1), .val (.int (1 : Int32)), .val (.int (0 : Int32))] [(.int (1 : Int32)), (.ref s1), (.int (1 : Int32)), (.ref ar)])) rfl rfl (hb hby d5_19)
  have Fs3 := F_s.same W3
  have Fv3 := F_v.other W3 (Or.inr (slot_ne (Or.inl (hw _ (List.mem_of_getElem? (i := 13) rfl))) (Or.inl (hw _ (List.mem_of_getElem? (i := 27) rfl))) (by decide) (t := .array (.object "java/lang/Object")) (t' := .int) (by decide +kernel) (by decide +kernel)))
  have E3 := E_s.wr W3
  have A3 := A_r.other W3 (Ne.symm ne_s)
  have N3 := Fr.snoc X3 N0 g1
  have K3 := (Keep.refl h0 [s1, ar]).wr W3 (Or.inl (by simp))
  refine own_go st3 ?_
  show own_G p e below _ T3 (mkF m 22 #[.val (.ref s1), .val (.int (1 : Int32)), .val (.int (0 : Int32))] [(.int (1 : Int32)), (.ref ar)])
  refine own_go (fun t k => XS.aconstNull X3.here hx rfl (hb hby d5_22) k) ?_
  show own_G p e below _ T3 (mkF m 23 #[.val (.ref s1), .val (.int (1 : Int32)), .val (.int (0 : Int32))] [.null, (.int (1 : Int32)), (.ref ar)])
  obtain ⟨T4, h4, X4, e4, W4, st4⟩ := stR X3 hx hZ e3 A3 (j := (1 : Int32)) (own_in hsz (by decide)) rfl (Or.inl rfl) (g := (mkF m 23 #[.val (.ref s1), .val (.int (1 : Int32)), .val (.int (0 : Int32))] [.null, (.int (1 : Int32)), (.ref ar)])) rfl rfl (hb hby d5_23)
  have A4 : Arr Z h4 ar (cl.setSlot 1 .null) (.object "java/lang/Object") := A3.same W4
  have z4 : (cl.setSlot 1 .null).slots.size = 64 := (sz_set _ _ _).trans hsz
  have u4_0 : (cl.setSlot 1 .null).slots[0]? = some v0 := own_miss t0 (by decide)
  have u4_1 : (cl.setSlot 1 .null).slots[1]? = some .null := own_hit hsz (by decide)
  have u4_2 : (cl.setSlot 1 .null).slots[2]? = some v2 := own_miss t2 (by decide)
  have u4_3 : (cl.setSlot 1 .null).slots[3]? = some v3 := own_miss t3 (by decide)
  have Fs4 := Fs3.other W4 (Or.inl ne_s)
  have Fv4 := Fv3.other W4 (Or.inl ne_s)
  have E4 := E3.wr W4
  have N4 := Fr.snoc X4 N3 g2
  have K4 := K3.wr W4 (Or.inl (by simp))
  refine own_go st4 ?_
  show own_G p e below _ T4 (mkF m 24 #[.val (.ref s1), .val (.int (1 : Int32)), .val (.int (0 : Int32))] [])
  refine own_go (fun t k => XS.iinc X4.here hx rfl (hb hby d5_24) rfl (l' := #[.val (.ref s1), .val (.int (1 : Int32)), .val (.int (1 : Int32))]) rfl k) ?_
  show own_G p e below _ T4 (mkF m 27 #[.val (.ref s1), .val (.int (1 : Int32)), .val (.int (1 : Int32))] [])
  refine own_go (fun t k => XS.goto X4.here hx rfl (pc0 := 27) (pc' := 2) rfl (hb hby d5_27) (by decide) (by decide) k) ?_
  show own_G p e below _ T4 (mkF m 2 #[.val (.ref s1), .val (.int (1 : Int32)), .val (.int (1 : Int32))] [])
  refine own_go (fun t k => XS.iloadN X4.here hx rfl (hb hby d5_2) rfl k) ?_
  show own_G p e below _ T4 (mkF m 3 #[.val (.ref s1), .val (.int (1 : Int32)), .val (.int (1 : Int32))] [(.int (1 : Int32))])
  refine own_go (fun t k => XS.iloadN X4.here hx rfl (hb hby d5_3) rfl k) ?_
  show own_G p e below _ T4 (mkF m 4 #[.val (.ref s1), .val (.int (1 : Int32)), .val (.int (1 : Int32))] [(.int (1 : Int32)), (.int (1 : Int32))])
  refine own_go (fun t k => XS.icmpYes X4.here hx rfl (pc0 := 4) (pc' := 30) rfl (hb hby d5_4) rfl (by decide) (by decide) (by decide) k) ?_
  show own_G p e below _ T4 (mkF m 30 #[.val (.ref s1), .val (.int (1 : Int32)), .val (.int (1 : Int32))] [])
  exact own_ret0 X4 hx hlk hret (hb hby d5_30) (by decide) (by decide) ⟨rfl, N4, (by rw [e4]; exact K4), (by rw [e4]; exact ⟨E4, Fv4, Fs4, ne_s, _, A4, O_v, z4, u4_0, u4_1, u4_2, u4_3⟩)⟩
set_option maxRecDepth 65536 in
set_option maxHeartbeats 40000000 in
theorem c_drop_3_0 (l : Launch) (Z : State) (a0 : Array Value) (hw : ∀ d ∈ tables_1, d.before a0 Z = true) (s1 ar : Addr) (v0 v1 v2 v3 : Value) (h0 : Heap) (n0 : Nat) (Z0 : n0 ≤ h0.size) (S : own_ST Z h0 s1 ar (3 : Int32) v0 v1 v2 v3) (g1 : n0 ≤ s1) (g2 : n0 ≤ ar) :
    own_M l Z (⟨"com/example/halyard/halyard/engine/OperandStack", "drop", "(I)V"⟩ : MethodName) prog_114_method_4_code 3 none ⟨0, 0, 0, 0⟩ #[.ref s1, .int (0 : Int32)] h0 (fun v h L => v = none ∧ Fr n0 L ∧ Keep h0 h [s1, ar] ∧ own_ST Z h s1 ar (3 : Int32) v0 v1 v2 v3) := by
  refine own_body pn_5 ?_
  intro p e s m below meth c T0 hx hby hml hlk hown hret hnm hH hnamed X0 e0
  have hZ := hH.wide
  replace hown : s.vm.findClass "com/example/halyard/halyard/engine/OperandStack" = some m.cls := hown
  replace hml : c.maxLocals = 3 := hml
  obtain ⟨E_s, F_v, F_s, ne_s, cl, A_r, O_v, hsz, t0, t1, t2, t3⟩ := id S
  have N0 := Fr.nil n0
  have ef : entryFrame m #[.ref s1, .int (0 : Int32)] 3 = (mkF m 0 #[.val (.ref s1), .val (.int (0 : Int32)), .unset] []) := by first | (simp [entryFrame, mkF, argsToLocals, Value.category]; done) | rfl
  rw [ef]
  refine own_go (fun t k => XS.iconst X0.here hx rfl (hb hby d5_0) k) ?_
  show own_G p e below _ T0 (mkF m 1 #[.val (.ref s1), .val (.int (0 : Int32)), .unset] [(.int (0 : Int32))])
  refine own_go (fun t k => XS.istoreN X0.here hx rfl (hb hby d5_1) rfl (l' := #[.val (.ref s1), .val (.int (0 : Int32)), .val (.int (0 : Int32))]) rfl k) ?_
  show own_G p e below _ T0 (mkF m 2 #[.val (.ref s1), .val (.int (0 : Int32)), .val (.int (0 : Int32))] [])
  refine own_go (fun t k => XS.iloadN X0.here hx rfl (hb hby d5_2) rfl k) ?_
  show own_G p e below _ T0 (mkF m 3 #[.val (.ref s1), .val (.int (0 : Int32)), .val (.int (0 : Int32))] [(.int (0 : Int32))])
  refine own_go (fun t k => XS.iloadN X0.here hx rfl (hb hby d5_3) rfl k) ?_
  show own_G p e below _ T0 (mkF m 4 #[.val (.ref s1), .val (.int (0 : Int32)), .val (.int (0 : Int32))] [(.int (0 : Int32)), (.int (0 : Int32))])
  refine own_go (fun t k => XS.icmpYes X0.here hx rfl (pc0 := 4) (pc' := 30) rfl (hb hby d5_4) rfl (by decide) (by decide) (by decide) k) ?_
  show own_G p e below _ T0 (mkF m 30 #[.val (.ref s1), .val (.int (0 : Int32)), .val (.int (0 : Int32))] [])
  exact own_ret0 X0 hx hlk hret (hb hby d5_30) (by decide) (by decide) ⟨rfl, N0, (by rw [e0]; exact Keep.refl _ _), (by rw [e0]; exact S)⟩
set_option maxRecDepth 65536 in
set_option maxHeartbeats 40000000 in
theorem c_drop_3_1 (l : Launch) (Z : State) (a0 : Array Value) (hw : ∀ d ∈ tables_1, d.before a0 Z = true) (s1 ar : Addr) (v0 v1 v2 v3 : Value) (h0 : Heap) (n0 : Nat) (Z0 : n0 ≤ h0.size) (S : own_ST Z h0 s1 ar (3 : Int32) v0 v1 v2 v3) (g1 : n0 ≤ s1) (g2 : n0 ≤ ar) :
    own_M l Z (⟨"com/example/halyard/halyard/engine/OperandStack", "drop", "(I)V"⟩ : MethodName) prog_114_method_4_code 3 none ⟨0, 0, 0, 0⟩ #[.ref s1, .int (1 : Int32)] h0 (fun v h L => v = none ∧ Fr n0 L ∧ Keep h0 h [s1, ar] ∧ own_ST Z h s1 ar (2 : Int32) v0 v1 .null v3) := by
  refine own_body pn_5 ?_
  intro p e s m below meth c T0 hx hby hml hlk hown hret hnm hH hnamed X0 e0
  have hZ := hH.wide
  replace hown : s.vm.findClass "com/example/halyard/halyard/engine/OperandStack" = some m.cls := hown
  replace hml : c.maxLocals = 3 := hml
  obtain ⟨E_s, F_v, F_s, ne_s, cl, A_r, O_v, hsz, t0, t1, t2, t3⟩ := id S
  have N0 := Fr.nil n0
  have ef : entryFrame m #[.ref s1, .int (1 : Int32)] 3 = (mkF m 0 #[.val (.ref s1), .val (.int (1 : Int32)), .unset] []) := by first | (simp [entryFrame, mkF, argsToLocals, Value.category]; done) | rfl
  rw [ef]
  refine own_go (fun t k => XS.iconst X0.here hx rfl (hb hby d5_0) k) ?_
  show own_G p e below _ T0 (mkF m 1 #[.val (.ref s1), .val (.int (1 : Int32)), .unset] [(.int (0 : Int32))])
  refine own_go (fun t k => XS.istoreN X0.here hx rfl (hb hby d5_1) rfl (l' := #[.val (.ref s1), .val (.int (1 : Int32)), .val (.int (0 : Int32))]) rfl k) ?_
  show own_G p e below _ T0 (mkF m 2 #[.val (.ref s1), .val (.int (1 : Int32)), .val (.int (0 : Int32))] [])
  refine own_go (fun t k => XS.iloadN X0.here hx rfl (hb hby d5_2) rfl k) ?_
  show own_G p e below _ T0 (mkF m 3 #[.val (.ref s1), .val (.int (1 : Int32)), .val (.int (0 : Int32))] [(.int (0 : Int32))])
  refine own_go (fun t k => XS.iloadN X0.here hx rfl (hb hby d5_3) rfl k) ?_
  show own_G p e below _ T0 (mkF m 4 #[.val (.ref s1), .val (.int (1 : Int32)), .val (.int (0 : Int32))] [(.int (1 : Int32)), (.int (0 : Int32))])
  refine own_go (fun t k => XS.icmpNo X0.here hx rfl (hb hby d5_4) rfl (by decide) k) ?_
  show own_G p e below _ T0 (mkF m 7 #[.val (.ref s1), .val (.int (1 : Int32)), .val (.int (0 : Int32))] [])
  refine own_go (fun t k => XS.aloadN X0.here hx rfl (hb hby d5_7) rfl rfl k) ?_
  show own_G p e below _ T0 (mkF m 8 #[.val (.ref s1), .val (.int (1 : Int32)), .val (.int (0 : Int32))] [(.ref s1)])
  obtain ⟨T1, X1, e1, st1⟩ := getF X0 hx hZ hown (host := "") (Or.inl (hw _ (List.mem_of_getElem? (i := 12) rfl))) Via.refl e0 F_v (g := (mkF m 8 #[.val (.ref s1), .val (.int (1 : Int32)), .val (.int (0 : Int32))] [(.ref s1)])) rfl rfl (hb hby d5_8)
  refine own_go st1 ?_
  show own_G p e below _ T1 (mkF m 11 #[.val (.ref s1), .val (.int (1 : Int32)), .val (.int (0 : Int32))] [(.ref ar)])
  refine own_go (fun t k => XS.aloadN X1.here hx rfl (hb hby d5_11) rfl rfl k) ?_
  show own_G p e below _ T1 (mkF m 12 #[.val (.ref s1), .val (.int (1 : Int32)), .val (.int (0 : Int32))] [(.ref s1), (.ref ar)])
  refine own_go (fun t k => XS.dup X1.here hx rfl (hb hby d5_12) rfl rfl k) ?_
  show own_G p e below _ T1 (mkF m 13 #[.val (.ref s1), .val (.int (1 : Int32)), .val (.int (0 : Int32))] [(.ref s1), (.ref s1), (.ref ar)])
  obtain ⟨T2, X2, e2, st2⟩ := getF X1 hx hZ hown (host := "") (Or.inl (hw _ (List.mem_of_getElem? (i := 26) rfl))) Via.refl e1 F_s (g := (mkF m 13 #[.val (.ref s1), .val (.int (1 : Int32)), .val (.int (0 : Int32))] [(.ref s1), (.ref s1), (.ref ar)])) rfl rfl (hb hby d5_13)
  refine own_go st2 ?_
  show own_G p e below _ T2 (mkF m 16 #[.val (.ref s1), .val (.int (1 : Int32)), .val (.int (0 : Int32))] [(.int (3 : Int32)), (.ref s1), (.ref ar)])
  refine own_go (fun t k => XS.iconst X2.here hx rfl (hb hby d5_16) k) ?_
  show own_G p e below _ T2 (mkF m 17 #[.val (.ref s1), .val (.int (1 : Int32)), .val (.int (0 : Int32))] [(.int (1 : Int32)), (.int (3 : Int32)), (.ref s1), (.ref ar)])
  refine own_go (fun t k => XS.isub X2.here hx rfl (hb hby d5_17) rfl k) ?_
  show own_G p e below _ T2 (mkF m 18 #[.val (.ref s1), .val (.int (1 : Int32)), .val (.int (0 : Int32))] [(.int (2 : Int32)), (.ref s1), (.ref ar)])
  refine own_go (fun t k => XT.dupX1 X2.here hx rfl (hb hby d5_18) rfl rfl rfl k) ?_
  show own_G p e below _ T2 (mkF m 19 #[.val (.ref s1), .val (.int (1 : Int32)), .val (.int (0 : Int32))] [(.int (2 : Int32)), (.ref s1), (.int (2 : Int32)), (.ref ar)])
  obtain ⟨T3, h3, X3, e3, W3, st3⟩ := putF X2 hx hZ hown (host := "") (Or.inl (hw _ (List.mem_of_getElem? (i := 26) rfl))) Via.refl e2 F_s E_s (Or.inl (hw _ (List.mem_of_getElem? (i := 27) rfl))) (hw _ (List.mem_of_getElem? (i := 2) rfl)) (ty := .int) (by decide) rfl rfl (g := (mkF m 19 #[.val (.ref s1), .val (.int (1 : Int32)), .val (.int (0 : Int32))] [(.int (2 : Int32)), (.ref s1), (.int (2 : Int32)), (.ref ar)])) rfl rfl (hb hby d5_19)
  have Fs3 := F_s.same W3
  have Fv3 := F_v.other W3 (Or.inr (slot_ne (Or.inl (hw _ (List.mem_of_getElem? (i := 13) rfl))) (Or.inl (hw _ (List.mem_of_getElem? (i := 27) rfl))) (by decide) (t := .array (.object "java/lang/Object")) (t' := .int) (by decide +kernel) (by decide +kernel)))
  have E3 := E_s.wr W3
  have A3 := A_r.other W3 (Ne.symm ne_s)
  have N3 := Fr.snoc X3 N0 g1
  have K3 := (Keep.refl h0 [s1, ar]).wr W3 (Or.inl (by simp))
  refine own_go st3 ?_
  show own_G p e below _ T3 (mkF m 22 #[.val (.ref s1), .val (.int (1 : Int32)), .val (.int (0 : Int32))] [(.int (2 : Int32)), (.ref ar)])
  refine own_go (fun t k => XS.aconstNull X3.here hx rfl (hb hby d5_22) k) ?_
  show own_G p e below _ T3 (mkF m 23 #[.val (.ref s1), .val (.int (1 : Int32)), .val (.int (0 : Int32))] [.null, (.int (2 : Int32)), (.ref ar)])
  obtain ⟨T4, h4, X4, e4, W4, st4⟩ := stR X3 hx hZ e3 A3 (j := (2 : Int32)) (own_in hsz (by decide)) rfl (Or.inl rfl) (g := (mkF m 23 #[.val (.ref s1), .val (.int (1 : Int32)), .val (.int (0 : Int32))] [.null, (.int (2 : Int32)), (.ref ar)])) rfl rfl (hb hby d5_23)
  have A4 : Arr Z h4 ar (cl.setSlot 2 .null) (.object "java/lang/Object") := A3.same W4
  have z4 : (cl.setSlot 2 .null).slots.size = 64 := (sz_set _ _ _).trans hsz
  have u4_0 : (cl.setSlot 2 .null).slots[0]? = some v0 := own_miss t0 (by decide)
  have u4_1 : (cl.setSlot 2 .null).slots[1]? = some v1 := own_miss t1 (by decide)
  have u4_2 : (cl.setSlot 2 .null).slots[2]? = some .null := own_hit hsz (by decide)
  have u4_3 : (cl.setSlot 2 .null).slots[3]? = some v3 := own_miss t3 (by decide)
  have Fs4 := Fs3.other W4 (Or.inl ne_s)
  have Fv4 := Fv3.other W4 (Or.inl ne_s)
  have E4 := E3.wr W4
  have N4 := Fr.snoc X4 N3 g2
  have K4 := K3.wr W4 (Or.inl (by simp))
  refine own_go st4 ?_
  show own_G p e below _ T4 (mkF m 24 #[.val (.ref s1), .val (.int (1 : Int32)), .val (.int (0 : Int32))] [])
  refine own_go (fun t k => XS.iinc X4.here hx rfl (hb hby d5_24) rfl (l' := #[.val (.ref s1), .val (.int (1 : Int32)), .val (.int (1 : Int32))]) rfl k) ?_
  show own_G p e below _ T4 (mkF m 27 #[.val (.ref s1), .val (.int (1 : Int32)), .val (.int (1 : Int32))] [])
  refine own_go (fun t k => XS.goto X4.here hx rfl (pc0 := 27) (pc' := 2) rfl (hb hby d5_27) (by decide) (by decide) k) ?_
  show own_G p e below _ T4 (mkF m 2 #[.val (.ref s1), .val (.int (1 : Int32)), .val (.int (1 : Int32))] [])
  refine own_go (fun t k => XS.iloadN X4.here hx rfl (hb hby d5_2) rfl k) ?_
  show own_G p e below _ T4 (mkF m 3 #[.val (.ref s1), .val (.int (1 : Int32)), .val (.int (1 : Int32))] [(.int (1 : Int32))])
  refine own_go (fun t k => XS.iloadN X4.here hx rfl (hb hby d5_3) rfl k) ?_
  show own_G p e below _ T4 (mkF m 4 #[.val (.ref s1), .val (.int (1 : Int32)), .val (.int (1 : Int32))] [(.int (1 : Int32)), (.int (1 : Int32))])
  refine own_go (fun t k => XS.icmpYes X4.here hx rfl (pc0 := 4) (pc' := 30) rfl (hb hby d5_4) rfl (by decide) (by decide) (by decide) k) ?_
  show own_G p e below _ T4 (mkF m 30 #[.val (.ref s1), .val (.int (1 : Int32)), .val (.int (1 : Int32))] [])
  exact own_ret0 X4 hx hlk hret (hb hby d5_30) (by decide) (by decide) ⟨rfl, N4, (by rw [e4]; exact K4), (by rw [e4]; exact ⟨E4, Fv4, Fs4, ne_s, _, A4, O_v, z4, u4_0, u4_1, u4_2, u4_3⟩)⟩
set_option maxRecDepth 65536 in
set_option maxHeartbeats 40000000 in
theorem c_drop_3_2 (l : Launch) (Z : State) (a0 : Array Value) (hw : ∀ d ∈ tables_1, d.before a0 Z = true) (s1 ar : Addr) (v0 v1 v2 v3 : Value) (h0 : Heap) (n0 : Nat) (Z0 : n0 ≤ h0.size) (S : own_ST Z h0 s1 ar (3 : Int32) v0 v1 v2 v3) (g1 : n0 ≤ s1) (g2 : n0 ≤ ar) :
    own_M l Z (⟨"com/example/halyard/halyard/engine/OperandStack", "drop", "(I)V"⟩ : MethodName) prog_114_method_4_code 3 none ⟨0, 0, 0, 0⟩ #[.ref s1, .int (2 : Int32)] h0 (fun v h L => v = none ∧ Fr n0 L ∧ Keep h0 h [s1, ar] ∧ own_ST Z h s1 ar (1 : Int32) v0 .null .null v3) := by
  refine own_body pn_5 ?_
  intro p e s m below meth c T0 hx hby hml hlk hown hret hnm hH hnamed X0 e0
  have hZ := hH.wide
  replace hown : s.vm.findClass "com/example/halyard/halyard/engine/OperandStack" = some m.cls := hown
  replace hml : c.maxLocals = 3 := hml
  obtain ⟨E_s, F_v, F_s, ne_s, cl, A_r, O_v, hsz, t0, t1, t2, t3⟩ := id S
  have N0 := Fr.nil n0
  have ef : entryFrame m #[.ref s1, .int (2 : Int32)] 3 = (mkF m 0 #[.val (.ref s1), .val (.int (2 : Int32)), .unset] []) := by first | (simp [entryFrame, mkF, argsToLocals, Value.category]; done) | rfl
  rw [ef]
  refine own_go (fun t k => XS.iconst X0.here hx rfl (hb hby d5_0) k) ?_
  show own_G p e below _ T0 (mkF m 1 #[.val (.ref s1), .val (.int (2 : Int32)), .unset] [(.int (0 : Int32))])
  refine own_go (fun t k => XS.istoreN X0.here hx rfl (hb hby d5_1) rfl (l' := #[.val (.ref s1), .val (.int (2 : Int32)), .val (.int (0 : Int32))]) rfl k) ?_
  show own_G p e below _ T0 (mkF m 2 #[.val (.ref s1), .val (.int (2 : Int32)), .val (.int (0 : Int32))] [])
  refine own_go (fun t k => XS.iloadN X0.here hx rfl (hb hby d5_2) rfl k) ?_
  show own_G p e below _ T0 (mkF m 3 #[.val (.ref s1), .val (.int (2 : Int32)), .val (.int (0 : Int32))] [(.int (0 : Int32))])
  refine own_go (fun t k => XS.iloadN X0.here hx rfl (hb hby d5_3) rfl k) ?_
  show own_G p e below _ T0 (mkF m 4 #[.val (.ref s1), .val (.int (2 : Int32)), .val (.int (0 : Int32))] [(.int (2 : Int32)), (.int (0 : Int32))])
  refine own_go (fun t k => XS.icmpNo X0.here hx rfl (hb hby d5_4) rfl (by decide) k) ?_
  show own_G p e below _ T0 (mkF m 7 #[.val (.ref s1), .val (.int (2 : Int32)), .val (.int (0 : Int32))] [])
  refine own_go (fun t k => XS.aloadN X0.here hx rfl (hb hby d5_7) rfl rfl k) ?_
  show own_G p e below _ T0 (mkF m 8 #[.val (.ref s1), .val (.int (2 : Int32)), .val (.int (0 : Int32))] [(.ref s1)])
  obtain ⟨T1, X1, e1, st1⟩ := getF X0 hx hZ hown (host := "") (Or.inl (hw _ (List.mem_of_getElem? (i := 12) rfl))) Via.refl e0 F_v (g := (mkF m 8 #[.val (.ref s1), .val (.int (2 : Int32)), .val (.int (0 : Int32))] [(.ref s1)])) rfl rfl (hb hby d5_8)
  refine own_go st1 ?_
  show own_G p e below _ T1 (mkF m 11 #[.val (.ref s1), .val (.int (2 : Int32)), .val (.int (0 : Int32))] [(.ref ar)])
  refine own_go (fun t k => XS.aloadN X1.here hx rfl (hb hby d5_11) rfl rfl k) ?_
  show own_G p e below _ T1 (mkF m 12 #[.val (.ref s1), .val (.int (2 : Int32)), .val (.int (0 : Int32))] [(.ref s1), (.ref ar)])
  refine own_go (fun t k => XS.dup X1.here hx rfl (hb hby d5_12) rfl rfl k) ?_
  show own_G p e below _ T1 (mkF m 13 #[.val (.ref s1), .val (.int (2 : Int32)), .val (.int (0 : Int32))] [(.ref s1), (.ref s1), (.ref ar)])
  obtain ⟨T2, X2, e2, st2⟩ := getF X1 hx hZ hown (host := "") (Or.inl (hw _ (List.mem_of_getElem? (i := 26) rfl))) Via.refl e1 F_s (g := (mkF m 13 #[.val (.ref s1), .val (.int (2 : Int32)), .val (.int (0 : Int32))] [(.ref s1), (.ref s1), (.ref ar)])) rfl rfl (hb hby d5_13)
  refine own_go st2 ?_
  show own_G p e below _ T2 (mkF m 16 #[.val (.ref s1), .val (.int (2 : Int32)), .val (.int (0 : Int32))] [(.int (3 : Int32)), (.ref s1), (.ref ar)])
  refine own_go (fun t k => XS.iconst X2.here hx rfl (hb hby d5_16) k) ?_
  show own_G p e below _ T2 (mkF m 17 #[.val (.ref s1), .val (.int (2 : Int32)), .val (.int (0 : Int32))] [(.int (1 : Int32)), (.int (3 : Int32)), (.ref s1), (.ref ar)])
  refine own_go (fun t k => XS.isub X2.here hx rfl (hb hby d5_17) rfl k) ?_
  show own_G p e below _ T2 (mkF m 18 #[.val (.ref s1), .val (.int (2 : Int32)), .val (.int (0 : Int32))] [(.int (2 : Int32)), (.ref s1), (.ref ar)])
  refine own_go (fun t k => XT.dupX1 X2.here hx rfl (hb hby d5_18) rfl rfl rfl k) ?_
  show own_G p e below _ T2 (mkF m 19 #[.val (.ref s1), .val (.int (2 : Int32)), .val (.int (0 : Int32))] [(.int (2 : Int32)), (.ref s1), (.int (2 : Int32)), (.ref ar)])
  obtain ⟨T3, h3, X3, e3, W3, st3⟩ := putF X2 hx hZ hown (host := "") (Or.inl (hw _ (List.mem_of_getElem? (i := 26) rfl))) Via.refl e2 F_s E_s (Or.inl (hw _ (List.mem_of_getElem? (i := 27) rfl))) (hw _ (List.mem_of_getElem? (i := 2) rfl)) (ty := .int) (by decide) rfl rfl (g := (mkF m 19 #[.val (.ref s1), .val (.int (2 : Int32)), .val (.int (0 : Int32))] [(.int (2 : Int32)), (.ref s1), (.int (2 : Int32)), (.ref ar)])) rfl rfl (hb hby d5_19)
  have Fs3 := F_s.same W3
  have Fv3 := F_v.other W3 (Or.inr (slot_ne (Or.inl (hw _ (List.mem_of_getElem? (i := 13) rfl))) (Or.inl (hw _ (List.mem_of_getElem? (i := 27) rfl))) (by decide) (t := .array (.object "java/lang/Object")) (t' := .int) (by decide +kernel) (by decide +kernel)))
  have E3 := E_s.wr W3
  have A3 := A_r.other W3 (Ne.symm ne_s)
  have N3 := Fr.snoc X3 N0 g1
  have K3 := (Keep.refl h0 [s1, ar]).wr W3 (Or.inl (by simp))
  refine own_go st3 ?_
  show own_G p e below _ T3 (mkF m 22 #[.val (.ref s1), .val (.int (2 : Int32)), .val (.int (0 : Int32))] [(.int (2 : Int32)), (.ref ar)])
  refine own_go (fun t k => XS.aconstNull X3.here hx rfl (hb hby d5_22) k) ?_
  show own_G p e below _ T3 (mkF m 23 #[.val (.ref s1), .val (.int (2 : Int32)), .val (.int (0 : Int32))] [.null, (.int (2 : Int32)), (.ref ar)])
  obtain ⟨T4, h4, X4, e4, W4, st4⟩ := stR X3 hx hZ e3 A3 (j := (2 : Int32)) (own_in hsz (by decide)) rfl (Or.inl rfl) (g := (mkF m 23 #[.val (.ref s1), .val (.int (2 : Int32)), .val (.int (0 : Int32))] [.null, (.int (2 : Int32)), (.ref ar)])) rfl rfl (hb hby d5_23)
  have A4 : Arr Z h4 ar (cl.setSlot 2 .null) (.object "java/lang/Object") := A3.same W4
  have z4 : (cl.setSlot 2 .null).slots.size = 64 := (sz_set _ _ _).trans hsz
  have u4_0 : (cl.setSlot 2 .null).slots[0]? = some v0 := own_miss t0 (by decide)
  have u4_1 : (cl.setSlot 2 .null).slots[1]? = some v1 := own_miss t1 (by decide)
  have u4_2 : (cl.setSlot 2 .null).slots[2]? = some .null := own_hit hsz (by decide)
  have u4_3 : (cl.setSlot 2 .null).slots[3]? = some v3 := own_miss t3 (by decide)
  have Fs4 := Fs3.other W4 (Or.inl ne_s)
  have Fv4 := Fv3.other W4 (Or.inl ne_s)
  have E4 := E3.wr W4
  have N4 := Fr.snoc X4 N3 g2
  have K4 := K3.wr W4 (Or.inl (by simp))
  refine own_go st4 ?_
  show own_G p e below _ T4 (mkF m 24 #[.val (.ref s1), .val (.int (2 : Int32)), .val (.int (0 : Int32))] [])
  refine own_go (fun t k => XS.iinc X4.here hx rfl (hb hby d5_24) rfl (l' := #[.val (.ref s1), .val (.int (2 : Int32)), .val (.int (1 : Int32))]) rfl k) ?_
  show own_G p e below _ T4 (mkF m 27 #[.val (.ref s1), .val (.int (2 : Int32)), .val (.int (1 : Int32))] [])
  refine own_go (fun t k => XS.goto X4.here hx rfl (pc0 := 27) (pc' := 2) rfl (hb hby d5_27) (by decide) (by decide) k) ?_
  show own_G p e below _ T4 (mkF m 2 #[.val (.ref s1), .val (.int (2 : Int32)), .val (.int (1 : Int32))] [])
  refine own_go (fun t k => XS.iloadN X4.here hx rfl (hb hby d5_2) rfl k) ?_
  show own_G p e below _ T4 (mkF m 3 #[.val (.ref s1), .val (.int (2 : Int32)), .val (.int (1 : Int32))] [(.int (1 : Int32))])
  refine own_go (fun t k => XS.iloadN X4.here hx rfl (hb hby d5_3) rfl k) ?_
  show own_G p e below _ T4 (mkF m 4 #[.val (.ref s1), .val (.int (2 : Int32)), .val (.int (1 : Int32))] [(.int (2 : Int32)), (.int (1 : Int32))])
  refine own_go (fun t k => XS.icmpNo X4.here hx rfl (hb hby d5_4) rfl (by decide) k) ?_
  show own_G p e below _ T4 (mkF m 7 #[.val (.ref s1), .val (.int (2 : Int32)), .val (.int (1 : Int32))] [])
  refine own_go (fun t k => XS.aloadN X4.here hx rfl (hb hby d5_7) rfl rfl k) ?_
  show own_G p e below _ T4 (mkF m 8 #[.val (.ref s1), .val (.int (2 : Int32)), .val (.int (1 : Int32))] [(.ref s1)])
  obtain ⟨T5, X5, e5, st5⟩ := getF X4 hx hZ hown (host := "") (Or.inl (hw _ (List.mem_of_getElem? (i := 12) rfl))) Via.refl e4 Fv4 (g := (mkF m 8 #[.val (.ref s1), .val (.int (2 : Int32)), .val (.int (1 : Int32))] [(.ref s1)])) rfl rfl (hb hby d5_8)
  refine own_go st5 ?_
  show own_G p e below _ T5 (mkF m 11 #[.val (.ref s1), .val (.int (2 : Int32)), .val (.int (1 : Int32))] [(.ref ar)])
  refine own_go (fun t k => XS.aloadN X5.here hx rfl (hb hby d5_11) rfl rfl k) ?_
  show own_G p e below _ T5 (mkF m 12 #[.val (.ref s1), .val (.int (2 : Int32)), .val (.int (1 : Int32))] [(.ref s1), (.ref ar)])
  refine own_go (fun t k => XS.dup X5.here hx rfl (hb hby d5_12) rfl rfl k) ?_
  show own_G p e below _ T5 (mkF m 13 #[.val (.ref s1), .val (.int (2 : Int32)), .val (.int (1 : Int32))] [(.ref s1), (.ref s1), (.ref ar)])
  obtain ⟨T6, X6, e6, st6⟩ := getF X5 hx hZ hown (host := "") (Or.inl (hw _ (List.mem_of_getElem? (i := 26) rfl))) Via.refl e5 Fs4 (g := (mkF m 13 #[.val (.ref s1), .val (.int (2 : Int32)), .val (.int (1 : Int32))] [(.ref s1), (.ref s1), (.ref ar)])) rfl rfl (hb hby d5_13)
  refine own_go st6 ?_
  show own_G p e below _ T6 (mkF m 16 #[.val (.ref s1), .val (.int (2 : Int32)), .val (.int (1 : Int32))] [(.int (2 : Int32)), (.ref s1), (.ref ar)])
  refine own_go (fun t k => XS.iconst X6.here hx rfl (hb hby d5_16) k) ?_
  show own_G p e below _ T6 (mkF m 17 #[.val (.ref s1), .val (.int (2 : Int32)), .val (.int (1 : Int32))] [(.int (1 : Int32)), (.int (2 : Int32)), (.ref s1), (.ref ar)])
  refine own_go (fun t k => XS.isub X6.here hx rfl (hb hby d5_17) rfl k) ?_
  show own_G p e below _ T6 (mkF m 18 #[.val (.ref s1), .val (.int (2 : Int32)), .val (.int (1 : Int32))] [(.int (1 : Int32)), (.ref s1), (.ref ar)])
  refine own_go (fun t k => XT.dupX1 X6.here hx rfl (hb hby d5_18) rfl rfl rfl k) ?_
  show own_G p e below _ T6 (mkF m 19 #[.val (.ref s1), .val (.int (2 : Int32)), .val (.int (1 : Int32))] [(.int (1 : Int32)), (.ref s1), (.int (1 : Int32)), (.ref ar)])
  obtain ⟨T7, h7, X7, e7, W7, st7⟩ := putF X6 hx hZ hown (host := "") (Or.inl (hw _ (List.mem_of_getElem? (i := 26) rfl))) Via.refl e6 Fs4 E4 (Or.inl (hw _ (List.mem_of_getElem? (i := 27) rfl))) (hw _ (List.mem_of_getElem? (i := 2) rfl)) (ty := .int) (by decide) rfl rfl (g := (mkF m 19 #[.val (.ref s1), .val (.int (2 : Int32)), .val (.int (1 : Int32))] [(.int (1 : Int32)), (.ref s1), (.int (1 : Int32)), (.ref ar)])) rfl rfl (hb hby d5_19)
  have Fs7 := Fs4.same W7
  have Fv7 := Fv4.other W7 (Or.inr (slot_ne (Or.inl (hw _ (List.mem_of_getElem? (i := 13) rfl))) (Or.inl (hw _ (List.mem_of_getElem? (i := 27) rfl))) (by decide) (t := .array (.object "java/lang/Object")) (t' := .int) (by decide +kernel) (by decide +kernel)))
  have E7 := E4.wr W7
  have A7 := A4.other W7 (Ne.symm ne_s)
  have N7 := Fr.snoc X7 N4 g1
  have K7 := K4.wr W7 (Or.inl (by simp))
  refine own_go st7 ?_
  show own_G p e below _ T7 (mkF m 22 #[.val (.ref s1), .val (.int (2 : Int32)), .val (.int (1 : Int32))] [(.int (1 : Int32)), (.ref ar)])
  refine own_go (fun t k => XS.aconstNull X7.here hx rfl (hb hby d5_22) k) ?_
  show own_G p e below _ T7 (mkF m 23 #[.val (.ref s1), .val (.int (2 : Int32)), .val (.int (1 : Int32))] [.null, (.int (1 : Int32)), (.ref ar)])
  obtain ⟨T8, h8, X8, e8, W8, st8⟩ := stR X7 hx hZ e7 A7 (j := (1 : Int32)) (own_in z4 (by decide)) rfl (Or.inl rfl) (g := (mkF m 23 #[.val (.ref s1), .val (.int (2 : Int32)), .val (.int (1 : Int32))] [.null, (.int (1 : Int32)), (.ref ar)])) rfl rfl (hb hby d5_23)
  have A8 : Arr Z h8 ar ((cl.setSlot 2 .null).setSlot 1 .null) (.object "java/lang/Object") := A7.same W8
  have z8 : ((cl.setSlot 2 .null).setSlot 1 .null).slots.size = 64 := (sz_set _ _ _).trans z4
  have u8_0 : ((cl.setSlot 2 .null).setSlot 1 .null).slots[0]? = some v0 := own_miss u4_0 (by decide)
  have u8_1 : ((cl.setSlot 2 .null).setSlot 1 .null).slots[1]? = some .null := own_hit z4 (by decide)
  have u8_2 : ((cl.setSlot 2 .null).setSlot 1 .null).slots[2]? = some .null := own_miss u4_2 (by decide)
  have u8_3 : ((cl.setSlot 2 .null).setSlot 1 .null).slots[3]? = some v3 := own_miss u4_3 (by decide)
  have Fs8 := Fs7.other W8 (Or.inl ne_s)
  have Fv8 := Fv7.other W8 (Or.inl ne_s)
  have E8 := E7.wr W8
  have N8 := Fr.snoc X8 N7 g2
  have K8 := K7.wr W8 (Or.inl (by simp))
  refine own_go st8 ?_
  show own_G p e below _ T8 (mkF m 24 #[.val (.ref s1), .val (.int (2 : Int32)), .val (.int (1 : Int32))] [])
  refine own_go (fun t k => XS.iinc X8.here hx rfl (hb hby d5_24) rfl (l' := #[.val (.ref s1), .val (.int (2 : Int32)), .val (.int (2 : Int32))]) rfl k) ?_
  show own_G p e below _ T8 (mkF m 27 #[.val (.ref s1), .val (.int (2 : Int32)), .val (.int (2 : Int32))] [])
  refine own_go (fun t k => XS.goto X8.here hx rfl (pc0 := 27) (pc' := 2) rfl (hb hby d5_27) (by decide) (by decide) k) ?_
  show own_G p e below _ T8 (mkF m 2 #[.val (.ref s1), .val (.int (2 : Int32)), .val (.int (2 : Int32))] [])
  refine own_go (fun t k => XS.iloadN X8.here hx rfl (hb hby d5_2) rfl k) ?_
  show own_G p e below _ T8 (mkF m 3 #[.val (.ref s1), .val (.int (2 : Int32)), .val (.int (2 : Int32))] [(.int (2 : Int32))])
  refine own_go (fun t k => XS.iloadN X8.here hx rfl (hb hby d5_3) rfl k) ?_
  show own_G p e below _ T8 (mkF m 4 #[.val (.ref s1), .val (.int (2 : Int32)), .val (.int (2 : Int32))] [(.int (2 : Int32)), (.int (2 : Int32))])
  refine own_go (fun t k => XS.icmpYes X8.here hx rfl (pc0 := 4) (pc' := 30) rfl (hb hby d5_4) rfl (by decide) (by decide) (by decide) k) ?_
  show own_G p e below _ T8 (mkF m 30 #[.val (.ref s1), .val (.int (2 : Int32)), .val (.int (2 : Int32))] [])
  exact own_ret0 X8 hx hlk hret (hb hby d5_30) (by decide) (by decide) ⟨rfl, N8, (by rw [e8]; exact K8), (by rw [e8]; exact ⟨E8, Fv8, Fs8, ne_s, _, A8, O_v, z8, u8_0, u8_1, u8_2, u8_3⟩)⟩
set_option maxRecDepth 65536 in
set_option maxHeartbeats 40000000 in
theorem c_drop_4_0 (l : Launch) (Z : State) (a0 : Array Value) (hw : ∀ d ∈ tables_1, d.before a0 Z = true) (s1 ar : Addr) (v0 v1 v2 v3 : Value) (h0 : Heap) (n0 : Nat) (Z0 : n0 ≤ h0.size) (S : own_ST Z h0 s1 ar (4 : Int32) v0 v1 v2 v3) (g1 : n0 ≤ s1) (g2 : n0 ≤ ar) :
    own_M l Z (⟨"com/example/halyard/halyard/engine/OperandStack", "drop", "(I)V"⟩ : MethodName) prog_114_method_4_code 3 none ⟨0, 0, 0, 0⟩ #[.ref s1, .int (0 : Int32)] h0 (fun v h L => v = none ∧ Fr n0 L ∧ Keep h0 h [s1, ar] ∧ own_ST Z h s1 ar (4 : Int32) v0 v1 v2 v3) := by
  refine own_body pn_5 ?_
  intro p e s m below meth c T0 hx hby hml hlk hown hret hnm hH hnamed X0 e0
  have hZ := hH.wide
  replace hown : s.vm.findClass "com/example/halyard/halyard/engine/OperandStack" = some m.cls := hown
  replace hml : c.maxLocals = 3 := hml
  obtain ⟨E_s, F_v, F_s, ne_s, cl, A_r, O_v, hsz, t0, t1, t2, t3⟩ := id S
  have N0 := Fr.nil n0
  have ef : entryFrame m #[.ref s1, .int (0 : Int32)] 3 = (mkF m 0 #[.val (.ref s1), .val (.int (0 : Int32)), .unset] []) := by first | (simp [entryFrame, mkF, argsToLocals, Value.category]; done) | rfl
  rw [ef]
  refine own_go (fun t k => XS.iconst X0.here hx rfl (hb hby d5_0) k) ?_
  show own_G p e below _ T0 (mkF m 1 #[.val (.ref s1), .val (.int (0 : Int32)), .unset] [(.int (0 : Int32))])
  refine own_go (fun t k => XS.istoreN X0.here hx rfl (hb hby d5_1) rfl (l' := #[.val (.ref s1), .val (.int (0 : Int32)), .val (.int (0 : Int32))]) rfl k) ?_
  show own_G p e below _ T0 (mkF m 2 #[.val (.ref s1), .val (.int (0 : Int32)), .val (.int (0 : Int32))] [])
  refine own_go (fun t k => XS.iloadN X0.here hx rfl (hb hby d5_2) rfl k) ?_
  show own_G p e below _ T0 (mkF m 3 #[.val (.ref s1), .val (.int (0 : Int32)), .val (.int (0 : Int32))] [(.int (0 : Int32))])
  refine own_go (fun t k => XS.iloadN X0.here hx rfl (hb hby d5_3) rfl k) ?_
  show own_G p e below _ T0 (mkF m 4 #[.val (.ref s1), .val (.int (0 : Int32)), .val (.int (0 : Int32))] [(.int (0 : Int32)), (.int (0 : Int32))])
  refine own_go (fun t k => XS.icmpYes X0.here hx rfl (pc0 := 4) (pc' := 30) rfl (hb hby d5_4) rfl (by decide) (by decide) (by decide) k) ?_
  show own_G p e below _ T0 (mkF m 30 #[.val (.ref s1), .val (.int (0 : Int32)), .val (.int (0 : Int32))] [])
  exact own_ret0 X0 hx hlk hret (hb hby d5_30) (by decide) (by decide) ⟨rfl, N0, (by rw [e0]; exact Keep.refl _ _), (by rw [e0]; exact S)⟩
set_option maxRecDepth 65536 in
set_option maxHeartbeats 40000000 in
theorem c_drop_4_1 (l : Launch) (Z : State) (a0 : Array Value) (hw : ∀ d ∈ tables_1, d.before a0 Z = true) (s1 ar : Addr) (v0 v1 v2 v3 : Value) (h0 : Heap) (n0 : Nat) (Z0 : n0 ≤ h0.size) (S : own_ST Z h0 s1 ar (4 : Int32) v0 v1 v2 v3) (g1 : n0 ≤ s1) (g2 : n0 ≤ ar) :
    own_M l Z (⟨"com/example/halyard/halyard/engine/OperandStack", "drop", "(I)V"⟩ : MethodName) prog_114_method_4_code 3 none ⟨0, 0, 0, 0⟩ #[.ref s1, .int (1 : Int32)] h0 (fun v h L => v = none ∧ Fr n0 L ∧ Keep h0 h [s1, ar] ∧ own_ST Z h s1 ar (3 : Int32) v0 v1 v2 .null) := by
  refine own_body pn_5 ?_
  intro p e s m below meth c T0 hx hby hml hlk hown hret hnm hH hnamed X0 e0
  have hZ := hH.wide
  replace hown : s.vm.findClass "com/example/halyard/halyard/engine/OperandStack" = some m.cls := hown
  replace hml : c.maxLocals = 3 := hml
  obtain ⟨E_s, F_v, F_s, ne_s, cl, A_r, O_v, hsz, t0, t1, t2, t3⟩ := id S
  have N0 := Fr.nil n0
  have ef : entryFrame m #[.ref s1, .int (1 : Int32)] 3 = (mkF m 0 #[.val (.ref s1), .val (.int (1 : Int32)), .unset] []) := by first | (simp [entryFrame, mkF, argsToLocals, Value.category]; done) | rfl
  rw [ef]
  refine own_go (fun t k => XS.iconst X0.here hx rfl (hb hby d5_0) k) ?_
  show own_G p e below _ T0 (mkF m 1 #[.val (.ref s1), .val (.int (1 : Int32)), .unset] [(.int (0 : Int32))])
  refine own_go (fun t k => XS.istoreN X0.here hx rfl (hb hby d5_1) rfl (l' := #[.val (.ref s1), .val (.int (1 : Int32)), .val (.int (0 : Int32))]) rfl k) ?_
  show own_G p e below _ T0 (mkF m 2 #[.val (.ref s1), .val (.int (1 : Int32)), .val (.int (0 : Int32))] [])
  refine own_go (fun t k => XS.iloadN X0.here hx rfl (hb hby d5_2) rfl k) ?_
  show own_G p e below _ T0 (mkF m 3 #[.val (.ref s1), .val (.int (1 : Int32)), .val (.int (0 : Int32))] [(.int (0 : Int32))])
  refine own_go (fun t k => XS.iloadN X0.here hx rfl (hb hby d5_3) rfl k) ?_
  show own_G p e below _ T0 (mkF m 4 #[.val (.ref s1), .val (.int (1 : Int32)), .val (.int (0 : Int32))] [(.int (1 : Int32)), (.int (0 : Int32))])
  refine own_go (fun t k => XS.icmpNo X0.here hx rfl (hb hby d5_4) rfl (by decide) k) ?_
  show own_G p e below _ T0 (mkF m 7 #[.val (.ref s1), .val (.int (1 : Int32)), .val (.int (0 : Int32))] [])
  refine own_go (fun t k => XS.aloadN X0.here hx rfl (hb hby d5_7) rfl rfl k) ?_
  show own_G p e below _ T0 (mkF m 8 #[.val (.ref s1), .val (.int (1 : Int32)), .val (.int (0 : Int32))] [(.ref s1)])
  obtain ⟨T1, X1, e1, st1⟩ := getF X0 hx hZ hown (host := "") (Or.inl (hw _ (List.mem_of_getElem? (i := 12) rfl))) Via.refl e0 F_v (g := (mkF m 8 #[.val (.ref s1), .val (.int (1 : Int32)), .val (.int (0 : Int32))] [(.ref s1)])) rfl rfl (hb hby d5_8)
  refine own_go st1 ?_
  show own_G p e below _ T1 (mkF m 11 #[.val (.ref s1), .val (.int (1 : Int32)), .val (.int (0 : Int32))] [(.ref ar)])
  refine own_go (fun t k => XS.aloadN X1.here hx rfl (hb hby d5_11) rfl rfl k) ?_
  show own_G p e below _ T1 (mkF m 12 #[.val (.ref s1), .val (.int (1 : Int32)), .val (.int (0 : Int32))] [(.ref s1), (.ref ar)])
  refine own_go (fun t k => XS.dup X1.here hx rfl (hb hby d5_12) rfl rfl k) ?_
  show own_G p e below _ T1 (mkF m 13 #[.val (.ref s1), .val (.int (1 : Int32)), .val (.int (0 : Int32))] [(.ref s1), (.ref s1), (.ref ar)])
  obtain ⟨T2, X2, e2, st2⟩ := getF X1 hx hZ hown (host := "") (Or.inl (hw _ (List.mem_of_getElem? (i := 26) rfl))) Via.refl e1 F_s (g := (mkF m 13 #[.val (.ref s1), .val (.int (1 : Int32)), .val (.int (0 : Int32))] [(.ref s1), (.ref s1), (.ref ar)])) rfl rfl (hb hby d5_13)
  refine own_go st2 ?_
  show own_G p e below _ T2 (mkF m 16 #[.val (.ref s1), .val (.int (1 : Int32)), .val (.int (0 : Int32))] [(.int (4 : Int32)), (.ref s1), (.ref ar)])
  refine own_go (fun t k => XS.iconst X2.here hx rfl (hb hby d5_16) k) ?_
  show own_G p e below _ T2 (mkF m 17 #[.val (.ref s1), .val (.int (1 : Int32)), .val (.int (0 : Int32))] [(.int (1 : Int32)), (.int (4 : Int32)), (.ref s1), (.ref ar)])
  refine own_go (fun t k => XS.isub X2.here hx rfl (hb hby d5_17) rfl k) ?_
  show own_G p e below _ T2 (mkF m 18 #[.val (.ref s1), .val (.int (1 : Int32)), .val (.int (0 : Int32))] [(.int (3 : Int32)), (.ref s1), (.ref ar)])
  refine own_go (fun t k => XT.dupX1 X2.here hx rfl (hb hby d5_18) rfl rfl rfl k) ?_
  show own_G p e below _ T2 (mkF m 19 #[.val (.ref s1), .val (.int (1 : Int32)), .val (.int (0 : Int32))] [(.int (3 : Int32)), (.ref s1), (.int (3 : Int32)), (.ref ar)])
  obtain ⟨T3, h3, X3, e3, W3, st3⟩ := putF X2 hx hZ hown (host := "") (Or.inl (hw _ (List.mem_of_getElem? (i := 26) rfl))) Via.refl e2 F_s E_s (Or.inl (hw _ (List.mem_of_getElem? (i := 27) rfl))) (hw _ (List.mem_of_getElem? (i := 2) rfl)) (ty := .int) (by decide) rfl rfl (g := (mkF m 19 #[.val (.ref s1), .val (.int (1 : Int32)), .val (.int (0 : Int32))] [(.int (3 : Int32)), (.ref s1), (.int (3 : Int32)), (.ref ar)])) rfl rfl (hb hby d5_19)
  have Fs3 := F_s.same W3
  have Fv3 := F_v.other W3 (Or.inr (slot_ne (Or.inl (hw _ (List.mem_of_getElem? (i := 13) rfl))) (Or.inl (hw _ (List.mem_of_getElem? (i := 27) rfl))) (by decide) (t := .array (.object "java/lang/Object")) (t' := .int) (by decide +kernel) (by decide +kernel)))
  have E3 := E_s.wr W3
  have A3 := A_r.other W3 (Ne.symm ne_s)
  have N3 := Fr.snoc X3 N0 g1
  have K3 := (Keep.refl h0 [s1, ar]).wr W3 (Or.inl (by simp))
  refine own_go st3 ?_
  show own_G p e below _ T3 (mkF m 22 #[.val (.ref s1), .val (.int (1 : Int32)), .val (.int (0 : Int32))] [(.int (3 : Int32)), (.ref ar)])
  refine own_go (fun t k => XS.aconstNull X3.here hx rfl (hb hby d5_22) k) ?_
  show own_G p e below _ T3 (mkF m 23 #[.val (.ref s1), .val (.int (1 : Int32)), .val (.int (0 : Int32))] [.null, (.int (3 : Int32)), (.ref ar)])
  obtain ⟨T4, h4, X4, e4, W4, st4⟩ := stR X3 hx hZ e3 A3 (j := (3 : Int32)) (own_in hsz (by decide)) rfl (Or.inl rfl) (g := (mkF m 23 #[.val (.ref s1), .val (.int (1 : Int32)), .val (.int (0 : Int32))] [.null, (.int (3 : Int32)), (.ref ar)])) rfl rfl (hb hby d5_23)
  have A4 : Arr Z h4 ar (cl.setSlot 3 .null) (.object "java/lang/Object") := A3.same W4
  have z4 : (cl.setSlot 3 .null).slots.size = 64 := (sz_set _ _ _).trans hsz
  have u4_0 : (cl.setSlot 3 .null).slots[0]? = some v0 := own_miss t0 (by decide)
  have u4_1 : (cl.setSlot 3 .null).slots[1]? = some v1 := own_miss t1 (by decide)
  have u4_2 : (cl.setSlot 3 .null).slots[2]? = some v2 := own_miss t2 (by decide)
  have u4_3 : (cl.setSlot 3 .null).slots[3]? = some .null := own_hit hsz (by decide)
  have Fs4 := Fs3.other W4 (Or.inl ne_s)
  have Fv4 := Fv3.other W4 (Or.inl ne_s)
  have E4 := E3.wr W4
  have N4 := Fr.snoc X4 N3 g2
  have K4 := K3.wr W4 (Or.inl (by simp))
  refine own_go st4 ?_
  show own_G p e below _ T4 (mkF m 24 #[.val (.ref s1), .val (.int (1 : Int32)), .val (.int (0 : Int32))] [])
  refine own_go (fun t k => XS.iinc X4.here hx rfl (hb hby d5_24) rfl (l' := #[.val (.ref s1), .val (.int (1 : Int32)), .val (.int (1 : Int32))]) rfl k) ?_
  show own_G p e below _ T4 (mkF m 27 #[.val (.ref s1), .val (.int (1 : Int32)), .val (.int (1 : Int32))] [])
  refine own_go (fun t k => XS.goto X4.here hx rfl (pc0 := 27) (pc' := 2) rfl (hb hby d5_27) (by decide) (by decide) k) ?_
  show own_G p e below _ T4 (mkF m 2 #[.val (.ref s1), .val (.int (1 : Int32)), .val (.int (1 : Int32))] [])
  refine own_go (fun t k => XS.iloadN X4.here hx rfl (hb hby d5_2) rfl k) ?_
  show own_G p e below _ T4 (mkF m 3 #[.val (.ref s1), .val (.int (1 : Int32)), .val (.int (1 : Int32))] [(.int (1 : Int32))])
  refine own_go (fun t k => XS.iloadN X4.here hx rfl (hb hby d5_3) rfl k) ?_
  show own_G p e below _ T4 (mkF m 4 #[.val (.ref s1), .val (.int (1 : Int32)), .val (.int (1 : Int32))] [(.int (1 : Int32)), (.int (1 : Int32))])
  refine own_go (fun t k => XS.icmpYes X4.here hx rfl (pc0 := 4) (pc' := 30) rfl (hb hby d5_4) rfl (by decide) (by decide) (by decide) k) ?_
  show own_G p e below _ T4 (mkF m 30 #[.val (.ref s1), .val (.int (1 : Int32)), .val (.int (1 : Int32))] [])
  exact own_ret0 X4 hx hlk hret (hb hby d5_30) (by decide) (by decide) ⟨rfl, N4, (by rw [e4]; exact K4), (by rw [e4]; exact ⟨E4, Fv4, Fs4, ne_s, _, A4, O_v, z4, u4_0, u4_1, u4_2, u4_3⟩)⟩
set_option maxRecDepth 65536 in
set_option maxHeartbeats 40000000 in
theorem c_drop_4_2 (l : Launch) (Z : State) (a0 : Array Value) (hw : ∀ d ∈ tables_1, d.before a0 Z = true) (s1 ar : Addr) (v0 v1 v2 v3 : Value) (h0 : Heap) (n0 : Nat) (Z0 : n0 ≤ h0.size) (S : own_ST Z h0 s1 ar (4 : Int32) v0 v1 v2 v3) (g1 : n0 ≤ s1) (g2 : n0 ≤ ar) :
    own_M l Z (⟨"com/example/halyard/halyard/engine/OperandStack", "drop", "(I)V"⟩ : MethodName) prog_114_method_4_code 3 none ⟨0, 0, 0, 0⟩ #[.ref s1, .int (2 : Int32)] h0 (fun v h L => v = none ∧ Fr n0 L ∧ Keep h0 h [s1, ar] ∧ own_ST Z h s1 ar (2 : Int32) v0 v1 .null .null) := by
  refine own_body pn_5 ?_
  intro p e s m below meth c T0 hx hby hml hlk hown hret hnm hH hnamed X0 e0
  have hZ := hH.wide
  replace hown : s.vm.findClass "com/example/halyard/halyard/engine/OperandStack" = some m.cls := hown
  replace hml : c.maxLocals = 3 := hml
  obtain ⟨E_s, F_v, F_s, ne_s, cl, A_r, O_v, hsz, t0, t1, t2, t3⟩ := id S
  have N0 := Fr.nil n0
  have ef : entryFrame m #[.ref s1, .int (2 : Int32)] 3 = (mkF m 0 #[.val (.ref s1), .val (.int (2 : Int32)), .unset] []) := by first | (simp [entryFrame, mkF, argsToLocals, Value.category]; done) | rfl
  rw [ef]
  refine own_go (fun t k => XS.iconst X0.here hx rfl (hb hby d5_0) k) ?_
  show own_G p e below _ T0 (mkF m 1 #[.val (.ref s1), .val (.int (2 : Int32)), .unset] [(.int (0 : Int32))])
  refine own_go (fun t k => XS.istoreN X0.here hx rfl (hb hby d5_1) rfl (l' := #[.val (.ref s1), .val (.int (2 : Int32)), .val (.int (0 : Int32))]) rfl k) ?_
  show own_G p e below _ T0 (mkF m 2 #[.val (.ref s1), .val (.int (2 : Int32)), .val (.int (0 : Int32))] [])
  refine own_go (fun t k => XS.iloadN X0.here hx rfl (hb hby d5_2) rfl k) ?_
  show own_G p e below _ T0 (mkF m 3 #[.val (.ref s1), .val (.int (2 : Int32)), .val (.int (0 : Int32))] [(.int (0 : Int32))])
  refine own_go (fun t k => XS.iloadN X0.here hx rfl (hb hby d5_3) rfl k) ?_
  show own_G p e below _ T0 (mkF m 4 #[.val (.ref s1), .val (.int (2 : Int32)), .val (.int (0 : Int32))] [(.int (2 : Int32)), (.int (0 : Int32))])
  refine own_go (fun t k => XS.icmpNo X0.here hx rfl (hb hby d5_4) rfl (by decide) k) ?_
  show own_G p e below _ T0 (mkF m 7 #[.val (.ref s1), .val (.int (2 : Int32)), .val (.int (0 : Int32))] [])
  refine own_go (fun t k => XS.aloadN X0.here hx rfl (hb hby d5_7) rfl rfl k) ?_
  show own_G p e below _ T0 (mkF m 8 #[.val (.ref s1), .val (.int (2 : Int32)), .val (.int (0 : Int32))] [(.ref s1)])
  obtain ⟨T1, X1, e1, st1⟩ := getF X0 hx hZ hown (host := "") (Or.inl (hw _ (List.mem_of_getElem? (i := 12) rfl))) Via.refl e0 F_v (g := (mkF m 8 #[.val (.ref s1), .val (.int (2 : Int32)), .val (.int (0 : Int32))] [(.ref s1)])) rfl rfl (hb hby d5_8)
  refine own_go st1 ?_
  show own_G p e below _ T1 (mkF m 11 #[.val (.ref s1), .val (.int (2 : Int32)), .val (.int (0 : Int32))] [(.ref ar)])
  refine own_go (fun t k => XS.aloadN X1.here hx rfl (hb hby d5_11) rfl rfl k) ?_
  show own_G p e below _ T1 (mkF m 12 #[.val (.ref s1), .val (.int (2 : Int32)), .val (.int (0 : Int32))] [(.ref s1), (.ref ar)])
  refine own_go (fun t k => XS.dup X1.here hx rfl (hb hby d5_12) rfl rfl k) ?_
  show own_G p e below _ T1 (mkF m 13 #[.val (.ref s1), .val (.int (2 : Int32)), .val (.int (0 : Int32))] [(.ref s1), (.ref s1), (.ref ar)])
  obtain ⟨T2, X2, e2, st2⟩ := getF X1 hx hZ hown (host := "") (Or.inl (hw _ (List.mem_of_getElem? (i := 26) rfl))) Via.refl e1 F_s (g := (mkF m 13 #[.val (.ref s1), .val (.int (2 : Int32)), .val (.int (0 : Int32))] [(.ref s1), (.ref s1), (.ref ar)])) rfl rfl (hb hby d5_13)
  refine own_go st2 ?_
  show own_G p e below _ T2 (mkF m 16 #[.val (.ref s1), .val (.int (2 : Int32)), .val (.int (0 : Int32))] [(.int (4 : Int32)), (.ref s1), (.ref ar)])
  refine own_go (fun t k => XS.iconst X2.here hx rfl (hb hby d5_16) k) ?_
  show own_G p e below _ T2 (mkF m 17 #[.val (.ref s1), .val (.int (2 : Int32)), .val (.int (0 : Int32))] [(.int (1 : Int32)), (.int (4 : Int32)), (.ref s1), (.ref ar)])
  refine own_go (fun t k => XS.isub X2.here hx rfl (hb hby d5_17) rfl k) ?_
  show own_G p e below _ T2 (mkF m 18 #[.val (.ref s1), .val (.int (2 : Int32)), .val (.int (0 : Int32))] [(.int (3 : Int32)), (.ref s1), (.ref ar)])
  refine own_go (fun t k => XT.dupX1 X2.here hx rfl (hb hby d5_18) rfl rfl rfl k) ?_
  show own_G p e below _ T2 (mkF m 19 #[.val (.ref s1), .val (.int (2 : Int32)), .val (.int (0 : Int32))] [(.int (3 : Int32)), (.ref s1), (.int (3 : Int32)), (.ref ar)])
  obtain ⟨T3, h3, X3, e3, W3, st3⟩ := putF X2 hx hZ hown (host := "") (Or.inl (hw _ (List.mem_of_getElem? (i := 26) rfl))) Via.refl e2 F_s E_s (Or.inl (hw _ (List.mem_of_getElem? (i := 27) rfl))) (hw _ (List.mem_of_getElem? (i := 2) rfl)) (ty := .int) (by decide) rfl rfl (g := (mkF m 19 #[.val (.ref s1), .val (.int (2 : Int32)), .val (.int (0 : Int32))] [(.int (3 : Int32)), (.ref s1), (.int (3 : Int32)), (.ref ar)])) rfl rfl (hb hby d5_19)
  have Fs3 := F_s.same W3
  have Fv3 := F_v.other W3 (Or.inr (slot_ne (Or.inl (hw _ (List.mem_of_getElem? (i := 13) rfl))) (Or.inl (hw _ (List.mem_of_getElem? (i := 27) rfl))) (by decide) (t := .array (.object "java/lang/Object")) (t' := .int) (by decide +kernel) (by decide +kernel)))
  have E3 := E_s.wr W3
  have A3 := A_r.other W3 (Ne.symm ne_s)
  have N3 := Fr.snoc X3 N0 g1
  have K3 := (Keep.refl h0 [s1, ar]).wr W3 (Or.inl (by simp))
  refine own_go st3 ?_
  show own_G p e below _ T3 (mkF m 22 #[.val (.ref s1), .val (.int (2 : Int32)), .val (.int (0 : Int32))] [(.int (3 : Int32)), (.ref ar)])
  refine own_go (fun t k => XS.aconstNull X3.here hx rfl (hb hby d5_22) k) ?_
  show own_G p e below _ T3 (mkF m 23 #[.val (.ref s1), .val (.int (2 : Int32)), .val (.int (0 : Int32))] [.null, (.int (3 : Int32)), (.ref ar)])
  obtain ⟨T4, h4, X4, e4, W4, st4⟩ := stR X3 hx hZ e3 A3 (j := (3 : Int32)) (own_in hsz (by decide)) rfl (Or.inl rfl) (g := (mkF m 23 #[.val (.ref s1), .val (.int (2 : Int32)), .val (.int (0 : Int32))] [.null, (.int (3 : Int32)), (.ref ar)])) rfl rfl (hb hby d5_23)
  have A4 : Arr Z h4 ar (cl.setSlot 3 .null) (.object "java/lang/Object") := A3.same W4
  have z4 : (cl.setSlot 3 .null).slots.size = 64 := (sz_set _ _ _).trans hsz
  have u4_0 : (cl.setSlot 3 .null).slots[0]? = some v0 := own_miss t0 (by decide)
  have u4_1 : (cl.setSlot 3 .null).slots[1]? = some v1 := own_miss t1 (by decide)
  have u4_2 : (cl.setSlot 3 .null).slots[2]? = some v2 := own_miss t2 (by decide)
  have u4_3 : (cl.setSlot 3 .null).slots[3]? = some .null := own_hit hsz (by decide)
  have Fs4 := Fs3.other W4 (Or.inl ne_s)
  have Fv4 := Fv3.other W4 (Or.inl ne_s)
  have E4 := E3.wr W4
  have N4 := Fr.snoc X4 N3 g2
  have K4 := K3.wr W4 (Or.inl (by simp))
  refine own_go st4 ?_
  show own_G p e below _ T4 (mkF m 24 #[.val (.ref s1), .val (.int (2 : Int32)), .val (.int (0 : Int32))] [])
  refine own_go (fun t k => XS.iinc X4.here hx rfl (hb hby d5_24) rfl (l' := #[.val (.ref s1), .val (.int (2 : Int32)), .val (.int (1 : Int32))]) rfl k) ?_
  show own_G p e below _ T4 (mkF m 27 #[.val (.ref s1), .val (.int (2 : Int32)), .val (.int (1 : Int32))] [])
  refine own_go (fun t k => XS.goto X4.here hx rfl (pc0 := 27) (pc' := 2) rfl (hb hby d5_27) (by decide) (by decide) k) ?_
  show own_G p e below _ T4 (mkF m 2 #[.val (.ref s1), .val (.int (2 : Int32)), .val (.int (1 : Int32))] [])
  refine own_go (fun t k => XS.iloadN X4.here hx rfl (hb hby d5_2) rfl k) ?_
  show own_G p e below _ T4 (mkF m 3 #[.val (.ref s1), .val (.int (2 : Int32)), .val (.int (1 : Int32))] [(.int (1 : Int32))])
  refine own_go (fun t k => XS.iloadN X4.here hx rfl (hb hby d5_3) rfl k) ?_
  show own_G p e below _ T4 (mkF m 4 #[.val (.ref s1), .val (.int (2 : Int32)), .val (.int (1 : Int32))] [(.int (2 : Int32)), (.int (1 : Int32))])
  refine own_go (fun t k => XS.icmpNo X4.here hx rfl (hb hby d5_4) rfl (by decide) k) ?_
  show own_G p e below _ T4 (mkF m 7 #[.val (.ref s1), .val (.int (2 : Int32)), .val (.int (1 : Int32))] [])
  refine own_go (fun t k => XS.aloadN X4.here hx rfl (hb hby d5_7) rfl rfl k) ?_
  show own_G p e below _ T4 (mkF m 8 #[.val (.ref s1), .val (.int (2 : Int32)), .val (.int (1 : Int32))] [(.ref s1)])
  obtain ⟨T5, X5, e5, st5⟩ := getF X4 hx hZ hown (host := "") (Or.inl (hw _ (List.mem_of_getElem? (i := 12) rfl))) Via.refl e4 Fv4 (g := (mkF m 8 #[.val (.ref s1), .val (.int (2 : Int32)), .val (.int (1 : Int32))] [(.ref s1)])) rfl rfl (hb hby d5_8)
  refine own_go st5 ?_
  show own_G p e below _ T5 (mkF m 11 #[.val (.ref s1), .val (.int (2 : Int32)), .val (.int (1 : Int32))] [(.ref ar)])
  refine own_go (fun t k => XS.aloadN X5.here hx rfl (hb hby d5_11) rfl rfl k) ?_
  show own_G p e below _ T5 (mkF m 12 #[.val (.ref s1), .val (.int (2 : Int32)), .val (.int (1 : Int32))] [(.ref s1), (.ref ar)])
  refine own_go (fun t k => XS.dup X5.here hx rfl (hb hby d5_12) rfl rfl k) ?_
  show own_G p e below _ T5 (mkF m 13 #[.val (.ref s1), .val (.int (2 : Int32)), .val (.int (1 : Int32))] [(.ref s1), (.ref s1), (.ref ar)])
  obtain ⟨T6, X6, e6, st6⟩ := getF X5 hx hZ hown (host := "") (Or.inl (hw _ (List.mem_of_getElem? (i := 26) rfl))) Via.refl e5 Fs4 (g := (mkF m 13 #[.val (.ref s1), .val (.int (2 : Int32)), .val (.int (1 : Int32))] [(.ref s1), (.ref s1), (.ref ar)])) rfl rfl (hb hby d5_13)
  refine own_go st6 ?_
  show own_G p e below _ T6 (mkF m 16 #[.val (.ref s1), .val (.int (2 : Int32)), .val (.int (1 : Int32))] [(.int (3 : Int32)), (.ref s1), (.ref ar)])
  refine own_go (fun t k => XS.iconst X6.here hx rfl (hb hby d5_16) k) ?_
  show own_G p e below _ T6 (mkF m 17 #[.val (.ref s1), .val (.int (2 : Int32)), .val (.int (1 : Int32))] [(.int (1 : Int32)), (.int (3 : Int32)), (.ref s1), (.ref ar)])
  refine own_go (fun t k => XS.isub X6.here hx rfl (hb hby d5_17) rfl k) ?_
  show own_G p e below _ T6 (mkF m 18 #[.val (.ref s1), .val (.int (2 : Int32)), .val (.int (1 : Int32))] [(.int (2 : Int32)), (.ref s1), (.ref ar)])
  refine own_go (fun t k => XT.dupX1 X6.here hx rfl (hb hby d5_18) rfl rfl rfl k) ?_
  show own_G p e below _ T6 (mkF m 19 #[.val (.ref s1), .val (.int (2 : Int32)), .val (.int (1 : Int32))] [(.int (2 : Int32)), (.ref s1), (.int (2 : Int32)), (.ref ar)])
  obtain ⟨T7, h7, X7, e7, W7, st7⟩ := putF X6 hx hZ hown (host := "") (Or.inl (hw _ (List.mem_of_getElem? (i := 26) rfl))) Via.refl e6 Fs4 E4 (Or.inl (hw _ (List.mem_of_getElem? (i := 27) rfl))) (hw _ (List.mem_of_getElem? (i := 2) rfl)) (ty := .int) (by decide) rfl rfl (g := (mkF m 19 #[.val (.ref s1), .val (.int (2 : Int32)), .val (.int (1 : Int32))] [(.int (2 : Int32)), (.ref s1), (.int (2 : Int32)), (.ref ar)])) rfl rfl (hb hby d5_19)
  have Fs7 := Fs4.same W7
  have Fv7 := Fv4.other W7 (Or.inr (slot_ne (Or.inl (hw _ (List.mem_of_getElem? (i := 13) rfl))) (Or.inl (hw _ (List.mem_of_getElem? (i := 27) rfl))) (by decide) (t := .array (.object "java/lang/Object")) (t' := .int) (by decide +kernel) (by decide +kernel)))
  have E7 := E4.wr W7
  have A7 := A4.other W7 (Ne.symm ne_s)
  have N7 := Fr.snoc X7 N4 g1
  have K7 := K4.wr W7 (Or.inl (by simp))
  refine own_go st7 ?_
  show own_G p e below _ T7 (mkF m 22 #[.val (.ref s1), .val (.int (2 : Int32)), .val (.int (1 : Int32))] [(.int (2 : Int32)), (.ref ar)])
  refine own_go (fun t k => XS.aconstNull X7.here hx rfl (hb hby d5_22) k) ?_
  show own_G p e below _ T7 (mkF m 23 #[.val (.ref s1), .val (.int (2 : Int32)), .val (.int (1 : Int32))] [.null, (.int (2 : Int32)), (.ref ar)])
  obtain ⟨T8, h8, X8, e8, W8, st8⟩ := stR X7 hx hZ e7 A7 (j := (2 : Int32)) (own_in z4 (by decide)) rfl (Or.inl rfl) (g := (mkF m 23 #[.val (.ref s1), .val (.int (2 : Int32)), .val (.int (1 : Int32))] [.null, (.int (2 : Int32)), (.ref ar)])) rfl rfl (hb hby d5_23)
  have A8 : Arr Z h8 ar ((cl.setSlot 3 .null).setSlot 2 .null) (.object "java/lang/Object") := A7.same W8
  have z8 : ((cl.setSlot 3 .null).setSlot 2 .null).slots.size = 64 := (sz_set _ _ _).trans z4
  have u8_0 : ((cl.setSlot 3 .null).setSlot 2 .null).slots[0]? = some v0 := own_miss u4_0 (by decide)
  have u8_1 : ((cl.setSlot 3 .null).setSlot 2 .null).slots[1]? = some v1 := own_miss u4_1 (by decide)
  have u8_2 : ((cl.setSlot 3 .null).setSlot 2 .null).slots[2]? = some .null := own_hit z4 (by decide)
  have u8_3 : ((cl.setSlot 3 .null).setSlot 2 .null).slots[3]? = some .null := own_miss u4_3 (by decide)
  have Fs8 := Fs7.other W8 (Or.inl ne_s)
  have Fv8 := Fv7.other W8 (Or.inl ne_s)
  have E8 := E7.wr W8
  have N8 := Fr.snoc X8 N7 g2
  have K8 := K7.wr W8 (Or.inl (by simp))
  refine own_go st8 ?_
  show own_G p e below _ T8 (mkF m 24 #[.val (.ref s1), .val (.int (2 : Int32)), .val (.int (1 : Int32))] [])
  refine own_go (fun t k => XS.iinc X8.here hx rfl (hb hby d5_24) rfl (l' := #[.val (.ref s1), .val (.int (2 : Int32)), .val (.int (2 : Int32))]) rfl k) ?_
  show own_G p e below _ T8 (mkF m 27 #[.val (.ref s1), .val (.int (2 : Int32)), .val (.int (2 : Int32))] [])
  refine own_go (fun t k => XS.goto X8.here hx rfl (pc0 := 27) (pc' := 2) rfl (hb hby d5_27) (by decide) (by decide) k) ?_
  show own_G p e below _ T8 (mkF m 2 #[.val (.ref s1), .val (.int (2 : Int32)), .val (.int (2 : Int32))] [])
  refine own_go (fun t k => XS.iloadN X8.here hx rfl (hb hby d5_2) rfl k) ?_
  show own_G p e below _ T8 (mkF m 3 #[.val (.ref s1), .val (.int (2 : Int32)), .val (.int (2 : Int32))] [(.int (2 : Int32))])
  refine own_go (fun t k => XS.iloadN X8.here hx rfl (hb hby d5_3) rfl k) ?_
  show own_G p e below _ T8 (mkF m 4 #[.val (.ref s1), .val (.int (2 : Int32)), .val (.int (2 : Int32))] [(.int (2 : Int32)), (.int (2 : Int32))])
  refine own_go (fun t k => XS.icmpYes X8.here hx rfl (pc0 := 4) (pc' := 30) rfl (hb hby d5_4) rfl (by decide) (by decide) (by decide) k) ?_
  show own_G p e below _ T8 (mkF m 30 #[.val (.ref s1), .val (.int (2 : Int32)), .val (.int (2 : Int32))] [])
  exact own_ret0 X8 hx hlk hret (hb hby d5_30) (by decide) (by decide) ⟨rfl, N8, (by rw [e8]; exact K8), (by rw [e8]; exact ⟨E8, Fv8, Fs8, ne_s, _, A8, O_v, z8, u8_0, u8_1, u8_2, u8_3⟩)⟩
set_option maxRecDepth 65536 in
set_option maxHeartbeats 40000000 in
theorem c_drop_4_3 (l : Launch) (Z : State) (a0 : Array Value) (hw : ∀ d ∈ tables_1, d.before a0 Z = true) (s1 ar : Addr) (v0 v1 v2 v3 : Value) (h0 : Heap) (n0 : Nat) (Z0 : n0 ≤ h0.size) (S : own_ST Z h0 s1 ar (4 : Int32) v0 v1 v2 v3) (g1 : n0 ≤ s1) (g2 : n0 ≤ ar) :
    own_M l Z (⟨"com/example/halyard/halyard/engine/OperandStack", "drop", "(I)V"⟩ : MethodName) prog_114_method_4_code 3 none ⟨0, 0, 0, 0⟩ #[.ref s1, .int (3 : Int32)] h0 (fun v h L => v = none ∧ Fr n0 L ∧ Keep h0 h [s1, ar] ∧ own_ST Z h s1 ar (1 : Int32) v0 .null .null .null) := by
  refine own_body pn_5 ?_
  intro p e s m below meth c T0 hx hby hml hlk hown hret hnm hH hnamed X0 e0
  have hZ := hH.wide
  replace hown : s.vm.findClass "com/example/halyard/halyard/engine/OperandStack" = some m.cls := hown
  replace hml : c.maxLocals = 3 := hml
  obtain ⟨E_s, F_v, F_s, ne_s, cl, A_r, O_v, hsz, t0, t1, t2, t3⟩ := id S
  have N0 := Fr.nil n0
  have ef : entryFrame m #[.ref s1, .int (3 : Int32)] 3 = (mkF m 0 #[.val (.ref s1), .val (.int (3 : Int32)), .unset] []) := by first | (simp [entryFrame, mkF, argsToLocals, Value.category]; done) | rfl
  rw [ef]
  refine own_go (fun t k => XS.iconst X0.here hx rfl (hb hby d5_0) k) ?_
  show own_G p e below _ T0 (mkF m 1 #[.val (.ref s1), .val (.int (3 : Int32)), .unset] [(.int (0 : Int32))])
  refine own_go (fun t k => XS.istoreN X0.here hx rfl (hb hby d5_1) rfl (l' := #[.val (.ref s1), .val (.int (3 : Int32)), .val (.int (0 : Int32))]) rfl k) ?_
  show own_G p e below _ T0 (mkF m 2 #[.val (.ref s1), .val (.int (3 : Int32)), .val (.int (0 : Int32))] [])
  refine own_go (fun t k => XS.iloadN X0.here hx rfl (hb hby d5_2) rfl k) ?_
  show own_G p e below _ T0 (mkF m 3 #[.val (.ref s1), .val (.int (3 : Int32)), .val (.int (0 : Int32))] [(.int (0 : Int32))])
  refine own_go (fun t k => XS.iloadN X0.here hx rfl (hb hby d5_3) rfl k) ?_
  show own_G p e below _ T0 (mkF m 4 #[.val (.ref s1), .val (.int (3 : Int32)), .val (.int (0 : Int32))] [(.int (3 : Int32)), (.int (0 : Int32))])
  refine own_go (fun t k => XS.icmpNo X0.here hx rfl (hb hby d5_4) rfl (by decide) k) ?_
  show own_G p e below _ T0 (mkF m 7 #[.val (.ref s1), .val (.int (3 : Int32)), .val (.int (0 : Int32))] [])
  refine own_go (fun t k => XS.aloadN X0.here hx rfl (hb hby d5_7) rfl rfl k) ?_
  show own_G p e below _ T0 (mkF m 8 #[.val (.ref s1), .val (.int (3 : Int32)), .val (.int (0 : Int32))] [(.ref s1)])
  obtain ⟨T1, X1, e1, st1⟩ := getF X0 hx hZ hown (host := "") (Or.inl (hw _ (List.mem_of_getElem? (i := 12) rfl))) Via.refl e0 F_v (g := (mkF m 8 #[.val (.ref s1), .val (.int (3 : Int32)), .val (.int (0 : Int32))] [(.ref s1)])) rfl rfl (hb hby d5_8)
  refine own_go st1 ?_
  show own_G p e below _ T1 (mkF m 11 #[.val (.ref s1), .val (.int (3 : Int32)), .val (.int (0 : Int32))] [(.ref ar)])
  refine own_go (fun t k => XS.aloadN X1.here hx rfl (hb hby d5_11) rfl rfl k) ?_
  show own_G p e below _ T1 (mkF m 12 #[.val (.ref s1), .val (.int (3 : Int32)), .val (.int (0 : Int32))] [(.ref s1), (.ref ar)])
  refine own_go (fun t k => XS.dup X1.here hx rfl (hb hby d5_12) rfl rfl k) ?_
  show own_G p e below _ T1 (mkF m 13 #[.val (.ref s1), .val (.int (3 : Int32)), .val (.int (0 : Int32))] [(.ref s1), (.ref s1), (.ref ar)])
  obtain ⟨T2, X2, e2, st2⟩ := getF X1 hx hZ hown (host := "") (Or.inl (hw _ (List.mem_of_getElem? (i := 26) rfl))) Via.refl e1 F_s (g := (mkF m 13 #[.val (.ref s1), .val (.int (3 : Int32)), .val (.int (0 : Int32))] [(.ref s1), (.ref s1), (.ref ar)])) rfl rfl (hb hby d5_13)
  refine own_go st2 ?_
  show own_G p e below _ T2 (mkF m 16 #[.val (.ref s1), .val (.int (3 : Int32)), .val (.int (0 : Int32))] [(.int (4 : Int32)), (.ref s1), (.ref ar)])
  refine own_go (fun t k => XS.iconst X2.here hx rfl (hb hby d5_16) k) ?_
  show own_G p e below _ T2 (mkF m 17 #[.val (.ref s1), .val (.int (3 : Int32)), .val (.int (0 : Int32))] [(.int (1 : Int32)), (.int (4 : Int32)), (.ref s1), (.ref ar)])
  refine own_go (fun t k => XS.isub X2.here hx rfl (hb hby d5_17) rfl k) ?_
  show own_G p e below _ T2 (mkF m 18 #[.val (.ref s1), .val (.int (3 : Int32)), .val (.int (0 : Int32))] [(.int (3 : Int32)), (.ref s1), (.ref ar)])
  refine own_go (fun t k => XT.dupX1 X2.here hx rfl (hb hby d5_18) rfl rfl rfl k) ?_
  show own_G p e below _ T2 (mkF m 19 #[.val (.ref s1), .val (.int (3 : Int32)), .val (.int (0 : Int32))] [(.int (3 : Int32)), (.ref s1), (.int (3 : Int32)), (.ref ar)])
  obtain ⟨T3, h3, X3, e3, W3, st3⟩ := putF X2 hx hZ hown (host := "") (Or.inl (hw _ (List.mem_of_getElem? (i := 26) rfl))) Via.refl e2 F_s E_s (Or.inl (hw _ (List.mem_of_getElem? (i := 27) rfl))) (hw _ (List.mem_of_getElem? (i := 2) rfl)) (ty := .int) (by decide) rfl rfl (g := (mkF m 19 #[.val (.ref s1), .val (.int (3 : Int32)), .val (.int (0 : Int32))] [(.int (3 : Int32)), (.ref s1), (.int (3 : Int32)), (.ref ar)])) rfl rfl (hb hby d5_19)
  have Fs3 := F_s.same W3
  have Fv3 := F_v.other W3 (Or.inr (slot_ne (Or.inl (hw _ (List.mem_of_getElem? (i := 13) rfl))) (Or.inl (hw _ (List.mem_of_getElem? (i := 27) rfl))) (by decide) (t := .array (.object "java/lang/Object")) (t' := .int) (by decide +kernel) (by decide +kernel)))
  have E3 := E_s.wr W3
  have A3 := A_r.other W3 (Ne.symm ne_s)
  have N3 := Fr.snoc X3 N0 g1
  have K3 := (Keep.refl h0 [s1, ar]).wr W3 (Or.inl (by simp))
  refine own_go st3 ?_
  show own_G p e below _ T3 (mkF m 22 #[.val (.ref s1), .val (.int (3 : Int32)), .val (.int (0 : Int32))] [(.int (3 : Int32)), (.ref ar)])
  refine own_go (fun t k => XS.aconstNull X3.here hx rfl (hb hby d5_22) k) ?_
  show own_G p e below _ T3 (mkF m 23 #[.val (.ref s1), .val (.int (3 : Int32)), .val (.int (0 : Int32))] [.null, (.int (3 : Int32)), (.ref ar)])
  obtain ⟨T4, h4, X4, e4, W4, st4⟩ := stR X3 hx hZ e3 A3 (j := (3 : Int32)) (own_in hsz (by decide)) rfl (Or.inl rfl) (g := (mkF m 23 #[.val (.ref s1), .val (.int (3 : Int32)), .val (.int (0 : Int32))] [.null, (.int (3 : Int32)), (.ref ar)])) rfl rfl (hb hby d5_23)
  have A4 : Arr Z h4 ar (cl.setSlot 3 .null) (.object "java/lang/Object") := A3.same W4
  have z4 : (cl.setSlot 3 .null).slots.size = 64 := (sz_set _ _ _).trans hsz
  have u4_0 : (cl.setSlot 3 .null).slots[0]? = some v0 := own_miss t0 (by decide)
  have u4_1 : (cl.setSlot 3 .null).slots[1]? = some v1 := own_miss t1 (by decide)
  have u4_2 : (cl.setSlot 3 .null).slots[2]? = some v2 := own_miss t2 (by decide)
  have u4_3 : (cl.setSlot 3 .null).slots[3]? = some .null := own_hit hsz (by decide)
  have Fs4 := Fs3.other W4 (Or.inl ne_s)
  have Fv4 := Fv3.other W4 (Or.inl ne_s)
  have E4 := E3.wr W4
  have N4 := Fr.snoc X4 N3 g2
  have K4 := K3.wr W4 (Or.inl (by simp))
  refine own_go st4 ?_
  show own_G p e below _ T4 (mkF m 24 #[.val (.ref s1), .val (.int (3 : Int32)), .val (.int (0 : Int32))] [])
  refine own_go (fun t k => XS.iinc X4.here hx rfl (hb hby d5_24) rfl (l' := #[.val (.ref s1), .val (.int (3 : Int32)), .val (.int (1 : Int32))]) rfl k) ?_
  show own_G p e below _ T4 (mkF m 27 #[.val (.ref s1), .val (.int (3 : Int32)), .val (.int (1 : Int32))] [])
  refine own_go (fun t k => XS.goto X4.here hx rfl (pc0 := 27) (pc' := 2) rfl (hb hby d5_27) (by decide) (by decide) k) ?_
  show own_G p e below _ T4 (mkF m 2 #[.val (.ref s1), .val (.int (3 : Int32)), .val (.int (1 : Int32))] [])
  refine own_go (fun t k => XS.iloadN X4.here hx rfl (hb hby d5_2) rfl k) ?_
  show own_G p e below _ T4 (mkF m 3 #[.val (.ref s1), .val (.int (3 : Int32)), .val (.int (1 : Int32))] [(.int (1 : Int32))])
  refine own_go (fun t k => XS.iloadN X4.here hx rfl (hb hby d5_3) rfl k) ?_
  show own_G p e below _ T4 (mkF m 4 #[.val (.ref s1), .val (.int (3 : Int32)), .val (.int (1 : Int32))] [(.int (3 : Int32)), (.int (1 : Int32))])
  refine own_go (fun t k => XS.icmpNo X4.here hx rfl (hb hby d5_4) rfl (by decide) k) ?_
  show own_G p e below _ T4 (mkF m 7 #[.val (.ref s1), .val (.int (3 : Int32)), .val (.int (1 : Int32))] [])
  refine own_go (fun t k => XS.aloadN X4.here hx rfl (hb hby d5_7) rfl rfl k) ?_
  show own_G p e below _ T4 (mkF m 8 #[.val (.ref s1), .val (.int (3 : Int32)), .val (.int (1 : Int32))] [(.ref s1)])
  obtain ⟨T5, X5, e5, st5⟩ := getF X4 hx hZ hown (host := "") (Or.inl (hw _ (List.mem_of_getElem? (i := 12) rfl))) Via.refl e4 Fv4 (g := (mkF m 8 #[.val (.ref s1), .val (.int (3 : Int32)), .val (.int (1 : Int32))] [(.ref s1)])) rfl rfl (hb hby d5_8)
  refine own_go st5 ?_
  show own_G p e below _ T5 (mkF m 11 #[.val (.ref s1), .val (.int (3 : Int32)), .val (.int (1 : Int32))] [(.ref ar)])
  refine own_go (fun t k => XS.aloadN X5.here hx rfl (hb hby d5_11) rfl rfl k) ?_
  show own_G p e below _ T5 (mkF m 12 #[.val (.ref s1), .val (.int (3 : Int32)), .val (.int (1 : Int32))] [(.ref s1), (.ref ar)])
  refine own_go (fun t k => XS.dup X5.here hx rfl (hb hby d5_12) rfl rfl k) ?_
  show own_G p e below _ T5 (mkF m 13 #[.val (.ref s1), .val (.int (3 : Int32)), .val (.int (1 : Int32))] [(.ref s1), (.ref s1), (.ref ar)])
  obtain ⟨T6, X6, e6, st6⟩ := getF X5 hx hZ hown (host := "") (Or.inl (hw _ (List.mem_of_getElem? (i := 26) rfl))) Via.refl e5 Fs4 (g := (mkF m 13 #[.val (.ref s1), .val (.int (3 : Int32)), .val (.int (1 : Int32))] [(.ref s1), (.ref s1), (.ref ar)])) rfl rfl (hb hby d5_13)
  refine own_go st6 ?_
  show own_G p e below _ T6 (mkF m 16 #[.val (.ref s1), .val (.int (3 : Int32)), .val (.int (1 : Int32))] [(.int (3 : Int32)), (.ref s1), (.ref ar)])
  refine own_go (fun t k => XS.iconst X6.here hx rfl (hb hby d5_16) k) ?_
  show own_G p e below _ T6 (mkF m 17 #[.val (.ref s1), .val (.int (3 : Int32)), .val (.int (1 : Int32))] [(.int (1 : Int32)), (.int (3 : Int32)), (.ref s1), (.ref ar)])
  refine own_go (fun t k => XS.isub X6.here hx rfl (hb hby d5_17) rfl k) ?_
  show own_G p e below _ T6 (mkF m 18 #[.val (.ref s1), .val (.int (3 : Int32)), .val (.int (1 : Int32))] [(.int (2 : Int32)), (.ref s1), (.ref ar)])
  refine own_go (fun t k => XT.dupX1 X6.here hx rfl (hb hby d5_18) rfl rfl rfl k) ?_
  show own_G p e below _ T6 (mkF m 19 #[.val (.ref s1), .val (.int (3 : Int32)), .val (.int (1 : Int32))] [(.int (2 : Int32)), (.ref s1), (.int (2 : Int32)), (.ref ar)])
  obtain ⟨T7, h7, X7, e7, W7, st7⟩ := putF X6 hx hZ hown (host := "") (Or.inl (hw _ (List.mem_of_getElem? (i := 26) rfl))) Via.refl e6 Fs4 E4 (Or.inl (hw _ (List.mem_of_getElem? (i := 27) rfl))) (hw _ (List.mem_of_getElem? (i := 2) rfl)) (ty := .int) (by decide) rfl rfl (g := (mkF m 19 #[.val (.ref s1), .val (.int (3 : Int32)), .val (.int (1 : Int32))] [(.int (2 : Int32)), (.ref s1), (.int (2 : Int32)), (.ref ar)])) rfl rfl (hb hby d5_19)
  have Fs7 := Fs4.same W7
  have Fv7 := Fv4.other W7 (Or.inr (slot_ne (Or.inl (hw _ (List.mem_of_getElem? (i := 13) rfl))) (Or.inl (hw _ (List.mem_of_getElem? (i := 27) rfl))) (by decide) (t := .array (.object "java/lang/Object")) (t' := .int) (by decide +kernel) (by decide +kernel)))
  have E7 := E4.wr W7
  have A7 := A4.other W7 (Ne.symm ne_s)
  have N7 := Fr.snoc X7 N4 g1
  have K7 := K4.wr W7 (Or.inl (by simp))
  refine own_go st7 ?_
  show own_G p e below _ T7 (mkF m 22 #[.val (.ref s1), .val (.int (3 : Int32)), .val (.int (1 : Int32))] [(.int (2 : Int32)), (.ref ar)])
  refine own_go (fun t k => XS.aconstNull X7.here hx rfl (hb hby d5_22) k) ?_
  show own_G p e below _ T7 (mkF m 23 #[.val (.ref s1), .val (.int (3 : Int32)), .val (.int (1 : Int32))] [.null, (.int (2 : Int32)), (.ref ar)])
  obtain ⟨T8, h8, X8, e8, W8, st8⟩ := stR X7 hx hZ e7 A7 (j := (2 : Int32)) (own_in z4 (by decide)) rfl (Or.inl rfl) (g := (mkF m 23 #[.val (.ref s1), .val (.int (3 : Int32)), .val (.int (1 : Int32))] [.null, (.int (2 : Int32)), (.ref ar)])) rfl rfl (hb hby d5_23)
  have A8 : Arr Z h8 ar ((cl.setSlot 3 .null).setSlot 2 .null) (.object "java/lang/Object") := A7.same W8
  have z8 : ((cl.setSlot 3 .null).setSlot 2 .null).slots.size = 64 := (sz_set _ _ _).trans z4
  have u8_0 : ((cl.setSlot 3 .null).setSlot 2 .null).slots[0]? = some v0 := own_miss u4_0 (by decide)
  have u8_1 : ((cl.setSlot 3 .null).setSlot 2 .null).slots[1]? = some v1 := own_miss u4_1 (by decide)
  have u8_2 : ((cl.setSlot 3 .null).setSlot 2 .null).slots[2]? = some .null := own_hit z4 (by decide)
  have u8_3 : ((cl.setSlot 3 .null).setSlot 2 .null).slots[3]? = some .null := own_miss u4_3 (by decide)
  have Fs8 := Fs7.other W8 (Or.inl ne_s)
  have Fv8 := Fv7.other W8 (Or.inl ne_s)
  have E8 := E7.wr W8
  have N8 := Fr.snoc X8 N7 g2
  have K8 := K7.wr W8 (Or.inl (by simp))
  refine own_go st8 ?_
  show own_G p e below _ T8 (mkF m 24 #[.val (.ref s1), .val (.int (3 : Int32)), .val (.int (1 : Int32))] [])
  refine own_go (fun t k => XS.iinc X8.here hx rfl (hb hby d5_24) rfl (l' := #[.val (.ref s1), .val (.int (3 : Int32)), .val (.int (2 : Int32))]) rfl k) ?_
  show own_G p e below _ T8 (mkF m 27 #[.val (.ref s1), .val (.int (3 : Int32)), .val (.int (2 : Int32))] [])
  refine own_go (fun t k => XS.goto X8.here hx rfl (pc0 := 27) (pc' := 2) rfl (hb hby d5_27) (by decide) (by decide) k) ?_
  show own_G p e below _ T8 (mkF m 2 #[.val (.ref s1), .val (.int (3 : Int32)), .val (.int (2 : Int32))] [])
  refine own_go (fun t k => XS.iloadN X8.here hx rfl (hb hby d5_2) rfl k) ?_
  show own_G p e below _ T8 (mkF m 3 #[.val (.ref s1), .val (.int (3 : Int32)), .val (.int (2 : Int32))] [(.int (2 : Int32))])
  refine own_go (fun t k => XS.iloadN X8.here hx rfl (hb hby d5_3) rfl k) ?_
  show own_G p e below _ T8 (mkF m 4 #[.val (.ref s1), .val (.int (3 : Int32)), .val (.int (2 : Int32))] [(.int (3 : Int32)), (.int (2 : Int32))])
  refine own_go (fun t k => XS.icmpNo X8.here hx rfl (hb hby d5_4) rfl (by decide) k) ?_
  show own_G p e below _ T8 (mkF m 7 #[.val (.ref s1), .val (.int (3 : Int32)), .val (.int (2 : Int32))] [])
  refine own_go (fun t k => XS.aloadN X8.here hx rfl (hb hby d5_7) rfl rfl k) ?_
  show own_G p e below _ T8 (mkF m 8 #[.val (.ref s1), .val (.int (3 : Int32)), .val (.int (2 : Int32))] [(.ref s1)])
  obtain ⟨T9, X9, e9, st9⟩ := getF X8 hx hZ hown (host := "") (Or.inl (hw _ (List.mem_of_getElem? (i := 12) rfl))) Via.refl e8 Fv8 (g := (mkF m 8 #[.val (.ref s1), .val (.int (3 : Int32)), .val (.int (2 : Int32))] [(.ref s1)])) rfl rfl (hb hby d5_8)
  refine own_go st9 ?_
  show own_G p e below _ T9 (mkF m 11 #[.val (.ref s1), .val (.int (3 : Int32)), .val (.int (2 : Int32))] [(.ref ar)])
  refine own_go (fun t k => XS.aloadN X9.here hx rfl (hb hby d5_11) rfl rfl k) ?_
  show own_G p e below _ T9 (mkF m 12 #[.val (.ref s1), .val (.int (3 : Int32)), .val (.int (2 : Int32))] [(.ref s1), (.ref ar)])
  refine own_go (fun t k => XS.dup X9.here hx rfl (hb hby d5_12) rfl rfl k) ?_
  show own_G p e below _ T9 (mkF m 13 #[.val (.ref s1), .val (.int (3 : Int32)), .val (.int (2 : Int32))] [(.ref s1), (.ref s1), (.ref ar)])
  obtain ⟨T10, X10, e10, st10⟩ := getF X9 hx hZ hown (host := "") (Or.inl (hw _ (List.mem_of_getElem? (i := 26) rfl))) Via.refl e9 Fs8 (g := (mkF m 13 #[.val (.ref s1), .val (.int (3 : Int32)), .val (.int (2 : Int32))] [(.ref s1), (.ref s1), (.ref ar)])) rfl rfl (hb hby d5_13)
  refine own_go st10 ?_
  show own_G p e below _ T10 (mkF m 16 #[.val (.ref s1), .val (.int (3 : Int32)), .val (.int (2 : Int32))] [(.int (2 : Int32)), (.ref s1), (.ref ar)])
  refine own_go (fun t k => XS.iconst X10.here hx rfl (hb hby d5_16) k) ?_
  show own_G p e below _ T10 (mkF m 17 #[.val (.ref s1), .val (.int (3 : Int32)), .val (.int (2 : Int32))] [(.int (1 : Int32)), (.int (2 : Int32)), (.ref s1), (.ref ar)])
  refine own_go (fun t k => XS.isub X10.here hx rfl (hb hby d5_17) rfl k) ?_
  show own_G p e below _ T10 (mkF m 18 #[.val (.ref s1), .val (.int (3 : Int32)), .val (.int (2 : Int32))] [(.int (1 : Int32)), (.ref s1), (.ref ar)])
  refine own_go (fun t k => XT.dupX1 X10.here hx rfl (hb hby d5_18) rfl rfl rfl k) ?_
  show own_G p e below _ T10 (mkF m 19 #[.val (.ref s1), .val (.int (3 : Int32)), .val (.int (2 : Int32))] [(.int (1 : Int32)), (.ref s1), (.int (1 : Int32)), (.ref ar)])
  obtain ⟨T11, h11, X11, e11, W11, st11⟩ := putF X10 hx hZ hown (host := "") (Or.inl (hw _ (List.mem_of_getElem? (i := 26) rfl))) Via.refl e10 Fs8 E8 (Or.inl (hw _ (List.mem_of_getElem? (i := 27) rfl))) (hw _ (List.mem_of_getElem? (i := 2) rfl)) (ty := .int) (by decide) rfl rfl (g := (mkF m 19 #[.val (.ref s1), .val (.int (3 : Int32)), .val (.int (2 : Int32))] [(.int (1 : Int32)), (.ref s1), (.int (1 : Int32)), (.ref ar)])) rfl rfl (hb hby d5_19)
  have Fs11 := Fs8.same W11
  have Fv11 := Fv8.other W11 (Or.inr (slot_ne (Or.inl (hw _ (List.mem_of_getElem? (i := 13) rfl))) (Or.inl (hw _ (List.mem_of_getElem? (i := 27) rfl))) (by decide) (t := .array (.object "java/lang/Object")) (t' := .int) (by decide +kernel) (by decide +kernel)))
  have E11 := E8.wr W11
  have A11 := A8.other W11 (Ne.symm ne_s)
  have N11 := Fr.snoc X11 N8 g1
  have K11 := K8.wr W11 (Or.inl (by simp))
  refine own_go st11 ?_
  show own_G p e below _ T11 (mkF m 22 #[.val (.ref s1), .val (.int (3 : Int32)), .val (.int (2 : Int32))] [(.int (1 : Int32)), (.ref ar)])
  refine own_go (fun t k => XS.aconstNull X11.here hx rfl (hb hby d5_22) k) ?_
  show own_G p e below _ T11 (mkF m 23 #[.val (.ref s1), .val (.int (3 : Int32)), .val (.int (2 : Int32))] [.null, (.int (1 : Int32)), (.ref ar)])
  obtain ⟨T12, h12, X12, e12, W12, st12⟩ := stR X11 hx hZ e11 A11 (j := (1 : Int32)) (own_in z8 (by decide)) rfl (Or.inl rfl) (g := (mkF m 23 #[.val (.ref s1), .val (.int (3 : Int32)), .val (.int (2 : Int32))] [.null, (.int (1 : Int32)), (.ref ar)])) rfl rfl (hb hby d5_23)
  have A12 : Arr Z h12 ar (((cl.setSlot 3 .null).setSlot 2 .null).setSlot 1 .null) (.object "java/lang/Object") := A11.same W12
  have z12 : (((cl.setSlot 3 .null).setSlot 2 .null).setSlot 1 .null).slots.size = 64 := (sz_set _ _ _).trans z8
  have u12_0 : (((cl.setSlot 3 .null).setSlot 2 .null).setSlot 1 .null).slots[0]? = some v0 := own_miss u8_0 (by decide)
  have u12_1 : (((cl.setSlot 3 .null).setSlot 2 .null).setSlot 1 .null).slots[1]? = some .null := own_hit z8 (by decide)
  have u12_2 : (((cl.setSlot 3 .null).setSlot 2 .null).setSlot 1 .null).slots[2]? = some .null := own_miss u8_2 (by decide)
  have u12_3 : (((cl.setSlot 3 .null).setSlot 2 .null).setSlot 1 .null).slots[3]? = some .null := own_miss u8_3 (by decide)
  have Fs12 := Fs11.other W12 (Or.inl ne_s)
  have Fv12 := Fv11.other W12 (Or.inl ne_s)
  have E12 := E11.wr W12
  have N12 := Fr.snoc X12 N11 g2
  have K12 := K11.wr W12 (Or.inl (by simp))
  refine own_go st12 ?_
  show own_G p e below _ T12 (mkF m 24 #[.val (.ref s1), .val (.int (3 : Int32)), .val (.int (2 : Int32))] [])
  refine own_go (fun t k => XS.iinc X12.here hx rfl (hb hby d5_24) rfl (l' := #[.val (.ref s1), .val (.int (3 : Int32)), .val (.int (3 : Int32))]) rfl k) ?_
  show own_G p e below _ T12 (mkF m 27 #[.val (.ref s1), .val (.int (3 : Int32)), .val (.int (3 : Int32))] [])
  refine own_go (fun t k => XS.goto X12.here hx rfl (pc0 := 27) (pc' := 2) rfl (hb hby d5_27) (by decide) (by decide) k) ?_
  show own_G p e below _ T12 (mkF m 2 #[.val (.ref s1), .val (.int (3 : Int32)), .val (.int (3 : Int32))] [])
  refine own_go (fun t k => XS.iloadN X12.here hx rfl (hb hby d5_2) rfl k) ?_
  show own_G p e below _ T12 (mkF m 3 #[.val (.ref s1), .val (.int (3 : Int32)), .val (.int (3 : Int32))] [(.int (3 : Int32))])
  refine own_go (fun t k => XS.iloadN X12.here hx rfl (hb hby d5_3) rfl k) ?_
  show own_G p e below _ T12 (mkF m 4 #[.val (.ref s1), .val (.int (3 : Int32)), .val (.int (3 : Int32))] [(.int (3 : Int32)), (.int (3 : Int32))])
  refine own_go (fun t k => XS.icmpYes X12.here hx rfl (pc0 := 4) (pc' := 30) rfl (hb hby d5_4) rfl (by decide) (by decide) (by decide) k) ?_
  show own_G p e below _ T12 (mkF m 30 #[.val (.ref s1), .val (.int (3 : Int32)), .val (.int (3 : Int32))] [])
  exact own_ret0 X12 hx hlk hret (hb hby d5_30) (by decide) (by decide) ⟨rfl, N12, (by rw [e12]; exact K12), (by rw [e12]; exact ⟨E12, Fv12, Fs12, ne_s, _, A12, O_v, z12, u12_0, u12_1, u12_2, u12_3⟩)⟩
set_option maxRecDepth 65536 in
set_option maxHeartbeats 40000000 in
theorem c_lam_0 (l : Launch) (Z : State) (a0 : Array Value) (hw : ∀ d ∈ tables_1, d.before a0 Z = true) (s1 ar : Addr) (n d i : Int32) (v0 v1 v2 v3 : Value) (h0 : Heap) (S : own_ST Z h0 s1 ar n v0 v1 v2 v3) (hr : v0.isRef = true) (hidx : ((n - d) + i) = (0 : Int32)) :
    own_M l Z (⟨"com/example/halyard/halyard/engine/OperandStack", "lambda$operand$0", "(IILcom/example/halyard/halyard/engine/Frame;)Ljava/lang/Object;"⟩ : MethodName) prog_114_method_6_code 4 (some (.object "java/lang/Object")) ⟨0, 0, 0, 0⟩ #[.ref s1, .int d, .int i, .null] h0 (fun v h L => v = some v0 ∧ L = [] ∧ h = h0) := by
  refine own_body pn_8 ?_
  intro p e s m below meth c T0 hx hby hml hlk hown hret hnm hH hnamed X0 e0
  have hZ := hH.wide
  replace hown : s.vm.findClass "com/example/halyard/halyard/engine/OperandStack" = some m.cls := hown
  replace hml : c.maxLocals = 4 := hml
  obtain ⟨E_s, F_v, F_s, ne_s, cl, A_r, O_v, hsz, t0, t1, t2, t3⟩ := id S
  have ef : entryFrame m #[.ref s1, .int d, .int i, .null] 4 = (mkF m 0 #[.val (.ref s1), .val (.int d), .val (.int i), .val .null] []) := by first | (simp [entryFrame, mkF, argsToLocals, Value.category]; done) | rfl
  rw [ef]
  refine own_go (fun t k => XS.aloadN X0.here hx rfl (hb hby d8_0) rfl rfl k) ?_
  show own_G p e below _ T0 (mkF m 1 #[.val (.ref s1), .val (.int d), .val (.int i), .val .null] [(.ref s1)])
  obtain ⟨T1, X1, e1, st1⟩ := getF X0 hx hZ hown (host := "") (Or.inl (hw _ (List.mem_of_getElem? (i := 12) rfl))) Via.refl e0 F_v (g := (mkF m 1 #[.val (.ref s1), .val (.int d), .val (.int i), .val .null] [(.ref s1)])) rfl rfl (hb hby d8_1)
  refine own_go st1 ?_
  show own_G p e below _ T1 (mkF m 4 #[.val (.ref s1), .val (.int d), .val (.int i), .val .null] [(.ref ar)])
  refine own_go (fun t k => XS.aloadN X1.here hx rfl (hb hby d8_4) rfl rfl k) ?_
  show own_G p e below _ T1 (mkF m 5 #[.val (.ref s1), .val (.int d), .val (.int i), .val .null] [(.ref s1), (.ref ar)])
  obtain ⟨T2, X2, e2, st2⟩ := getF X1 hx hZ hown (host := "") (Or.inl (hw _ (List.mem_of_getElem? (i := 26) rfl))) Via.refl e1 F_s (g := (mkF m 5 #[.val (.ref s1), .val (.int d), .val (.int i), .val .null] [(.ref s1), (.ref ar)])) rfl rfl (hb hby d8_5)
  refine own_go st2 ?_
  show own_G p e below _ T2 (mkF m 8 #[.val (.ref s1), .val (.int d), .val (.int i), .val .null] [(.int n), (.ref ar)])
  refine own_go (fun t k => XS.iloadN X2.here hx rfl (hb hby d8_8) rfl k) ?_
  show own_G p e below _ T2 (mkF m 9 #[.val (.ref s1), .val (.int d), .val (.int i), .val .null] [(.int d), (.int n), (.ref ar)])
  refine own_go (fun t k => XS.isub X2.here hx rfl (hb hby d8_9) rfl k) ?_
  show own_G p e below _ T2 (mkF m 10 #[.val (.ref s1), .val (.int d), .val (.int i), .val .null] [(.int (n - d)), (.ref ar)])
  refine own_go (fun t k => XS.iloadN X2.here hx rfl (hb hby d8_10) rfl k) ?_
  show own_G p e below _ T2 (mkF m 11 #[.val (.ref s1), .val (.int d), .val (.int i), .val .null] [(.int i), (.int (n - d)), (.ref ar)])
  refine own_go (fun t k => XS.iadd X2.here hx rfl (hb hby d8_11) rfl k) ?_
  show own_G p e below _ T2 (mkF m 12 #[.val (.ref s1), .val (.int d), .val (.int i), .val .null] [(.int ((n - d) + i)), (.ref ar)])
  rw [hidx]
  show own_G p e below _ T2 (mkF m 12 #[.val (.ref s1), .val (.int d), .val (.int i), .val .null] [(.int (0 : Int32)), (.ref ar)])
  refine own_go (X2.aaload hx (j := (0 : Int32)) (v := v0) (own_cellAt e2 A_r) (State.isArrayOf_alike hZ.alike A_r.2.1) rfl A_r.2.2 (own_in hsz (by decide)) t0 (g := (mkF m 12 #[.val (.ref s1), .val (.int d), .val (.int i), .val .null] [(.int (0 : Int32)), (.ref ar)])) rfl rfl (hb hby d8_12)) ?_
  show own_G p e below _ T2 (mkF m 13 #[.val (.ref s1), .val (.int d), .val (.int i), .val .null] [v0])
  exact own_retA X2 hx hlk hret rfl hr (hb hby d8_13) (by decide) (by decide) ⟨rfl, rfl, e2⟩
set_option maxRecDepth 65536 in
set_option maxHeartbeats 40000000 in
theorem c_lam_1 (l : Launch) (Z : State) (a0 : Array Value) (hw : ∀ d ∈ tables_1, d.before a0 Z = true) (s1 ar : Addr) (n d i : Int32) (v0 v1 v2 v3 : Value) (h0 : Heap) (S : own_ST Z h0 s1 ar n v0 v1 v2 v3) (hr : v1.isRef = true) (hidx : ((n - d) + i) = (1 : Int32)) :
    own_M l Z (⟨"com/example/halyard/halyard/engine/OperandStack", "lambda$operand$0", "(IILcom/example/halyard/halyard/engine/Frame;)Ljava/lang/Object;"⟩ : MethodName) prog_114_method_6_code 4 (some (.object "java/lang/Object")) ⟨0, 0, 0, 0⟩ #[.ref s1, .int d, .int i, .null] h0 (fun v h L => v = some v1 ∧ L = [] ∧ h = h0) := by
  refine own_body pn_8 ?_
  intro p e s m below meth c T0 hx hby hml hlk hown hret hnm hH hnamed X0 e0
  have hZ := hH.wide
  replace hown : s.vm.findClass "com/example/halyard/halyard/engine/OperandStack" = some m.cls := hown
  replace hml : c.maxLocals = 4 := hml
  obtain ⟨E_s, F_v, F_s, ne_s, cl, A_r, O_v, hsz, t0, t1, t2, t3⟩ := id S
  have ef : entryFrame m #[.ref s1, .int d, .int i, .null] 4 = (mkF m 0 #[.val (.ref s1), .val (.int d), .val (.int i), .val .null] []) := by first | (simp [entryFrame, mkF, argsToLocals, Value.category]; done) | rfl
  rw [ef]
  refine own_go (fun t k => XS.aloadN X0.here hx rfl (hb hby d8_0) rfl rfl k) ?_
  show own_G p e below _ T0 (mkF m 1 #[.val (.ref s1), .val (.int d), .val (.int i), .val .null] [(.ref s1)])
  obtain ⟨T1, X1, e1, st1⟩ := getF X0 hx hZ hown (host := "") (Or.inl (hw _ (List.mem_of_getElem? (i := 12) rfl))) Via.refl e0 F_v (g := (mkF m 1 #[.val (.ref s1), .val (.int d), .val (.int i), .val .null] [(.ref s1)])) rfl rfl (hb hby d8_1)
  refine own_go st1 ?_
  show own_G p e below _ T1 (mkF m 4 #[.val (.ref s1), .val (.int d), .val (.int i), .val .null] [(.ref ar)])
  refine own_go (fun t k => XS.aloadN X1.here hx rfl (hb hby d8_4) rfl rfl k) ?_
  show own_G p e below _ T1 (mkF m 5 #[.val (.ref s1), .val (.int d), .val (.int i), .val .null] [(.ref s1), (.ref ar)])
  obtain ⟨T2, X2, e2, st2⟩ := getF X1 hx hZ hown (host := "") (Or.inl (hw _ (List.mem_of_getElem? (i := 26) rfl))) Via.refl e1 F_s (g := (mkF m 5 #[.val (.ref s1), .val (.int d), .val (.int i), .val .null] [(.ref s1), (.ref ar)])) rfl rfl (hb hby d8_5)
  refine own_go st2 ?_
  show own_G p e below _ T2 (mkF m 8 #[.val (.ref s1), .val (.int d), .val (.int i), .val .null] [(.int n), (.ref ar)])
  refine own_go (fun t k => XS.iloadN X2.here hx rfl (hb hby d8_8) rfl k) ?_
  show own_G p e below _ T2 (mkF m 9 #[.val (.ref s1), .val (.int d), .val (.int i), .val .null] [(.int d), (.int n), (.ref ar)])
  refine own_go (fun t k => XS.isub X2.here hx rfl (hb hby d8_9) rfl k) ?_
  show own_G p e below _ T2 (mkF m 10 #[.val (.ref s1), .val (.int d), .val (.int i), .val .null] [(.int (n - d)), (.ref ar)])
  refine own_go (fun t k => XS.iloadN X2.here hx rfl (hb hby d8_10) rfl k) ?_
  show own_G p e below _ T2 (mkF m 11 #[.val (.ref s1), .val (.int d), .val (.int i), .val .null] [(.int i), (.int (n - d)), (.ref ar)])
  refine own_go (fun t k => XS.iadd X2.here hx rfl (hb hby d8_11) rfl k) ?_
  show own_G p e below _ T2 (mkF m 12 #[.val (.ref s1), .val (.int d), .val (.int i), .val .null] [(.int ((n - d) + i)), (.ref ar)])
  rw [hidx]
  show own_G p e below _ T2 (mkF m 12 #[.val (.ref s1), .val (.int d), .val (.int i), .val .null] [(.int (1 : Int32)), (.ref ar)])
  refine own_go (X2.aaload hx (j := (1 : Int32)) (v := v1) (own_cellAt e2 A_r) (State.isArrayOf_alike hZ.alike A_r.2.1) rfl A_r.2.2 (own_in hsz (by decide)) t1 (g := (mkF m 12 #[.val (.ref s1), .val (.int d), .val (.int i), .val .null] [(.int (1 : Int32)), (.ref ar)])) rfl rfl (hb hby d8_12)) ?_
  show own_G p e below _ T2 (mkF m 13 #[.val (.ref s1), .val (.int d), .val (.int i), .val .null] [v1])
  exact own_retA X2 hx hlk hret rfl hr (hb hby d8_13) (by decide) (by decide) ⟨rfl, rfl, e2⟩
set_option maxRecDepth 65536 in
set_option maxHeartbeats 40000000 in
theorem c_lam_2 (l : Launch) (Z : State) (a0 : Array Value) (hw : ∀ d ∈ tables_1, d.before a0 Z = true) (s1 ar : Addr) (n d i : Int32) (v0 v1 v2 v3 : Value) (h0 : Heap) (S : own_ST Z h0 s1 ar n v0 v1 v2 v3) (hr : v2.isRef = true) (hidx : ((n - d) + i) = (2 : Int32)) :
    own_M l Z (⟨"com/example/halyard/halyard/engine/OperandStack", "lambda$operand$0", "(IILcom/example/halyard/halyard/engine/Frame;)Ljava/lang/Object;"⟩ : MethodName) prog_114_method_6_code 4 (some (.object "java/lang/Object")) ⟨0, 0, 0, 0⟩ #[.ref s1, .int d, .int i, .null] h0 (fun v h L => v = some v2 ∧ L = [] ∧ h = h0) := by
  refine own_body pn_8 ?_
  intro p e s m below meth c T0 hx hby hml hlk hown hret hnm hH hnamed X0 e0
  have hZ := hH.wide
  replace hown : s.vm.findClass "com/example/halyard/halyard/engine/OperandStack" = some m.cls := hown
  replace hml : c.maxLocals = 4 := hml
  obtain ⟨E_s, F_v, F_s, ne_s, cl, A_r, O_v, hsz, t0, t1, t2, t3⟩ := id S
  have ef : entryFrame m #[.ref s1, .int d, .int i, .null] 4 = (mkF m 0 #[.val (.ref s1), .val (.int d), .val (.int i), .val .null] []) := by first | (simp [entryFrame, mkF, argsToLocals, Value.category]; done) | rfl
  rw [ef]
  refine own_go (fun t k => XS.aloadN X0.here hx rfl (hb hby d8_0) rfl rfl k) ?_
  show own_G p e below _ T0 (mkF m 1 #[.val (.ref s1), .val (.int d), .val (.int i), .val .null] [(.ref s1)])
  obtain ⟨T1, X1, e1, st1⟩ := getF X0 hx hZ hown (host := "") (Or.inl (hw _ (List.mem_of_getElem? (i := 12) rfl))) Via.refl e0 F_v (g := (mkF m 1 #[.val (.ref s1), .val (.int d), .val (.int i), .val .null] [(.ref s1)])) rfl rfl (hb hby d8_1)
  refine own_go st1 ?_
  show own_G p e below _ T1 (mkF m 4 #[.val (.ref s1), .val (.int d), .val (.int i), .val .null] [(.ref ar)])
  refine own_go (fun t k => XS.aloadN X1.here hx rfl (hb hby d8_4) rfl rfl k) ?_
  show own_G p e below _ T1 (mkF m 5 #[.val (.ref s1), .val (.int d), .val (.int i), .val .null] [(.ref s1), (.ref ar)])
  obtain ⟨T2, X2, e2, st2⟩ := getF X1 hx hZ hown (host := "") (Or.inl (hw _ (List.mem_of_getElem? (i := 26) rfl))) Via.refl e1 F_s (g := (mkF m 5 #[.val (.ref s1), .val (.int d), .val (.int i), .val .null] [(.ref s1), (.ref ar)])) rfl rfl (hb hby d8_5)
  refine own_go st2 ?_
  show own_G p e below _ T2 (mkF m 8 #[.val (.ref s1), .val (.int d), .val (.int i), .val .null] [(.int n), (.ref ar)])
  refine own_go (fun t k => XS.iloadN X2.here hx rfl (hb hby d8_8) rfl k) ?_
  show own_G p e below _ T2 (mkF m 9 #[.val (.ref s1), .val (.int d), .val (.int i), .val .null] [(.int d), (.int n), (.ref ar)])
  refine own_go (fun t k => XS.isub X2.here hx rfl (hb hby d8_9) rfl k) ?_
  show own_G p e below _ T2 (mkF m 10 #[.val (.ref s1), .val (.int d), .val (.int i), .val .null] [(.int (n - d)), (.ref ar)])
  refine own_go (fun t k => XS.iloadN X2.here hx rfl (hb hby d8_10) rfl k) ?_
  show own_G p e below _ T2 (mkF m 11 #[.val (.ref s1), .val (.int d), .val (.int i), .val .null] [(.int i), (.int (n - d)), (.ref ar)])
  refine own_go (fun t k => XS.iadd X2.here hx rfl (hb hby d8_11) rfl k) ?_
  show own_G p e below _ T2 (mkF m 12 #[.val (.ref s1), .val (.int d), .val (.int i), .val .null] [(.int ((n - d) + i)), (.ref ar)])
  rw [hidx]
  show own_G p e below _ T2 (mkF m 12 #[.val (.ref s1), .val (.int d), .val (.int i), .val .null] [(.int (2 : Int32)), (.ref ar)])
  refine own_go (X2.aaload hx (j := (2 : Int32)) (v := v2) (own_cellAt e2 A_r) (State.isArrayOf_alike hZ.alike A_r.2.1) rfl A_r.2.2 (own_in hsz (by decide)) t2 (g := (mkF m 12 #[.val (.ref s1), .val (.int d), .val (.int i), .val .null] [(.int (2 : Int32)), (.ref ar)])) rfl rfl (hb hby d8_12)) ?_
  show own_G p e below _ T2 (mkF m 13 #[.val (.ref s1), .val (.int d), .val (.int i), .val .null] [v2])
  exact own_retA X2 hx hlk hret rfl hr (hb hby d8_13) (by decide) (by decide) ⟨rfl, rfl, e2⟩
set_option maxRecDepth 65536 in
set_option maxHeartbeats 40000000 in
theorem c_lam_3 (l : Launch) (Z : State) (a0 : Array Value) (hw : ∀ d ∈ tables_1, d.before a0 Z = true) (s1 ar : Addr) (n d i : Int32) (v0 v1 v2 v3 : Value) (h0 : Heap) (S : own_ST Z h0 s1 ar n v0 v1 v2 v3) (hr : v3.isRef = true) (hidx : ((n - d) + i) = (3 : Int32)) :
    own_M l Z (⟨"com/example/halyard/halyard/engine/OperandStack", "lambda$operand$0", "(IILcom/example/halyard/halyard/engine/Frame;)Ljava/lang/Object;"⟩ : MethodName) prog_114_method_6_code 4 (some (.object "java/lang/Object")) ⟨0, 0, 0, 0⟩ #[.ref s1, .int d, .int i, .null] h0 (fun v h L => v = some v3 ∧ L = [] ∧ h = h0) := by
  refine own_body pn_8 ?_
  intro p e s m below meth c T0 hx hby hml hlk hown hret hnm hH hnamed X0 e0
  have hZ := hH.wide
  replace hown : s.vm.findClass "com/example/halyard/halyard/engine/OperandStack" = some m.cls := hown
  replace hml : c.maxLocals = 4 := hml
  obtain ⟨E_s, F_v, F_s, ne_s, cl, A_r, O_v, hsz, t0, t1, t2, t3⟩ := id S
  have ef : entryFrame m #[.ref s1, .int d, .int i, .null] 4 = (mkF m 0 #[.val (.ref s1), .val (.int d), .val (.int i), .val .null] []) := by first | (simp [entryFrame, mkF, argsToLocals, Value.category]; done) | rfl
  rw [ef]
  refine own_go (fun t k => XS.aloadN X0.here hx rfl (hb hby d8_0) rfl rfl k) ?_
  show own_G p e below _ T0 (mkF m 1 #[.val (.ref s1), .val (.int d), .val (.int i), .val .null] [(.ref s1)])
  obtain ⟨T1, X1, e1, st1⟩ := getF X0 hx hZ hown (host := "") (Or.inl (hw _ (List.mem_of_getElem? (i := 12) rfl))) Via.refl e0 F_v (g := (mkF m 1 #[.val (.ref s1), .val (.int d), .val (.int i), .val .null] [(.ref s1)])) rfl rfl (hb hby d8_1)
  refine own_go st1 ?_
  show own_G p e below _ T1 (mkF m 4 #[.val (.ref s1), .val (.int d), .val (.int i), .val .null] [(.ref ar)])
  refine own_go (fun t k => XS.aloadN X1.here hx rfl (hb hby d8_4) rfl rfl k) ?_
  show own_G p e below _ T1 (mkF m 5 #[.val (.ref s1), .val (.int d), .val (.int i), .val .null] [(.ref s1), (.ref ar)])
  obtain ⟨T2, X2, e2, st2⟩ := getF X1 hx hZ hown (host := "") (Or.inl (hw _ (List.mem_of_getElem? (i := 26) rfl))) Via.refl e1 F_s (g := (mkF m 5 #[.val (.ref s1), .val (.int d), .val (.int i), .val .null] [(.ref s1), (.ref ar)])) rfl rfl (hb hby d8_5)
  refine own_go st2 ?_
  show own_G p e below _ T2 (mkF m 8 #[.val (.ref s1), .val (.int d), .val (.int i), .val .null] [(.int n), (.ref ar)])
  refine own_go (fun t k => XS.iloadN X2.here hx rfl (hb hby d8_8) rfl k) ?_
  show own_G p e below _ T2 (mkF m 9 #[.val (.ref s1), .val (.int d), .val (.int i), .val .null] [(.int d), (.int n), (.ref ar)])
  refine own_go (fun t k => XS.isub X2.here hx rfl (hb hby d8_9) rfl k) ?_
  show own_G p e below _ T2 (mkF m 10 #[.val (.ref s1), .val (.int d), .val (.int i), .val .null] [(.int (n - d)), (.ref ar)])
  refine own_go (fun t k => XS.iloadN X2.here hx rfl (hb hby d8_10) rfl k) ?_
  show own_G p e below _ T2 (mkF m 11 #[.val (.ref s1), .val (.int d), .val (.int i), .val .null] [(.int i), (.int (n - d)), (.ref ar)])
  refine own_go (fun t k => XS.iadd X2.here hx rfl (hb hby d8_11) rfl k) ?_
  show own_G p e below _ T2 (mkF m 12 #[.val (.ref s1), .val (.int d), .val (.int i), .val .null] [(.int ((n - d) + i)), (.ref ar)])
  rw [hidx]
  show own_G p e below _ T2 (mkF m 12 #[.val (.ref s1), .val (.int d), .val (.int i), .val .null] [(.int (3 : Int32)), (.ref ar)])
  refine own_go (X2.aaload hx (j := (3 : Int32)) (v := v3) (own_cellAt e2 A_r) (State.isArrayOf_alike hZ.alike A_r.2.1) rfl A_r.2.2 (own_in hsz (by decide)) t3 (g := (mkF m 12 #[.val (.ref s1), .val (.int d), .val (.int i), .val .null] [(.int (3 : Int32)), (.ref ar)])) rfl rfl (hb hby d8_12)) ?_
  show own_G p e below _ T2 (mkF m 13 #[.val (.ref s1), .val (.int d), .val (.int i), .val .null] [v3])
  exact own_retA X2 hx hlk hret rfl hr (hb hby d8_13) (by decide) (by decide) ⟨rfl, rfl, e2⟩
set_option maxRecDepth 65536 in
set_option maxHeartbeats 40000000 in
theorem c_operand (l : Launch) (Z : State) (a0 : Array Value) (hw : ∀ d ∈ tables_1, d.before a0 Z = true) (s1 : Addr) (i d : Int32) (h0 : Heap)  :
    own_M l Z (⟨"com/example/halyard/halyard/engine/OperandStack", "operand", "(II)Lcom/example/halyard/halyard/engine/Code;"⟩ : MethodName) prog_114_method_5_code 3 (some (.object "com/example/halyard/halyard/engine/Code")) ⟨0, 1, 3, 3080⟩ #[.ref s1, .int i, .int d] h0 (fun v h L => ∃ cK, v = some (.ref h0.size) ∧ L = [] ∧ Jvm.LamKit.Made Z own_K own_sh cK ∧ h = h0.push { cls := cK, slots := #[.ref s1, .int d, .int i], vm := .none }) := by
  refine own_body pn_7 ?_
  intro p e s m below meth c T0 hx hby hml hlk hown hret hnm hH hnamed X0 e0
  have hZ := hH.wide
  replace hown : s.vm.findClass "com/example/halyard/halyard/engine/OperandStack" = some m.cls := hown
  replace hml : c.maxLocals = 3 := hml
  have ef : entryFrame m #[.ref s1, .int i, .int d] 3 = (mkF m 0 #[.val (.ref s1), .val (.int i), .val (.int d)] []) := by first | (simp [entryFrame, mkF, argsToLocals, Value.category]; done) | rfl
  rw [ef]
  refine own_go (fun t k => XS.aloadN X0.here hx rfl (hb hby d7_0) rfl rfl k) ?_
  show own_G p e below _ T0 (mkF m 1 #[.val (.ref s1), .val (.int i), .val (.int d)] [(.ref s1)])
  refine own_go (fun t k => XS.iloadN X0.here hx rfl (hb hby d7_1) rfl k) ?_
  show own_G p e below _ T0 (mkF m 2 #[.val (.ref s1), .val (.int i), .val (.int d)] [(.int d), (.ref s1)])
  refine own_go (fun t k => XS.iloadN X0.here hx rfl (hb hby d7_2) rfl k) ?_
  show own_G p e below _ T0 (mkF m 3 #[.val (.ref s1), .val (.int i), .val (.int d)] [(.int i), (.int d), (.ref s1)])
  obtain ⟨cK, md, X3, st3⟩ := own_site (fi := 18) (σ := own_sh) X0 hx hH hnamed (hw _ (List.mem_of_getElem? (i := 43) rfl)) (by decide) own_c0 (hw _ (List.mem_of_getElem? (i := 46) rfl)) (g := (mkF m 3 #[.val (.ref s1), .val (.int i), .val (.int d)] [(.int i), (.int d), (.ref s1)])) rfl rfl (by rw [hml]; rfl) (hb hby d7_3) (vals := [.ref s1, .int d, .int i]) (rest := []) rfl rfl (own_fit s1 d i) (by show 2 * 0 + 3 + 3072 ≤ 3080; decide) (by decide) (show 0 + 3 ≤ 3 by decide)
  have e3 : (T0.pushCell { cls := cK, slots := #[.ref s1, .int d, .int i], vm := .none }).heap = h0.push { cls := cK, slots := #[.ref s1, .int d, .int i], vm := .none } := by show T0.heap.push _ = _; rw [e0]
  rw [e0] at st3
  refine own_go st3 ?_
  show own_G p e below _ (T0.pushCell { cls := cK, slots := #[.ref s1, .int d, .int i], vm := .none }) (mkF m 8 #[.val (.ref s1), .val (.int i), .val (.int d)] [(.ref h0.size)])
  exact own_retA X3 hx hlk hret rfl rfl (hb hby d7_8) (by decide) (show 0 + 3 ≤ 3 by decide) ⟨cK, rfl, rfl, md, e3⟩
set_option maxRecDepth 65536 in
set_option maxHeartbeats 40000000 in
theorem c_valueOf_0 (l : Launch) (Z : State) (a0 : Array Value) (hw : ∀ d ∈ tables_1, d.before a0 Z = true) (ac r0 r1 r2 r3 : Addr) (clc : Cell) (h0 : Heap) (B : own_B Z h0 ac r0 r1 r2 r3 clc) :
    own_M l Z (⟨"java/lang/Integer", "valueOf", "(I)Ljava/lang/Integer;"⟩ : MethodName) jdk_33_method_22_code 1 (some (.object "java/lang/Integer")) ⟨0, 0, 0, 0⟩ #[.int (0 : Int32)] h0 (fun v h L => v = some (.ref r0) ∧ L = [] ∧ h = h0) := by
  refine own_body pn_3 ?_
  intro p e s m below meth c T0 hx hby hml hlk hown hret hnm hH hnamed X0 e0
  have hZ := hH.wide
  replace hown : s.vm.findClass "java/lang/Integer" = some m.cls := hown
  replace hml : c.maxLocals = 1 := hml
  obtain ⟨S_h, S_c, A_c, Z_c, V_0, E_0, F_0, V_1, E_1, F_1, V_2, E_2, F_2, V_3, E_3, F_3⟩ := id B
  have ef : entryFrame m #[.int (0 : Int32)] 1 = (mkF m 0 #[.val (.int (0 : Int32))] []) := by first | (simp [entryFrame, mkF, argsToLocals, Value.category]; done) | rfl
  rw [ef]
  refine own_go (fun t k => XS.iloadN X0.here hx rfl (hb hby d3_0) rfl k) ?_
  show own_G p e below _ T0 (mkF m 1 #[.val (.int (0 : Int32))] [(.int (0 : Int32))])
  refine own_go (fun t k => XS.bipush X0.here hx rfl (hb hby d3_1) k) ?_
  show own_G p e below _ T0 (mkF m 3 #[.val (.int (0 : Int32))] [(.int (-128 : Int32)), (.int (0 : Int32))])
  refine own_go (fun t k => XS.icmpNo X0.here hx rfl (hb hby d3_3) rfl (by decide) k) ?_
  show own_G p e below _ T0 (mkF m 6 #[.val (.int (0 : Int32))] [])
  refine own_go (fun t k => XS.iloadN X0.here hx rfl (hb hby d3_6) rfl k) ?_
  show own_G p e below _ T0 (mkF m 7 #[.val (.int (0 : Int32))] [(.int (0 : Int32))])
  obtain ⟨T1, X1, e1, st1⟩ := getS X0 hx hZ hown (host := "") (hw _ (List.mem_of_getElem? (i := 18) rfl)) Via.refl e0 S_h (g := (mkF m 7 #[.val (.int (0 : Int32))] [(.int (0 : Int32))])) rfl (hb hby d3_7)
  refine own_go st1 ?_
  show own_G p e below _ T1 (mkF m 10 #[.val (.int (0 : Int32))] [(.int (127 : Int32)), (.int (0 : Int32))])
  refine own_go (fun t k => XS.icmpNo X1.here hx rfl (hb hby d3_10) rfl (by decide) k) ?_
  show own_G p e below _ T1 (mkF m 13 #[.val (.int (0 : Int32))] [])
  obtain ⟨T2, X2, e2, st2⟩ := getS X1 hx hZ hown (host := "") (hw _ (List.mem_of_getElem? (i := 20) rfl)) Via.refl e1 S_c (g := (mkF m 13 #[.val (.int (0 : Int32))] [])) rfl (hb hby d3_13)
  refine own_go st2 ?_
  show own_G p e below _ T2 (mkF m 16 #[.val (.int (0 : Int32))] [(.ref ac)])
  refine own_go (fun t k => XS.iloadN X2.here hx rfl (hb hby d3_16) rfl k) ?_
  show own_G p e below _ T2 (mkF m 17 #[.val (.int (0 : Int32))] [(.int (0 : Int32)), (.ref ac)])
  refine own_go (fun t k => XS.sipush X2.here hx rfl (hb hby d3_17) k) ?_
  show own_G p e below _ T2 (mkF m 20 #[.val (.int (0 : Int32))] [(.int (128 : Int32)), (.int (0 : Int32)), (.ref ac)])
  refine own_go (fun t k => XS.iadd X2.here hx rfl (hb hby d3_20) rfl k) ?_
  show own_G p e below _ T2 (mkF m 21 #[.val (.int (0 : Int32))] [(.int (128 : Int32)), (.ref ac)])
  refine own_go (X2.aaload hx (j := (128 : Int32)) (v := (.ref r0)) (own_cellAt e2 A_c) (State.isArrayOf_alike hZ.alike A_c.2.1) rfl A_c.2.2 (own_in Z_c (by decide)) V_0 (g := (mkF m 21 #[.val (.int (0 : Int32))] [(.int (128 : Int32)), (.ref ac)])) rfl rfl (hb hby d3_21)) ?_
  show own_G p e below _ T2 (mkF m 22 #[.val (.int (0 : Int32))] [(.ref r0)])
  exact own_retA X2 hx hlk hret rfl rfl (hb hby d3_22) (by decide) (by decide) ⟨rfl, rfl, e2⟩
set_option maxRecDepth 65536 in
set_option maxHeartbeats 40000000 in
theorem c_valueOf_1 (l : Launch) (Z : State) (a0 : Array Value) (hw : ∀ d ∈ tables_1, d.before a0 Z = true) (ac r0 r1 r2 r3 : Addr) (clc : Cell) (h0 : Heap) (B : own_B Z h0 ac r0 r1 r2 r3 clc) :
    own_M l Z (⟨"java/lang/Integer", "valueOf", "(I)Ljava/lang/Integer;"⟩ : MethodName) jdk_33_method_22_code 1 (some (.object "java/lang/Integer")) ⟨0, 0, 0, 0⟩ #[.int (1 : Int32)] h0 (fun v h L => v = some (.ref r1) ∧ L = [] ∧ h = h0) := by
  refine own_body pn_3 ?_
  intro p e s m below meth c T0 hx hby hml hlk hown hret hnm hH hnamed X0 e0
  have hZ := hH.wide
  replace hown : s.vm.findClass "java/lang/Integer" = some m.cls := hown
  replace hml : c.maxLocals = 1 := hml
  obtain ⟨S_h, S_c, A_c, Z_c, V_0, E_0, F_0, V_1, E_1, F_1, V_2, E_2, F_2, V_3, E_3, F_3⟩ := id B
  have ef : entryFrame m #[.int (1 : Int32)] 1 = (mkF m 0 #[.val (.int (1 : Int32))] []) := by first | (simp [entryFrame, mkF, argsToLocals, Value.category]; done) | rfl
  rw [ef]
  refine own_go (fun t k => XS.iloadN X0.here hx rfl (hb hby d3_0) rfl k) ?_
  show own_G p e below _ T0 (mkF m 1 #[.val (.int (1 : Int32))] [(.int (1 : Int32))])
  refine own_go (fun t k => XS.bipush X0.here hx rfl (hb hby d3_1) k) ?_
  show own_G p e below _ T0 (mkF m 3 #[.val (.int (1 : Int32))] [(.int (-128 : Int32)), (.int (1 : Int32))])
  refine own_go (fun t k => XS.icmpNo X0.here hx rfl (hb hby d3_3) rfl (by decide) k) ?_
  show own_G p e below _ T0 (mkF m 6 #[.val (.int (1 : Int32))] [])
  refine own_go (fun t k => XS.iloadN X0.here hx rfl (hb hby d3_6) rfl k) ?_
  show own_G p e below _ T0 (mkF m 7 #[.val (.int (1 : Int32))] [(.int (1 : Int32))])
  obtain ⟨T1, X1, e1, st1⟩ := getS X0 hx hZ hown (host := "") (hw _ (List.mem_of_getElem? (i := 18) rfl)) Via.refl e0 S_h (g := (mkF m 7 #[.val (.int (1 : Int32))] [(.int (1 : Int32))])) rfl (hb hby d3_7)
  refine own_go st1 ?_
  show own_G p e below _ T1 (mkF m 10 #[.val (.int (1 : Int32))] [(.int (127 : Int32)), (.int (1 : Int32))])
  refine own_go (fun t k => XS.icmpNo X1.here hx rfl (hb hby d3_10) rfl (by decide) k) ?_
  show own_G p e below _ T1 (mkF m 13 #[.val (.int (1 : Int32))] [])
  obtain ⟨T2, X2, e2, st2⟩ := getS X1 hx hZ hown (host := "") (hw _ (List.mem_of_getElem? (i := 20) rfl)) Via.refl e1 S_c (g := (mkF m 13 #[.val (.int (1 : Int32))] [])) rfl (hb hby d3_13)
  refine own_go st2 ?_
  show own_G p e below _ T2 (mkF m 16 #[.val (.int (1 : Int32))] [(.ref ac)])
  refine own_go (fun t k => XS.iloadN X2.here hx rfl (hb hby d3_16) rfl k) ?_
  show own_G p e below _ T2 (mkF m 17 #[.val (.int (1 : Int32))] [(.int (1 : Int32)), (.ref ac)])
  refine own_go (fun t k => XS.sipush X2.here hx rfl (hb hby d3_17) k) ?_
  show own_G p e below _ T2 (mkF m 20 #[.val (.int (1 : Int32))] [(.int (128 : Int32)), (.int (1 : Int32)), (.ref ac)])
  refine own_go (fun t k => XS.iadd X2.here hx rfl (hb hby d3_20) rfl k) ?_
  show own_G p e below _ T2 (mkF m 21 #[.val (.int (1 : Int32))] [(.int (129 : Int32)), (.ref ac)])
  refine own_go (X2.aaload hx (j := (129 : Int32)) (v := (.ref r1)) (own_cellAt e2 A_c) (State.isArrayOf_alike hZ.alike A_c.2.1) rfl A_c.2.2 (own_in Z_c (by decide)) V_1 (g := (mkF m 21 #[.val (.int (1 : Int32))] [(.int (129 : Int32)), (.ref ac)])) rfl rfl (hb hby d3_21)) ?_
  show own_G p e below _ T2 (mkF m 22 #[.val (.int (1 : Int32))] [(.ref r1)])
  exact own_retA X2 hx hlk hret rfl rfl (hb hby d3_22) (by decide) (by decide) ⟨rfl, rfl, e2⟩
set_option maxRecDepth 65536 in
set_option maxHeartbeats 40000000 in
theorem c_valueOf_2 (l : Launch) (Z : State) (a0 : Array Value) (hw : ∀ d ∈ tables_1, d.before a0 Z = true) (ac r0 r1 r2 r3 : Addr) (clc : Cell) (h0 : Heap) (B : own_B Z h0 ac r0 r1 r2 r3 clc) :
    own_M l Z (⟨"java/lang/Integer", "valueOf", "(I)Ljava/lang/Integer;"⟩ : MethodName) jdk_33_method_22_code 1 (some (.object "java/lang/Integer")) ⟨0, 0, 0, 0⟩ #[.int (2 : Int32)] h0 (fun v h L => v = some (.ref r2) ∧ L = [] ∧ h = h0) := by
  refine own_body pn_3 ?_
  intro p e s m below meth c T0 hx hby hml hlk hown hret hnm hH hnamed X0 e0
  have hZ := hH.wide
  replace hown : s.vm.findClass "java/lang/Integer" = some m.cls := hown
  replace hml : c.maxLocals = 1 := hml
  obtain ⟨S_h, S_c, A_c, Z_c, V_0, E_0, F_0, V_1, E_1, F_1, V_2, E_2, F_2, V_3, E_3, F_3⟩ := id B
  have ef : entryFrame m #[.int (2 : Int32)] 1 = (mkF m 0 #[.val (.int (2 : Int32))] []) := by first | (simp [entryFrame, mkF, argsToLocals, Value.category]; done) | rfl
  rw [ef]
  refine own_go (fun t k => XS.iloadN X0.here hx rfl (hb hby d3_0) rfl k) ?_
  show own_G p e below _ T0 (mkF m 1 #[.val (.int (2 : Int32))] [(.int (2 : Int32))])
  refine own_go (fun t k => XS.bipush X0.here hx rfl (hb hby d3_1) k) ?_
  show own_G p e below _ T0 (mkF m 3 #[.val (.int (2 : Int32))] [(.int (-128 : Int32)), (.int (2 : Int32))])
  refine own_go (fun t k => XS.icmpNo X0.here hx rfl (hb hby d3_3) rfl (by decide) k) ?_
  show own_G p e below _ T0 (mkF m 6 #[.val (.int (2 : Int32))] [])
  refine own_go (fun t k => XS.iloadN X0.here hx rfl (hb hby d3_6) rfl k) ?_
  show own_G p e below _ T0 (mkF m 7 #[.val (.int (2 : Int32))] [(.int (2 : Int32))])
  obtain ⟨T1, X1, e1, st1⟩ := getS X0 hx hZ hown (host := "") (hw _ (List.mem_of_getElem? (i := 18) rfl)) Via.refl e0 S_h (g := (mkF m 7 #[.val (.int (2 : Int32))] [(.int (2 : Int32))])) rfl (hb hby d3_7)
  refine own_go st1 ?_
  show own_G p e below _ T1 (mkF m 10 #[.val (.int (2 : Int32))] [(.int (127 : Int32)), (.int (2 : Int32))])
  refine own_go (fun t k => XS.icmpNo X1.here hx rfl (hb hby d3_10) rfl (by decide) k) ?_
  show own_G p e below _ T1 (mkF m 13 #[.val (.int (2 : Int32))] [])
  obtain ⟨T2, X2, e2, st2⟩ := getS X1 hx hZ hown (host := "") (hw _ (List.mem_of_getElem? (i := 20) rfl)) Via.refl e1 S_c (g := (mkF m 13 #[.val (.int (2 : Int32))] [])) rfl (hb hby d3_13)
  refine own_go st2 ?_
  show own_G p e below _ T2 (mkF m 16 #[.val (.int (2 : Int32))] [(.ref ac)])
  refine own_go (fun t k => XS.iloadN X2.here hx rfl (hb hby d3_16) rfl k) ?_
  show own_G p e below _ T2 (mkF m 17 #[.val (.int (2 : Int32))] [(.int (2 : Int32)), (.ref ac)])
  refine own_go (fun t k => XS.sipush X2.here hx rfl (hb hby d3_17) k) ?_
  show own_G p e below _ T2 (mkF m 20 #[.val (.int (2 : Int32))] [(.int (128 : Int32)), (.int (2 : Int32)), (.ref ac)])
  refine own_go (fun t k => XS.iadd X2.here hx rfl (hb hby d3_20) rfl k) ?_
  show own_G p e below _ T2 (mkF m 21 #[.val (.int (2 : Int32))] [(.int (130 : Int32)), (.ref ac)])
  refine own_go (X2.aaload hx (j := (130 : Int32)) (v := (.ref r2)) (own_cellAt e2 A_c) (State.isArrayOf_alike hZ.alike A_c.2.1) rfl A_c.2.2 (own_in Z_c (by decide)) V_2 (g := (mkF m 21 #[.val (.int (2 : Int32))] [(.int (130 : Int32)), (.ref ac)])) rfl rfl (hb hby d3_21)) ?_
  show own_G p e below _ T2 (mkF m 22 #[.val (.int (2 : Int32))] [(.ref r2)])
  exact own_retA X2 hx hlk hret rfl rfl (hb hby d3_22) (by decide) (by decide) ⟨rfl, rfl, e2⟩
set_option maxRecDepth 65536 in
set_option maxHeartbeats 40000000 in
theorem c_valueOf_3 (l : Launch) (Z : State) (a0 : Array Value) (hw : ∀ d ∈ tables_1, d.before a0 Z = true) (ac r0 r1 r2 r3 : Addr) (clc : Cell) (h0 : Heap) (B : own_B Z h0 ac r0 r1 r2 r3 clc) :
    own_M l Z (⟨"java/lang/Integer", "valueOf", "(I)Ljava/lang/Integer;"⟩ : MethodName) jdk_33_method_22_code 1 (some (.object "java/lang/Integer")) ⟨0, 0, 0, 0⟩ #[.int (3 : Int32)] h0 (fun v h L => v = some (.ref r3) ∧ L = [] ∧ h = h0) := by
  refine own_body pn_3 ?_
  intro p e s m below meth c T0 hx hby hml hlk hown hret hnm hH hnamed X0 e0
  have hZ := hH.wide
  replace hown : s.vm.findClass "java/lang/Integer" = some m.cls := hown
  replace hml : c.maxLocals = 1 := hml
  obtain ⟨S_h, S_c, A_c, Z_c, V_0, E_0, F_0, V_1, E_1, F_1, V_2, E_2, F_2, V_3, E_3, F_3⟩ := id B
  have ef : entryFrame m #[.int (3 : Int32)] 1 = (mkF m 0 #[.val (.int (3 : Int32))] []) := by first | (simp [entryFrame, mkF, argsToLocals, Value.category]; done) | rfl
  rw [ef]
  refine own_go (fun t k => XS.iloadN X0.here hx rfl (hb hby d3_0) rfl k) ?_
  show own_G p e below _ T0 (mkF m 1 #[.val (.int (3 : Int32))] [(.int (3 : Int32))])
  refine own_go (fun t k => XS.bipush X0.here hx rfl (hb hby d3_1) k) ?_
  show own_G p e below _ T0 (mkF m 3 #[.val (.int (3 : Int32))] [(.int (-128 : Int32)), (.int (3 : Int32))])
  refine own_go (fun t k => XS.icmpNo X0.here hx rfl (hb hby d3_3) rfl (by decide) k) ?_
  show own_G p e below _ T0 (mkF m 6 #[.val (.int (3 : Int32))] [])
  refine own_go (fun t k => XS.iloadN X0.here hx rfl (hb hby d3_6) rfl k) ?_
  show own_G p e below _ T0 (mkF m 7 #[.val (.int (3 : Int32))] [(.int (3 : Int32))])
  obtain ⟨T1, X1, e1, st1⟩ := getS X0 hx hZ hown (host := "") (hw _ (List.mem_of_getElem? (i := 18) rfl)) Via.refl e0 S_h (g := (mkF m 7 #[.val (.int (3 : Int32))] [(.int (3 : Int32))])) rfl (hb hby d3_7)
  refine own_go st1 ?_
  show own_G p e below _ T1 (mkF m 10 #[.val (.int (3 : Int32))] [(.int (127 : Int32)), (.int (3 : Int32))])
  refine own_go (fun t k => XS.icmpNo X1.here hx rfl (hb hby d3_10) rfl (by decide) k) ?_
  show own_G p e below _ T1 (mkF m 13 #[.val (.int (3 : Int32))] [])
  obtain ⟨T2, X2, e2, st2⟩ := getS X1 hx hZ hown (host := "") (hw _ (List.mem_of_getElem? (i := 20) rfl)) Via.refl e1 S_c (g := (mkF m 13 #[.val (.int (3 : Int32))] [])) rfl (hb hby d3_13)
  refine own_go st2 ?_
  show own_G p e below _ T2 (mkF m 16 #[.val (.int (3 : Int32))] [(.ref ac)])
  refine own_go (fun t k => XS.iloadN X2.here hx rfl (hb hby d3_16) rfl k) ?_
  show own_G p e below _ T2 (mkF m 17 #[.val (.int (3 : Int32))] [(.int (3 : Int32)), (.ref ac)])
  refine own_go (fun t k => XS.sipush X2.here hx rfl (hb hby d3_17) k) ?_
  show own_G p e below _ T2 (mkF m 20 #[.val (.int (3 : Int32))] [(.int (128 : Int32)), (.int (3 : Int32)), (.ref ac)])
  refine own_go (fun t k => XS.iadd X2.here hx rfl (hb hby d3_20) rfl k) ?_
  show own_G p e below _ T2 (mkF m 21 #[.val (.int (3 : Int32))] [(.int (131 : Int32)), (.ref ac)])
  refine own_go (X2.aaload hx (j := (131 : Int32)) (v := (.ref r3)) (own_cellAt e2 A_c) (State.isArrayOf_alike hZ.alike A_c.2.1) rfl A_c.2.2 (own_in Z_c (by decide)) V_3 (g := (mkF m 21 #[.val (.int (3 : Int32))] [(.int (131 : Int32)), (.ref ac)])) rfl rfl (hb hby d3_21)) ?_
  show own_G p e below _ T2 (mkF m 22 #[.val (.int (3 : Int32))] [(.ref r3)])
  exact own_retA X2 hx hlk hret rfl rfl (hb hby d3_22) (by decide) (by decide) ⟨rfl, rfl, e2⟩
def own_iv  (a1 : Addr) (w1 : Int32) : Int32 := w1
theorem d9_0 : decode jdk_33_method_27_code 0 = .ok (.aload_n 0, 1) := by decide +kernel
theorem d9_1 : decode jdk_33_method_27_code 1 = .ok (.getfield 205, 3) := by decide +kernel
theorem d9_4 : decode jdk_33_method_27_code 4 = .ok (.ireturn, 1) := by decide +kernel
theorem pn_9 : plainFor (⟨"java/lang/Integer", "intValue", "()I"⟩ : MethodName) = true := by first | exact plainFor_of_name (by first | (simp [plainName, overriddenIn]; done) | decide +kernel) | decide +kernel
set_option maxRecDepth 65536 in
set_option maxHeartbeats 40000000 in
theorem c_iv (l : Launch) (Z : State) (a0 : Array Value) (hw : ∀ d ∈ tables_1, d.before a0 Z = true)  (a1 : Addr) (w1 : Int32) (h0 : Heap)  (F_a1_value : Fld Z h0 a1 "java/lang/Integer" "value" "I" (.int w1)) :
    own_M l Z (⟨"java/lang/Integer", "intValue", "()I"⟩ : MethodName) jdk_33_method_27_code 1 (some .int) ⟨0, 0, 0, 0⟩ #[.ref a1] h0 (fun v h L => v = some (.int (own_iv a1 w1)) ∧ L = [] ∧ h = h0) := by
  refine own_body pn_9 ?_
  intro p e s m below meth c T0 hx hby hml hlk hown hret hnm hH hnamed X0 e0
  have hZ := hH.wide
  replace hown : s.vm.findClass "java/lang/Integer" = some m.cls := hown
  replace hml : c.maxLocals = 1 := hml
  have ef : entryFrame m #[.ref a1] 1 = (mkF m 0 #[.val (.ref a1)] []) := by first | (simp [entryFrame, mkF, argsToLocals, Value.category]; done) | rfl
  rw [ef]
  refine own_go (fun t k => XS.aloadN X0.here hx rfl (hb hby d9_0) rfl rfl k) ?_
  show own_G p e below _ T0 (mkF m 1 #[.val (.ref a1)] [(.ref a1)])
  obtain ⟨T1, X1, e1, st1⟩ := getF X0 hx hZ hown (host := "") (Or.inl (hw _ (List.mem_of_getElem? (i := 60) rfl))) Via.refl e0 F_a1_value (g := (mkF m 1 #[.val (.ref a1)] [(.ref a1)])) rfl rfl (hb hby d9_1)
  refine own_go st1 ?_
  show own_G p e below _ T1 (mkF m 4 #[.val (.ref a1)] [(.int w1)])
  exact own_retI X1 hx hlk hret (hb hby d9_4) (by decide) (by decide) ⟨rfl, rfl, e1⟩
set_option maxRecDepth 65536 in
set_option maxHeartbeats 40000000 in
theorem c_slot_a (l : Launch) (Z : State) (a0 : Array Value) (hw : ∀ d ∈ tables_1, d.before a0 Z = true) (s1 : Addr) (i1 : Int32) (n1 r1 : Int32) (h0 : Heap) (hn : n1 < i1) :
    own_M l Z (⟨"com/example/halyard/halyard/engine/OperandStackDropPinLaw", "slot", "(Lcom/example/halyard/halyard/engine/OperandStack;III)Z"⟩ : MethodName) method_3_code 5 (some .boolean) ⟨2, 1, 3, 3100⟩ #[.ref s1, .int i1, .int n1, .int r1] h0 (fun v h L => v = some (.int 1) ∧ L = [] ∧ Ext h0 h) := by
  refine own_body pn_6 ?_
  intro p e s m below meth c T0 hx hby hml hlk hown hret hnm hH hnamed X0 e0
  have hZ := hH.wide
  replace hown : s.vm.findClass "com/example/halyard/halyard/engine/OperandStackDropPinLaw" = some m.cls := hown
  replace hml : c.maxLocals = 5 := hml
  have ef : entryFrame m #[.ref s1, .int i1, .int n1, .int r1] 5 = (mkF m 0 #[.val (.ref s1), .val (.int i1), .val (.int n1), .val (.int r1), .unset] []) := by first | (simp [entryFrame, mkF, argsToLocals, Value.category]; done) | rfl
  rw [ef]
  refine own_go (fun t k => XS.iloadN X0.here hx rfl (hb hby d6_0) rfl k) ?_
  show own_G p e below _ T0 (mkF m 1 #[.val (.ref s1), .val (.int i1), .val (.int n1), .val (.int r1), .unset] [(.int i1)])
  refine own_go (fun t k => XS.iloadN X0.here hx rfl (hb hby d6_1) rfl k) ?_
  show own_G p e below _ T0 (mkF m 2 #[.val (.ref s1), .val (.int i1), .val (.int n1), .val (.int r1), .unset] [(.int n1), (.int i1)])
  refine own_go (fun t k => XS.icmpNo X0.here hx rfl (hb hby d6_2) rfl (Jvm.Free.XT.ii_le_f hn) k) ?_
  show own_G p e below _ T0 (mkF m 5 #[.val (.ref s1), .val (.int i1), .val (.int n1), .val (.int r1), .unset] [])
  refine own_go (fun t k => XS.iconst X0.here hx rfl (hb hby d6_5) k) ?_
  show own_G p e below _ T0 (mkF m 6 #[.val (.ref s1), .val (.int i1), .val (.int n1), .val (.int r1), .unset] [(.int (1 : Int32))])
  exact own_retN X0 hx hlk hret (by simp) (hb hby d6_6) (by decide) (by decide) ⟨rfl, rfl, own_ext_eq (own_ext_refl _) e0⟩
set_option maxRecDepth 65536 in
set_option maxHeartbeats 40000000 in
theorem c_slot_b0 (l : Launch) (Z : State) (a0 : Array Value) (hw : ∀ d ∈ tables_1, d.before a0 Z = true) (s1 : Addr) (n1 r1 : Int32) (ar b1 : Addr) (v1 v2 v3 : Value) (h0 : Heap) (hn : ¬ n1 < (0 : Int32)) (hr : ¬ r1 < (0 : Int32)) (S : own_ST Z h0 s1 ar (r1 + (1 : Int32)) (.ref b1) v1 v2 v3) (E_b : Exa Z h0 b1 "java/lang/Integer") (F_b : Fld Z h0 b1 "java/lang/Integer" "value" "I" (.int (0 : Int32))) :
    own_M l Z (⟨"com/example/halyard/halyard/engine/OperandStackDropPinLaw", "slot", "(Lcom/example/halyard/halyard/engine/OperandStack;III)Z"⟩ : MethodName) method_3_code 5 (some .boolean) ⟨2, 1, 3, 3100⟩ #[.ref s1, .int (0 : Int32), .int n1, .int r1] h0 (fun v h L => v = some (.int 1) ∧ L = [] ∧ Ext h0 h) := by
  refine own_body pn_6 ?_
  intro p e s m below meth c T0 hx hby hml hlk hown hret hnm hH hnamed X0 e0
  have hZ := hH.wide
  replace hown : s.vm.findClass "com/example/halyard/halyard/engine/OperandStackDropPinLaw" = some m.cls := hown
  replace hml : c.maxLocals = 5 := hml
  have ef : entryFrame m #[.ref s1, .int (0 : Int32), .int n1, .int r1] 5 = (mkF m 0 #[.val (.ref s1), .val (.int (0 : Int32)), .val (.int n1), .val (.int r1), .unset] []) := by first | (simp [entryFrame, mkF, argsToLocals, Value.category]; done) | rfl
  rw [ef]
  refine own_go (fun t k => XS.iloadN X0.here hx rfl (hb hby d6_0) rfl k) ?_
  show own_G p e below _ T0 (mkF m 1 #[.val (.ref s1), .val (.int (0 : Int32)), .val (.int n1), .val (.int r1), .unset] [(.int (0 : Int32))])
  refine own_go (fun t k => XS.iloadN X0.here hx rfl (hb hby d6_1) rfl k) ?_
  show own_G p e below _ T0 (mkF m 2 #[.val (.ref s1), .val (.int (0 : Int32)), .val (.int n1), .val (.int r1), .unset] [(.int n1), (.int (0 : Int32))])
  refine own_go (fun t k => XS.icmpYes X0.here hx rfl (pc0 := 2) (pc' := 7) rfl (hb hby d6_2) rfl (Jvm.Free.XT.ii_le_t hn) (by decide) (by decide) k) ?_
  show own_G p e below _ T0 (mkF m 7 #[.val (.ref s1), .val (.int (0 : Int32)), .val (.int n1), .val (.int r1), .unset] [])
  refine own_go (fun t k => XS.aloadN X0.here hx rfl (hb hby d6_7) rfl rfl k) ?_
  show own_G p e below _ T0 (mkF m 8 #[.val (.ref s1), .val (.int (0 : Int32)), .val (.int n1), .val (.int r1), .unset] [(.ref s1)])
  refine own_go (fun t k => XS.iloadN X0.here hx rfl (hb hby d6_8) rfl k) ?_
  show own_G p e below _ T0 (mkF m 9 #[.val (.ref s1), .val (.int (0 : Int32)), .val (.int n1), .val (.int r1), .unset] [(.int (0 : Int32)), (.ref s1)])
  refine own_go (fun t k => XS.iloadN X0.here hx rfl (hb hby d6_9) rfl k) ?_
  show own_G p e below _ T0 (mkF m 10 #[.val (.ref s1), .val (.int (0 : Int32)), .val (.int n1), .val (.int r1), .unset] [(.int r1), (.int (0 : Int32)), (.ref s1)])
  refine own_go (fun t k => XS.iconst X0.here hx rfl (hb hby d6_10) k) ?_
  show own_G p e below _ T0 (mkF m 11 #[.val (.ref s1), .val (.int (0 : Int32)), .val (.int n1), .val (.int r1), .unset] [(.int (1 : Int32)), (.int r1), (.int (0 : Int32)), (.ref s1)])
  refine own_go (fun t k => XS.iadd X0.here hx rfl (hb hby d6_11) rfl k) ?_
  show own_G p e below _ T0 (mkF m 12 #[.val (.ref s1), .val (.int (0 : Int32)), .val (.int n1), .val (.int r1), .unset] [(.int (r1 + (1 : Int32))), (.int (0 : Int32)), (.ref s1)])
  obtain ⟨T1, L1, v1, X1, ⟨cK1, rfl, rfl, md1, q1⟩, st1⟩ := own_callV X0 hx hH (y := (⟨"com/example/halyard/halyard/engine/OperandStack", "operand", "(II)Lcom/example/halyard/halyard/engine/Code;"⟩ : MethodName)) (z := (⟨"com/example/halyard/halyard/engine/OperandStack", "operand", "(II)Lcom/example/halyard/halyard/engine/Code;"⟩ : MethodName)) hown (hw _ (List.mem_of_getElem? (i := 38) rfl)) (hw _ (List.mem_of_getElem? (i := 39) rfl)) (hw _ (List.mem_of_getElem? (i := 41) rfl)) (hw _ (List.mem_of_getElem? (i := 41) rfl)) (hw _ (List.mem_of_getElem? (i := 40) rfl)) (hw _ (List.mem_of_getElem? (i := 42) rfl)) (hw _ (List.mem_of_getElem? (i := 3) rfl)) (notFace_of_selects (args := #[]) (mvT hZ (hw _ (List.mem_of_getElem? (i := 41) rfl)))) (by decide) (c_operand l Z a0 hw s1 (0 : Int32) (r1 + (1 : Int32)) h0) e0 S.1 (argsL := [(.int (0 : Int32)), (.int (r1 + (1 : Int32)))]) (rest := []) (g := (mkF m 12 #[.val (.ref s1), .val (.int (0 : Int32)), .val (.int n1), .val (.int r1), .unset] [(.int (r1 + (1 : Int32))), (.int (0 : Int32)), (.ref s1)])) rfl (by rw [hml]; rfl) (ps := [.int, .int]) (r := (some (.object "com/example/halyard/halyard/engine/Code"))) (by decide +kernel) rfl rfl (W := 0) (by show 2 * 0 + _ ≤ _; exact Nat.le_of_eq rfl) (hb hby d6_12) (by decide) (by decide) (by decide) (by decide)
  have x1 : Ext h0 T1.heap := by rw [q1]; exact own_ext_push _ _
  have c1 : T1.heap[h0.size]? = some { cls := cK1, slots := #[.ref s1, .int (r1 + (1 : Int32)), .int (0 : Int32)], vm := .none } := by rw [q1]; exact own_push_at _ _
  have S1 := own_ST_ext x1 S
  refine own_go st1 ?_
  show own_G p e below _ T1 (mkF m 15 #[.val (.ref s1), .val (.int (0 : Int32)), .val (.int n1), .val (.int r1), .unset] [(.ref h0.size)])
  refine own_go (fun t k => XS.aconstNull X1.here hx rfl (hb hby d6_15) k) ?_
  show own_G p e below _ T1 (mkF m 16 #[.val (.ref s1), .val (.int (0 : Int32)), .val (.int n1), .val (.int r1), .unset] [.null, (.ref h0.size)])
  obtain ⟨cB2, hB2, oB2⟩ := own_ST_cell S1
  obtain ⟨T2, X2, e2, st2⟩ := own_lam X1 hx hH (own := "com/example/halyard/halyard/engine/OperandStackDropPinLaw") (zz := ⟨"com/example/halyard/halyard/engine/OperandStack", "push", "(Ljava/lang/Object;)V"⟩) hown (hw _ (List.mem_of_getElem? (i := 47) rfl)) (hw _ (List.mem_of_getElem? (i := 48) rfl)) (hw _ (List.mem_of_getElem? (i := 49) rfl)) (hw _ (List.mem_of_getElem? (i := 50) rfl)) (hw _ (List.mem_of_getElem? (i := 51) rfl)) (hw _ (List.mem_of_getElem? (i := 52) rfl)) (hw _ (List.mem_of_getElem? (i := 3) rfl)) (hw _ (List.mem_of_getElem? (i := 24) rfl)) rfl (hw _ (List.mem_of_getElem? (i := 46) rfl)) md1 rfl c1 hB2 oB2 (w := (.ref b1)) rfl (c_lam_0 l Z a0 hw s1 ar (r1 + (1 : Int32)) (r1 + (1 : Int32)) (0 : Int32) (.ref b1) v1 v2 v3 T1.heap S1 rfl (by simp)) rfl rfl (g := (mkF m 16 #[.val (.ref s1), .val (.int (0 : Int32)), .val (.int n1), .val (.int r1), .unset] [.null, (.ref h0.size)])) rfl (by rw [hml]; rfl) (rest := []) rfl (hb hby d6_16) (by decide) (by show 2 * 0 + 0 + (2 + 11) + ((4 + 11) + 0) ≤ 3100; decide) (by decide) (by decide)
  refine own_go st2 ?_
  show own_G p e below _ T2 (mkF m 21 #[.val (.ref s1), .val (.int (0 : Int32)), .val (.int n1), .val (.int r1), .unset] [(.ref b1)])
  refine own_go (fun t k => XS.astore X2.here hx rfl (hb hby d6_21) rfl rfl (l' := #[.val (.ref s1), .val (.int (0 : Int32)), .val (.int n1), .val (.int r1), .val (.ref b1)]) rfl k) ?_
  show own_G p e below _ T2 (mkF m 23 #[.val (.ref s1), .val (.int (0 : Int32)), .val (.int n1), .val (.int r1), .val (.ref b1)] [])
  refine own_go (fun t k => XS.iloadN X2.here hx rfl (hb hby d6_23) rfl k) ?_
  show own_G p e below _ T2 (mkF m 24 #[.val (.ref s1), .val (.int (0 : Int32)), .val (.int n1), .val (.int r1), .val (.ref b1)] [(.int (0 : Int32))])
  refine own_go (fun t k => XS.iloadN X2.here hx rfl (hb hby d6_24) rfl k) ?_
  show own_G p e below _ T2 (mkF m 25 #[.val (.ref s1), .val (.int (0 : Int32)), .val (.int n1), .val (.int r1), .val (.ref b1)] [(.int r1), (.int (0 : Int32))])
  refine own_go (fun t k => XS.icmpNo X2.here hx rfl (hb hby d6_25) rfl (Jvm.Free.XT.ii_gt_f hr) k) ?_
  show own_G p e below _ T2 (mkF m 28 #[.val (.ref s1), .val (.int (0 : Int32)), .val (.int n1), .val (.int r1), .val (.ref b1)] [])
  refine own_go (fun t k => XS.aload X2.here hx rfl (hb hby d6_28) rfl rfl k) ?_
  show own_G p e below _ T2 (mkF m 30 #[.val (.ref s1), .val (.int (0 : Int32)), .val (.int n1), .val (.int r1), .val (.ref b1)] [(.ref b1)])
  obtain ⟨T3, X3, e3, st3⟩ := instY X2 hx hZ hown (hw _ (List.mem_of_getElem? (i := 53) rfl)) e2 (Ins.self (E_b.ext x1)) (g := (mkF m 30 #[.val (.ref s1), .val (.int (0 : Int32)), .val (.int n1), .val (.int r1), .val (.ref b1)] [(.ref b1)])) rfl rfl (hb hby d6_30)
  refine own_go st3 ?_
  show own_G p e below _ T3 (mkF m 33 #[.val (.ref s1), .val (.int (0 : Int32)), .val (.int n1), .val (.int r1), .val (.ref b1)] [(.int (1 : Int32))])
  refine own_go (fun t k => XS.ifNo X3.here hx rfl (hb hby d6_33) rfl (by decide) k) ?_
  show own_G p e below _ T3 (mkF m 36 #[.val (.ref s1), .val (.int (0 : Int32)), .val (.int n1), .val (.int r1), .val (.ref b1)] [])
  refine own_go (fun t k => XS.aload X3.here hx rfl (hb hby d6_36) rfl rfl k) ?_
  show own_G p e below _ T3 (mkF m 38 #[.val (.ref s1), .val (.int (0 : Int32)), .val (.int n1), .val (.int r1), .val (.ref b1)] [(.ref b1)])
  obtain ⟨T4, X4, e4, st4⟩ := castY X3 hx hZ hown (hw _ (List.mem_of_getElem? (i := 53) rfl)) e3 (Ins.self (E_b.ext x1)) (g := (mkF m 38 #[.val (.ref s1), .val (.int (0 : Int32)), .val (.int n1), .val (.int r1), .val (.ref b1)] [(.ref b1)])) rfl rfl (hb hby d6_38)
  refine own_go st4 ?_
  show own_G p e below _ T4 (mkF m 41 #[.val (.ref s1), .val (.int (0 : Int32)), .val (.int n1), .val (.int r1), .val (.ref b1)] [(.ref b1)])
  obtain ⟨T5, L5, v5, X5, ⟨rfl, rfl, q5⟩, st5⟩ := own_callV X4 hx hH (y := (⟨"java/lang/Integer", "intValue", "()I"⟩ : MethodName)) (z := (⟨"java/lang/Integer", "intValue", "()I"⟩ : MethodName)) hown (hw _ (List.mem_of_getElem? (i := 55) rfl)) (hw _ (List.mem_of_getElem? (i := 56) rfl)) (hw _ (List.mem_of_getElem? (i := 58) rfl)) (hw _ (List.mem_of_getElem? (i := 58) rfl)) (hw _ (List.mem_of_getElem? (i := 57) rfl)) (hw _ (List.mem_of_getElem? (i := 59) rfl)) (hw _ (List.mem_of_getElem? (i := 16) rfl)) (notFace_of_selects (args := #[]) (mvT hZ (hw _ (List.mem_of_getElem? (i := 58) rfl)))) (by decide) (c_iv l Z a0 hw b1 (0 : Int32) T1.heap  (F_b.ext x1)) e4 (E_b.ext x1) (argsL := []) (rest := []) (g := (mkF m 41 #[.val (.ref s1), .val (.int (0 : Int32)), .val (.int n1), .val (.int r1), .val (.ref b1)] [(.ref b1)])) rfl (by rw [hml]; rfl) (ps := []) (r := (some .int)) (by decide +kernel) rfl rfl (W := 0) (by show 2 * 0 + _ ≤ _; exact Nat.le_of_eq rfl) (hb hby d6_41) (by decide) (by decide) (by decide) (by decide)
  refine own_go st5 ?_
  show own_G p e below _ T5 (mkF m 44 #[.val (.ref s1), .val (.int (0 : Int32)), .val (.int n1), .val (.int r1), .val (.ref b1)] [(.int (own_iv b1 (0 : Int32)))])
  have r5 : (own_iv b1 (0 : Int32)) = (0 : Int32) := by unfold own_iv; rfl
  rw [r5]
  show own_G p e below _ T5 (mkF m 44 #[.val (.ref s1), .val (.int (0 : Int32)), .val (.int n1), .val (.int r1), .val (.ref b1)] [(.int (0 : Int32))])
  refine own_go (fun t k => XS.iloadN X5.here hx rfl (hb hby d6_44) rfl k) ?_
  show own_G p e below _ T5 (mkF m 45 #[.val (.ref s1), .val (.int (0 : Int32)), .val (.int n1), .val (.int r1), .val (.ref b1)] [(.int (0 : Int32)), (.int (0 : Int32))])
  refine own_go (fun t k => XS.icmpNo X5.here hx rfl (hb hby d6_45) rfl (by decide) k) ?_
  show own_G p e below _ T5 (mkF m 48 #[.val (.ref s1), .val (.int (0 : Int32)), .val (.int n1), .val (.int r1), .val (.ref b1)] [])
  refine own_go (fun t k => XS.iconst X5.here hx rfl (hb hby d6_48) k) ?_
  show own_G p e below _ T5 (mkF m 49 #[.val (.ref s1), .val (.int (0 : Int32)), .val (.int n1), .val (.int r1), .val (.ref b1)] [(.int (1 : Int32))])
  refine own_go (fun t k => XS.goto X5.here hx rfl (pc0 := 49) (pc' := 53) rfl (hb hby d6_49) (by decide) (by decide) k) ?_
  show own_G p e below _ T5 (mkF m 53 #[.val (.ref s1), .val (.int (0 : Int32)), .val (.int n1), .val (.int r1), .val (.ref b1)] [(.int (1 : Int32))])
  exact own_retN X5 hx hlk hret (by simp) (hb hby d6_53) (by decide) (by decide) ⟨rfl, rfl, own_ext_eq x1 q5⟩
set_option maxRecDepth 65536 in
set_option maxHeartbeats 40000000 in
theorem c_slot_b1 (l : Launch) (Z : State) (a0 : Array Value) (hw : ∀ d ∈ tables_1, d.before a0 Z = true) (s1 : Addr) (n1 r1 : Int32) (ar b1 : Addr) (v0 v2 v3 : Value) (h0 : Heap) (hn : ¬ n1 < (1 : Int32)) (hr : ¬ r1 < (1 : Int32)) (S : own_ST Z h0 s1 ar (r1 + (1 : Int32)) v0 (.ref b1) v2 v3) (E_b : Exa Z h0 b1 "java/lang/Integer") (F_b : Fld Z h0 b1 "java/lang/Integer" "value" "I" (.int (1 : Int32))) :
    own_M l Z (⟨"com/example/halyard/halyard/engine/OperandStackDropPinLaw", "slot", "(Lcom/example/halyard/halyard/engine/OperandStack;III)Z"⟩ : MethodName) method_3_code 5 (some .boolean) ⟨2, 1, 3, 3100⟩ #[.ref s1, .int (1 : Int32), .int n1, .int r1] h0 (fun v h L => v = some (.int 1) ∧ L = [] ∧ Ext h0 h) := by
  refine own_body pn_6 ?_
  intro p e s m below meth c T0 hx hby hml hlk hown hret hnm hH hnamed X0 e0
  have hZ := hH.wide
  replace hown : s.vm.findClass "com/example/halyard/halyard/engine/OperandStackDropPinLaw" = some m.cls := hown
  replace hml : c.maxLocals = 5 := hml
  have ef : entryFrame m #[.ref s1, .int (1 : Int32), .int n1, .int r1] 5 = (mkF m 0 #[.val (.ref s1), .val (.int (1 : Int32)), .val (.int n1), .val (.int r1), .unset] []) := by first | (simp [entryFrame, mkF, argsToLocals, Value.category]; done) | rfl
  rw [ef]
  refine own_go (fun t k => XS.iloadN X0.here hx rfl (hb hby d6_0) rfl k) ?_
  show own_G p e below _ T0 (mkF m 1 #[.val (.ref s1), .val (.int (1 : Int32)), .val (.int n1), .val (.int r1), .unset] [(.int (1 : Int32))])
  refine own_go (fun t k => XS.iloadN X0.here hx rfl (hb hby d6_1) rfl k) ?_
  show own_G p e below _ T0 (mkF m 2 #[.val (.ref s1), .val (.int (1 : Int32)), .val (.int n1), .val (.int r1), .unset] [(.int n1), (.int (1 : Int32))])
  refine own_go (fun t k => XS.icmpYes X0.here hx rfl (pc0 := 2) (pc' := 7) rfl (hb hby d6_2) rfl (Jvm.Free.XT.ii_le_t hn) (by decide) (by decide) k) ?_
  show own_G p e below _ T0 (mkF m 7 #[.val (.ref s1), .val (.int (1 : Int32)), .val (.int n1), .val (.int r1), .unset] [])
  refine own_go (fun t k => XS.aloadN X0.here hx rfl (hb hby d6_7) rfl rfl k) ?_
  show own_G p e below _ T0 (mkF m 8 #[.val (.ref s1), .val (.int (1 : Int32)), .val (.int n1), .val (.int r1), .unset] [(.ref s1)])
  refine own_go (fun t k => XS.iloadN X0.here hx rfl (hb hby d6_8) rfl k) ?_
  show own_G p e below _ T0 (mkF m 9 #[.val (.ref s1), .val (.int (1 : Int32)), .val (.int n1), .val (.int r1), .unset] [(.int (1 : Int32)), (.ref s1)])
  refine own_go (fun t k => XS.iloadN X0.here hx rfl (hb hby d6_9) rfl k) ?_
  show own_G p e below _ T0 (mkF m 10 #[.val (.ref s1), .val (.int (1 : Int32)), .val (.int n1), .val (.int r1), .unset] [(.int r1), (.int (1 : Int32)), (.ref s1)])
  refine own_go (fun t k => XS.iconst X0.here hx rfl (hb hby d6_10) k) ?_
  show own_G p e below _ T0 (mkF m 11 #[.val (.ref s1), .val (.int (1 : Int32)), .val (.int n1), .val (.int r1), .unset] [(.int (1 : Int32)), (.int r1), (.int (1 : Int32)), (.ref s1)])
  refine own_go (fun t k => XS.iadd X0.here hx rfl (hb hby d6_11) rfl k) ?_
  show own_G p e below _ T0 (mkF m 12 #[.val (.ref s1), .val (.int (1 : Int32)), .val (.int n1), .val (.int r1), .unset] [(.int (r1 + (1 : Int32))), (.int (1 : Int32)), (.ref s1)])
  obtain ⟨T1, L1, v1, X1, ⟨cK1, rfl, rfl, md1, q1⟩, st1⟩ := own_callV X0 hx hH (y := (⟨"com/example/halyard/halyard/engine/OperandStack", "operand", "(II)Lcom/example/halyard/halyard/engine/Code;"⟩ : MethodName)) (z := (⟨"com/example/halyard/halyard/engine/OperandStack", "operand", "(II)Lcom/example/halyard/halyard/engine/Code;"⟩ : MethodName)) hown (hw _ (List.mem_of_getElem? (i := 38) rfl)) (hw _ (List.mem_of_getElem? (i := 39) rfl)) (hw _ (List.mem_of_getElem? (i := 41) rfl)) (hw _ (List.mem_of_getElem? (i := 41) rfl)) (hw _ (List.mem_of_getElem? (i := 40) rfl)) (hw _ (List.mem_of_getElem? (i := 42) rfl)) (hw _ (List.mem_of_getElem? (i := 3) rfl)) (notFace_of_selects (args := #[]) (mvT hZ (hw _ (List.mem_of_getElem? (i := 41) rfl)))) (by decide) (c_operand l Z a0 hw s1 (1 : Int32) (r1 + (1 : Int32)) h0) e0 S.1 (argsL := [(.int (1 : Int32)), (.int (r1 + (1 : Int32)))]) (rest := []) (g := (mkF m 12 #[.val (.ref s1), .val (.int (1 : Int32)), .val (.int n1), .val (.int r1), .unset] [(.int (r1 + (1 : Int32))), (.int (1 : Int32)), (.ref s1)])) rfl (by rw [hml]; rfl) (ps := [.int, .int]) (r := (some (.object "com/example/halyard/halyard/engine/Code"))) (by decide +kernel) rfl rfl (W := 0) (by show 2 * 0 + _ ≤ _; exact Nat.le_of_eq rfl) (hb hby d6_12) (by decide) (by decide) (by decide) (by decide)
  have x1 : Ext h0 T1.heap := by rw [q1]; exact own_ext_push _ _
  have c1 : T1.heap[h0.size]? = some { cls := cK1, slots := #[.ref s1, .int (r1 + (1 : Int32)), .int (1 : Int32)], vm := .none } := by rw [q1]; exact own_push_at _ _
  have S1 := own_ST_ext x1 S
  refine own_go st1 ?_
  show own_G p e below _ T1 (mkF m 15 #[.val (.ref s1), .val (.int (1 : Int32)), .val (.int n1), .val (.int r1), .unset] [(.ref h0.size)])
  refine own_go (fun t k => XS.aconstNull X1.here hx rfl (hb hby d6_15) k) ?_
  show own_G p e below _ T1 (mkF m 16 #[.val (.ref s1), .val (.int (1 : Int32)), .val (.int n1), .val (.int r1), .unset] [.null, (.ref h0.size)])
  obtain ⟨cB2, hB2, oB2⟩ := own_ST_cell S1
  obtain ⟨T2, X2, e2, st2⟩ := own_lam X1 hx hH (own := "com/example/halyard/halyard/engine/OperandStackDropPinLaw") (zz := ⟨"com/example/halyard/halyard/engine/OperandStack", "push", "(Ljava/lang/Object;)V"⟩) hown (hw _ (List.mem_of_getElem? (i := 47) rfl)) (hw _ (List.mem_of_getElem? (i := 48) rfl)) (hw _ (List.mem_of_getElem? (i := 49) rfl)) (hw _ (List.mem_of_getElem? (i := 50) rfl)) (hw _ (List.mem_of_getElem? (i := 51) rfl)) (hw _ (List.mem_of_getElem? (i := 52) rfl)) (hw _ (List.mem_of_getElem? (i := 3) rfl)) (hw _ (List.mem_of_getElem? (i := 24) rfl)) rfl (hw _ (List.mem_of_getElem? (i := 46) rfl)) md1 rfl c1 hB2 oB2 (w := (.ref b1)) rfl (c_lam_1 l Z a0 hw s1 ar (r1 + (1 : Int32)) (r1 + (1 : Int32)) (1 : Int32) v0 (.ref b1) v2 v3 T1.heap S1 rfl (by simp)) rfl rfl (g := (mkF m 16 #[.val (.ref s1), .val (.int (1 : Int32)), .val (.int n1), .val (.int r1), .unset] [.null, (.ref h0.size)])) rfl (by rw [hml]; rfl) (rest := []) rfl (hb hby d6_16) (by decide) (by show 2 * 0 + 0 + (2 + 11) + ((4 + 11) + 0) ≤ 3100; decide) (by decide) (by decide)
  refine own_go st2 ?_
  show own_G p e below _ T2 (mkF m 21 #[.val (.ref s1), .val (.int (1 : Int32)), .val (.int n1), .val (.int r1), .unset] [(.ref b1)])
  refine own_go (fun t k => XS.astore X2.here hx rfl (hb hby d6_21) rfl rfl (l' := #[.val (.ref s1), .val (.int (1 : Int32)), .val (.int n1), .val (.int r1), .val (.ref b1)]) rfl k) ?_
  show own_G p e below _ T2 (mkF m 23 #[.val (.ref s1), .val (.int (1 : Int32)), .val (.int n1), .val (.int r1), .val (.ref b1)] [])
  refine own_go (fun t k => XS.iloadN X2.here hx rfl (hb hby d6_23) rfl k) ?_
  show own_G p e below _ T2 (mkF m 24 #[.val (.ref s1), .val (.int (1 : Int32)), .val (.int n1), .val (.int r1), .val (.ref b1)] [(.int (1 : Int32))])
  refine own_go (fun t k => XS.iloadN X2.here hx rfl (hb hby d6_24) rfl k) ?_
  show own_G p e below _ T2 (mkF m 25 #[.val (.ref s1), .val (.int (1 : Int32)), .val (.int n1), .val (.int r1), .val (.ref b1)] [(.int r1), (.int (1 : Int32))])
  refine own_go (fun t k => XS.icmpNo X2.here hx rfl (hb hby d6_25) rfl (Jvm.Free.XT.ii_gt_f hr) k) ?_
  show own_G p e below _ T2 (mkF m 28 #[.val (.ref s1), .val (.int (1 : Int32)), .val (.int n1), .val (.int r1), .val (.ref b1)] [])
  refine own_go (fun t k => XS.aload X2.here hx rfl (hb hby d6_28) rfl rfl k) ?_
  show own_G p e below _ T2 (mkF m 30 #[.val (.ref s1), .val (.int (1 : Int32)), .val (.int n1), .val (.int r1), .val (.ref b1)] [(.ref b1)])
  obtain ⟨T3, X3, e3, st3⟩ := instY X2 hx hZ hown (hw _ (List.mem_of_getElem? (i := 53) rfl)) e2 (Ins.self (E_b.ext x1)) (g := (mkF m 30 #[.val (.ref s1), .val (.int (1 : Int32)), .val (.int n1), .val (.int r1), .val (.ref b1)] [(.ref b1)])) rfl rfl (hb hby d6_30)
  refine own_go st3 ?_
  show own_G p e below _ T3 (mkF m 33 #[.val (.ref s1), .val (.int (1 : Int32)), .val (.int n1), .val (.int r1), .val (.ref b1)] [(.int (1 : Int32))])
  refine own_go (fun t k => XS.ifNo X3.here hx rfl (hb hby d6_33) rfl (by decide) k) ?_
  show own_G p e below _ T3 (mkF m 36 #[.val (.ref s1), .val (.int (1 : Int32)), .val (.int n1), .val (.int r1), .val (.ref b1)] [])
  refine own_go (fun t k => XS.aload X3.here hx rfl (hb hby d6_36) rfl rfl k) ?_
  show own_G p e below _ T3 (mkF m 38 #[.val (.ref s1), .val (.int (1 : Int32)), .val (.int n1), .val (.int r1), .val (.ref b1)] [(.ref b1)])
  obtain ⟨T4, X4, e4, st4⟩ := castY X3 hx hZ hown (hw _ (List.mem_of_getElem? (i := 53) rfl)) e3 (Ins.self (E_b.ext x1)) (g := (mkF m 38 #[.val (.ref s1), .val (.int (1 : Int32)), .val (.int n1), .val (.int r1), .val (.ref b1)] [(.ref b1)])) rfl rfl (hb hby d6_38)
  refine own_go st4 ?_
  show own_G p e below _ T4 (mkF m 41 #[.val (.ref s1), .val (.int (1 : Int32)), .val (.int n1), .val (.int r1), .val (.ref b1)] [(.ref b1)])
  obtain ⟨T5, L5, v5, X5, ⟨rfl, rfl, q5⟩, st5⟩ := own_callV X4 hx hH (y := (⟨"java/lang/Integer", "intValue", "()I"⟩ : MethodName)) (z := (⟨"java/lang/Integer", "intValue", "()I"⟩ : MethodName)) hown (hw _ (List.mem_of_getElem? (i := 55) rfl)) (hw _ (List.mem_of_getElem? (i := 56) rfl)) (hw _ (List.mem_of_getElem? (i := 58) rfl)) (hw _ (List.mem_of_getElem? (i := 58) rfl)) (hw _ (List.mem_of_getElem? (i := 57) rfl)) (hw _ (List.mem_of_getElem? (i := 59) rfl)) (hw _ (List.mem_of_getElem? (i := 16) rfl)) (notFace_of_selects (args := #[]) (mvT hZ (hw _ (List.mem_of_getElem? (i := 58) rfl)))) (by decide) (c_iv l Z a0 hw b1 (1 : Int32) T1.heap  (F_b.ext x1)) e4 (E_b.ext x1) (argsL := []) (rest := []) (g := (mkF m 41 #[.val (.ref s1), .val (.int (1 : Int32)), .val (.int n1), .val (.int r1), .val (.ref b1)] [(.ref b1)])) rfl (by rw [hml]; rfl) (ps := []) (r := (some .int)) (by decide +kernel) rfl rfl (W := 0) (by show 2 * 0 + _ ≤ _; exact Nat.le_of_eq rfl) (hb hby d6_41) (by decide) (by decide) (by decide) (by decide)
  refine own_go st5 ?_
  show own_G p e below _ T5 (mkF m 44 #[.val (.ref s1), .val (.int (1 : Int32)), .val (.int n1), .val (.int r1), .val (.ref b1)] [(.int (own_iv b1 (1 : Int32)))])
  have r5 : (own_iv b1 (1 : Int32)) = (1 : Int32) := by unfold own_iv; rfl
  rw [r5]
  show own_G p e below _ T5 (mkF m 44 #[.val (.ref s1), .val (.int (1 : Int32)), .val (.int n1), .val (.int r1), .val (.ref b1)] [(.int (1 : Int32))])
  refine own_go (fun t k => XS.iloadN X5.here hx rfl (hb hby d6_44) rfl k) ?_
  show own_G p e below _ T5 (mkF m 45 #[.val (.ref s1), .val (.int (1 : Int32)), .val (.int n1), .val (.int r1), .val (.ref b1)] [(.int (1 : Int32)), (.int (1 : Int32))])
  refine own_go (fun t k => XS.icmpNo X5.here hx rfl (hb hby d6_45) rfl (by decide) k) ?_
  show own_G p e below _ T5 (mkF m 48 #[.val (.ref s1), .val (.int (1 : Int32)), .val (.int n1), .val (.int r1), .val (.ref b1)] [])
  refine own_go (fun t k => XS.iconst X5.here hx rfl (hb hby d6_48) k) ?_
  show own_G p e below _ T5 (mkF m 49 #[.val (.ref s1), .val (.int (1 : Int32)), .val (.int n1), .val (.int r1), .val (.ref b1)] [(.int (1 : Int32))])
  refine own_go (fun t k => XS.goto X5.here hx rfl (pc0 := 49) (pc' := 53) rfl (hb hby d6_49) (by decide) (by decide) k) ?_
  show own_G p e below _ T5 (mkF m 53 #[.val (.ref s1), .val (.int (1 : Int32)), .val (.int n1), .val (.int r1), .val (.ref b1)] [(.int (1 : Int32))])
  exact own_retN X5 hx hlk hret (by simp) (hb hby d6_53) (by decide) (by decide) ⟨rfl, rfl, own_ext_eq x1 q5⟩
set_option maxRecDepth 65536 in
set_option maxHeartbeats 40000000 in
theorem c_slot_b2 (l : Launch) (Z : State) (a0 : Array Value) (hw : ∀ d ∈ tables_1, d.before a0 Z = true) (s1 : Addr) (n1 r1 : Int32) (ar b1 : Addr) (v0 v1 v3 : Value) (h0 : Heap) (hn : ¬ n1 < (2 : Int32)) (hr : ¬ r1 < (2 : Int32)) (S : own_ST Z h0 s1 ar (r1 + (1 : Int32)) v0 v1 (.ref b1) v3) (E_b : Exa Z h0 b1 "java/lang/Integer") (F_b : Fld Z h0 b1 "java/lang/Integer" "value" "I" (.int (2 : Int32))) :
    own_M l Z (⟨"com/example/halyard/halyard/engine/OperandStackDropPinLaw", "slot", "(Lcom/example/halyard/halyard/engine/OperandStack;III)Z"⟩ : MethodName) method_3_code 5 (some .boolean) ⟨2, 1, 3, 3100⟩ #[.ref s1, .int (2 : Int32), .int n1, .int r1] h0 (fun v h L => v = some (.int 1) ∧ L = [] ∧ Ext h0 h) := by
  refine own_body pn_6 ?_
  intro p e s m below meth c T0 hx hby hml hlk hown hret hnm hH hnamed X0 e0
  have hZ := hH.wide
  replace hown : s.vm.findClass "com/example/halyard/halyard/engine/OperandStackDropPinLaw" = some m.cls := hown
  replace hml : c.maxLocals = 5 := hml
  have ef : entryFrame m #[.ref s1, .int (2 : Int32), .int n1, .int r1] 5 = (mkF m 0 #[.val (.ref s1), .val (.int (2 : Int32)), .val (.int n1), .val (.int r1), .unset] []) := by first | (simp [entryFrame, mkF, argsToLocals, Value.category]; done) | rfl
  rw [ef]
  refine own_go (fun t k => XS.iloadN X0.here hx rfl (hb hby d6_0) rfl k) ?_
  show own_G p e below _ T0 (mkF m 1 #[.val (.ref s1), .val (.int (2 : Int32)), .val (.int n1), .val (.int r1), .unset] [(.int (2 : Int32))])
  refine own_go (fun t k => XS.iloadN X0.here hx rfl (hb hby d6_1) rfl k) ?_
  show own_G p e below _ T0 (mkF m 2 #[.val (.ref s1), .val (.int (2 : Int32)), .val (.int n1), .val (.int r1), .unset] [(.int n1), (.int (2 : Int32))])
  refine own_go (fun t k => XS.icmpYes X0.here hx rfl (pc0 := 2) (pc' := 7) rfl (hb hby d6_2) rfl (Jvm.Free.XT.ii_le_t hn) (by decide) (by decide) k) ?_
  show own_G p e below _ T0 (mkF m 7 #[.val (.ref s1), .val (.int (2 : Int32)), .val (.int n1), .val (.int r1), .unset] [])
  refine own_go (fun t k => XS.aloadN X0.here hx rfl (hb hby d6_7) rfl rfl k) ?_
  show own_G p e below _ T0 (mkF m 8 #[.val (.ref s1), .val (.int (2 : Int32)), .val (.int n1), .val (.int r1), .unset] [(.ref s1)])
  refine own_go (fun t k => XS.iloadN X0.here hx rfl (hb hby d6_8) rfl k) ?_
  show own_G p e below _ T0 (mkF m 9 #[.val (.ref s1), .val (.int (2 : Int32)), .val (.int n1), .val (.int r1), .unset] [(.int (2 : Int32)), (.ref s1)])
  refine own_go (fun t k => XS.iloadN X0.here hx rfl (hb hby d6_9) rfl k) ?_
  show own_G p e below _ T0 (mkF m 10 #[.val (.ref s1), .val (.int (2 : Int32)), .val (.int n1), .val (.int r1), .unset] [(.int r1), (.int (2 : Int32)), (.ref s1)])
  refine own_go (fun t k => XS.iconst X0.here hx rfl (hb hby d6_10) k) ?_
  show own_G p e below _ T0 (mkF m 11 #[.val (.ref s1), .val (.int (2 : Int32)), .val (.int n1), .val (.int r1), .unset] [(.int (1 : Int32)), (.int r1), (.int (2 : Int32)), (.ref s1)])
  refine own_go (fun t k => XS.iadd X0.here hx rfl (hb hby d6_11) rfl k) ?_
  show own_G p e below _ T0 (mkF m 12 #[.val (.ref s1), .val (.int (2 : Int32)), .val (.int n1), .val (.int r1), .unset] [(.int (r1 + (1 : Int32))), (.int (2 : Int32)), (.ref s1)])
  obtain ⟨T1, L1, v1, X1, ⟨cK1, rfl, rfl, md1, q1⟩, st1⟩ := own_callV X0 hx hH (y := (⟨"com/example/halyard/halyard/engine/OperandStack", "operand", "(II)Lcom/example/halyard/halyard/engine/Code;"⟩ : MethodName)) (z := (⟨"com/example/halyard/halyard/engine/OperandStack", "operand", "(II)Lcom/example/halyard/halyard/engine/Code;"⟩ : MethodName)) hown (hw _ (List.mem_of_getElem? (i := 38) rfl)) (hw _ (List.mem_of_getElem? (i := 39) rfl)) (hw _ (List.mem_of_getElem? (i := 41) rfl)) (hw _ (List.mem_of_getElem? (i := 41) rfl)) (hw _ (List.mem_of_getElem? (i := 40) rfl)) (hw _ (List.mem_of_getElem? (i := 42) rfl)) (hw _ (List.mem_of_getElem? (i := 3) rfl)) (notFace_of_selects (args := #[]) (mvT hZ (hw _ (List.mem_of_getElem? (i := 41) rfl)))) (by decide) (c_operand l Z a0 hw s1 (2 : Int32) (r1 + (1 : Int32)) h0) e0 S.1 (argsL := [(.int (2 : Int32)), (.int (r1 + (1 : Int32)))]) (rest := []) (g := (mkF m 12 #[.val (.ref s1), .val (.int (2 : Int32)), .val (.int n1), .val (.int r1), .unset] [(.int (r1 + (1 : Int32))), (.int (2 : Int32)), (.ref s1)])) rfl (by rw [hml]; rfl) (ps := [.int, .int]) (r := (some (.object "com/example/halyard/halyard/engine/Code"))) (by decide +kernel) rfl rfl (W := 0) (by show 2 * 0 + _ ≤ _; exact Nat.le_of_eq rfl) (hb hby d6_12) (by decide) (by decide) (by decide) (by decide)
  have x1 : Ext h0 T1.heap := by rw [q1]; exact own_ext_push _ _
  have c1 : T1.heap[h0.size]? = some { cls := cK1, slots := #[.ref s1, .int (r1 + (1 : Int32)), .int (2 : Int32)], vm := .none } := by rw [q1]; exact own_push_at _ _
  have S1 := own_ST_ext x1 S
  refine own_go st1 ?_
  show own_G p e below _ T1 (mkF m 15 #[.val (.ref s1), .val (.int (2 : Int32)), .val (.int n1), .val (.int r1), .unset] [(.ref h0.size)])
  refine own_go (fun t k => XS.aconstNull X1.here hx rfl (hb hby d6_15) k) ?_
  show own_G p e below _ T1 (mkF m 16 #[.val (.ref s1), .val (.int (2 : Int32)), .val (.int n1), .val (.int r1), .unset] [.null, (.ref h0.size)])
  obtain ⟨cB2, hB2, oB2⟩ := own_ST_cell S1
  obtain ⟨T2, X2, e2, st2⟩ := own_lam X1 hx hH (own := "com/example/halyard/halyard/engine/OperandStackDropPinLaw") (zz := ⟨"com/example/halyard/halyard/engine/OperandStack", "push", "(Ljava/lang/Object;)V"⟩) hown (hw _ (List.mem_of_getElem? (i := 47) rfl)) (hw _ (List.mem_of_getElem? (i := 48) rfl)) (hw _ (List.mem_of_getElem? (i := 49) rfl)) (hw _ (List.mem_of_getElem? (i := 50) rfl)) (hw _ (List.mem_of_getElem? (i := 51) rfl)) (hw _ (List.mem_of_getElem? (i := 52) rfl)) (hw _ (List.mem_of_getElem? (i := 3) rfl)) (hw _ (List.mem_of_getElem? (i := 24) rfl)) rfl (hw _ (List.mem_of_getElem? (i := 46) rfl)) md1 rfl c1 hB2 oB2 (w := (.ref b1)) rfl (c_lam_2 l Z a0 hw s1 ar (r1 + (1 : Int32)) (r1 + (1 : Int32)) (2 : Int32) v0 v1 (.ref b1) v3 T1.heap S1 rfl (by simp)) rfl rfl (g := (mkF m 16 #[.val (.ref s1), .val (.int (2 : Int32)), .val (.int n1), .val (.int r1), .unset] [.null, (.ref h0.size)])) rfl (by rw [hml]; rfl) (rest := []) rfl (hb hby d6_16) (by decide) (by show 2 * 0 + 0 + (2 + 11) + ((4 + 11) + 0) ≤ 3100; decide) (by decide) (by decide)
  refine own_go st2 ?_
  show own_G p e below _ T2 (mkF m 21 #[.val (.ref s1), .val (.int (2 : Int32)), .val (.int n1), .val (.int r1), .unset] [(.ref b1)])
  refine own_go (fun t k => XS.astore X2.here hx rfl (hb hby d6_21) rfl rfl (l' := #[.val (.ref s1), .val (.int (2 : Int32)), .val (.int n1), .val (.int r1), .val (.ref b1)]) rfl k) ?_
  show own_G p e below _ T2 (mkF m 23 #[.val (.ref s1), .val (.int (2 : Int32)), .val (.int n1), .val (.int r1), .val (.ref b1)] [])
  refine own_go (fun t k => XS.iloadN X2.here hx rfl (hb hby d6_23) rfl k) ?_
  show own_G p e below _ T2 (mkF m 24 #[.val (.ref s1), .val (.int (2 : Int32)), .val (.int n1), .val (.int r1), .val (.ref b1)] [(.int (2 : Int32))])
  refine own_go (fun t k => XS.iloadN X2.here hx rfl (hb hby d6_24) rfl k) ?_
  show own_G p e below _ T2 (mkF m 25 #[.val (.ref s1), .val (.int (2 : Int32)), .val (.int n1), .val (.int r1), .val (.ref b1)] [(.int r1), (.int (2 : Int32))])
  refine own_go (fun t k => XS.icmpNo X2.here hx rfl (hb hby d6_25) rfl (Jvm.Free.XT.ii_gt_f hr) k) ?_
  show own_G p e below _ T2 (mkF m 28 #[.val (.ref s1), .val (.int (2 : Int32)), .val (.int n1), .val (.int r1), .val (.ref b1)] [])
  refine own_go (fun t k => XS.aload X2.here hx rfl (hb hby d6_28) rfl rfl k) ?_
  show own_G p e below _ T2 (mkF m 30 #[.val (.ref s1), .val (.int (2 : Int32)), .val (.int n1), .val (.int r1), .val (.ref b1)] [(.ref b1)])
  obtain ⟨T3, X3, e3, st3⟩ := instY X2 hx hZ hown (hw _ (List.mem_of_getElem? (i := 53) rfl)) e2 (Ins.self (E_b.ext x1)) (g := (mkF m 30 #[.val (.ref s1), .val (.int (2 : Int32)), .val (.int n1), .val (.int r1), .val (.ref b1)] [(.ref b1)])) rfl rfl (hb hby d6_30)
  refine own_go st3 ?_
  show own_G p e below _ T3 (mkF m 33 #[.val (.ref s1), .val (.int (2 : Int32)), .val (.int n1), .val (.int r1), .val (.ref b1)] [(.int (1 : Int32))])
  refine own_go (fun t k => XS.ifNo X3.here hx rfl (hb hby d6_33) rfl (by decide) k) ?_
  show own_G p e below _ T3 (mkF m 36 #[.val (.ref s1), .val (.int (2 : Int32)), .val (.int n1), .val (.int r1), .val (.ref b1)] [])
  refine own_go (fun t k => XS.aload X3.here hx rfl (hb hby d6_36) rfl rfl k) ?_
  show own_G p e below _ T3 (mkF m 38 #[.val (.ref s1), .val (.int (2 : Int32)), .val (.int n1), .val (.int r1), .val (.ref b1)] [(.ref b1)])
  obtain ⟨T4, X4, e4, st4⟩ := castY X3 hx hZ hown (hw _ (List.mem_of_getElem? (i := 53) rfl)) e3 (Ins.self (E_b.ext x1)) (g := (mkF m 38 #[.val (.ref s1), .val (.int (2 : Int32)), .val (.int n1), .val (.int r1), .val (.ref b1)] [(.ref b1)])) rfl rfl (hb hby d6_38)
  refine own_go st4 ?_
  show own_G p e below _ T4 (mkF m 41 #[.val (.ref s1), .val (.int (2 : Int32)), .val (.int n1), .val (.int r1), .val (.ref b1)] [(.ref b1)])
  obtain ⟨T5, L5, v5, X5, ⟨rfl, rfl, q5⟩, st5⟩ := own_callV X4 hx hH (y := (⟨"java/lang/Integer", "intValue", "()I"⟩ : MethodName)) (z := (⟨"java/lang/Integer", "intValue", "()I"⟩ : MethodName)) hown (hw _ (List.mem_of_getElem? (i := 55) rfl)) (hw _ (List.mem_of_getElem? (i := 56) rfl)) (hw _ (List.mem_of_getElem? (i := 58) rfl)) (hw _ (List.mem_of_getElem? (i := 58) rfl)) (hw _ (List.mem_of_getElem? (i := 57) rfl)) (hw _ (List.mem_of_getElem? (i := 59) rfl)) (hw _ (List.mem_of_getElem? (i := 16) rfl)) (notFace_of_selects (args := #[]) (mvT hZ (hw _ (List.mem_of_getElem? (i := 58) rfl)))) (by decide) (c_iv l Z a0 hw b1 (2 : Int32) T1.heap  (F_b.ext x1)) e4 (E_b.ext x1) (argsL := []) (rest := []) (g := (mkF m 41 #[.val (.ref s1), .val (.int (2 : Int32)), .val (.int n1), .val (.int r1), .val (.ref b1)] [(.ref b1)])) rfl (by rw [hml]; rfl) (ps := []) (r := (some .int)) (by decide +kernel) rfl rfl (W := 0) (by show 2 * 0 + _ ≤ _; exact Nat.le_of_eq rfl) (hb hby d6_41) (by decide) (by decide) (by decide) (by decide)
  refine own_go st5 ?_
  show own_G p e below _ T5 (mkF m 44 #[.val (.ref s1), .val (.int (2 : Int32)), .val (.int n1), .val (.int r1), .val (.ref b1)] [(.int (own_iv b1 (2 : Int32)))])
  have r5 : (own_iv b1 (2 : Int32)) = (2 : Int32) := by unfold own_iv; rfl
  rw [r5]
  show own_G p e below _ T5 (mkF m 44 #[.val (.ref s1), .val (.int (2 : Int32)), .val (.int n1), .val (.int r1), .val (.ref b1)] [(.int (2 : Int32))])
  refine own_go (fun t k => XS.iloadN X5.here hx rfl (hb hby d6_44) rfl k) ?_
  show own_G p e below _ T5 (mkF m 45 #[.val (.ref s1), .val (.int (2 : Int32)), .val (.int n1), .val (.int r1), .val (.ref b1)] [(.int (2 : Int32)), (.int (2 : Int32))])
  refine own_go (fun t k => XS.icmpNo X5.here hx rfl (hb hby d6_45) rfl (by decide) k) ?_
  show own_G p e below _ T5 (mkF m 48 #[.val (.ref s1), .val (.int (2 : Int32)), .val (.int n1), .val (.int r1), .val (.ref b1)] [])
  refine own_go (fun t k => XS.iconst X5.here hx rfl (hb hby d6_48) k) ?_
  show own_G p e below _ T5 (mkF m 49 #[.val (.ref s1), .val (.int (2 : Int32)), .val (.int n1), .val (.int r1), .val (.ref b1)] [(.int (1 : Int32))])
  refine own_go (fun t k => XS.goto X5.here hx rfl (pc0 := 49) (pc' := 53) rfl (hb hby d6_49) (by decide) (by decide) k) ?_
  show own_G p e below _ T5 (mkF m 53 #[.val (.ref s1), .val (.int (2 : Int32)), .val (.int n1), .val (.int r1), .val (.ref b1)] [(.int (1 : Int32))])
  exact own_retN X5 hx hlk hret (by simp) (hb hby d6_53) (by decide) (by decide) ⟨rfl, rfl, own_ext_eq x1 q5⟩
set_option maxRecDepth 65536 in
set_option maxHeartbeats 40000000 in
theorem c_slot_b3 (l : Launch) (Z : State) (a0 : Array Value) (hw : ∀ d ∈ tables_1, d.before a0 Z = true) (s1 : Addr) (n1 r1 : Int32) (ar b1 : Addr) (v0 v1 v2 : Value) (h0 : Heap) (hn : ¬ n1 < (3 : Int32)) (hr : ¬ r1 < (3 : Int32)) (S : own_ST Z h0 s1 ar (r1 + (1 : Int32)) v0 v1 v2 (.ref b1)) (E_b : Exa Z h0 b1 "java/lang/Integer") (F_b : Fld Z h0 b1 "java/lang/Integer" "value" "I" (.int (3 : Int32))) :
    own_M l Z (⟨"com/example/halyard/halyard/engine/OperandStackDropPinLaw", "slot", "(Lcom/example/halyard/halyard/engine/OperandStack;III)Z"⟩ : MethodName) method_3_code 5 (some .boolean) ⟨2, 1, 3, 3100⟩ #[.ref s1, .int (3 : Int32), .int n1, .int r1] h0 (fun v h L => v = some (.int 1) ∧ L = [] ∧ Ext h0 h) := by
  refine own_body pn_6 ?_
  intro p e s m below meth c T0 hx hby hml hlk hown hret hnm hH hnamed X0 e0
  have hZ := hH.wide
  replace hown : s.vm.findClass "com/example/halyard/halyard/engine/OperandStackDropPinLaw" = some m.cls := hown
  replace hml : c.maxLocals = 5 := hml
  have ef : entryFrame m #[.ref s1, .int (3 : Int32), .int n1, .int r1] 5 = (mkF m 0 #[.val (.ref s1), .val (.int (3 : Int32)), .val (.int n1), .val (.int r1), .unset] []) := by first | (simp [entryFrame, mkF, argsToLocals, Value.category]; done) | rfl
  rw [ef]
  refine own_go (fun t k => XS.iloadN X0.here hx rfl (hb hby d6_0) rfl k) ?_
  show own_G p e below _ T0 (mkF m 1 #[.val (.ref s1), .val (.int (3 : Int32)), .val (.int n1), .val (.int r1), .unset] [(.int (3 : Int32))])
  refine own_go (fun t k => XS.iloadN X0.here hx rfl (hb hby d6_1) rfl k) ?_
  show own_G p e below _ T0 (mkF m 2 #[.val (.ref s1), .val (.int (3 : Int32)), .val (.int n1), .val (.int r1), .unset] [(.int n1), (.int (3 : Int32))])
  refine own_go (fun t k => XS.icmpYes X0.here hx rfl (pc0 := 2) (pc' := 7) rfl (hb hby d6_2) rfl (Jvm.Free.XT.ii_le_t hn) (by decide) (by decide) k) ?_
  show own_G p e below _ T0 (mkF m 7 #[.val (.ref s1), .val (.int (3 : Int32)), .val (.int n1), .val (.int r1), .unset] [])
  refine own_go (fun t k => XS.aloadN X0.here hx rfl (hb hby d6_7) rfl rfl k) ?_
  show own_G p e below _ T0 (mkF m 8 #[.val (.ref s1), .val (.int (3 : Int32)), .val (.int n1), .val (.int r1), .unset] [(.ref s1)])
  refine own_go (fun t k => XS.iloadN X0.here hx rfl (hb hby d6_8) rfl k) ?_
  show own_G p e below _ T0 (mkF m 9 #[.val (.ref s1), .val (.int (3 : Int32)), .val (.int n1), .val (.int r1), .unset] [(.int (3 : Int32)), (.ref s1)])
  refine own_go (fun t k => XS.iloadN X0.here hx rfl (hb hby d6_9) rfl k) ?_
  show own_G p e below _ T0 (mkF m 10 #[.val (.ref s1), .val (.int (3 : Int32)), .val (.int n1), .val (.int r1), .unset] [(.int r1), (.int (3 : Int32)), (.ref s1)])
  refine own_go (fun t k => XS.iconst X0.here hx rfl (hb hby d6_10) k) ?_
  show own_G p e below _ T0 (mkF m 11 #[.val (.ref s1), .val (.int (3 : Int32)), .val (.int n1), .val (.int r1), .unset] [(.int (1 : Int32)), (.int r1), (.int (3 : Int32)), (.ref s1)])
  refine own_go (fun t k => XS.iadd X0.here hx rfl (hb hby d6_11) rfl k) ?_
  show own_G p e below _ T0 (mkF m 12 #[.val (.ref s1), .val (.int (3 : Int32)), .val (.int n1), .val (.int r1), .unset] [(.int (r1 + (1 : Int32))), (.int (3 : Int32)), (.ref s1)])
  obtain ⟨T1, L1, v1, X1, ⟨cK1, rfl, rfl, md1, q1⟩, st1⟩ := own_callV X0 hx hH (y := (⟨"com/example/halyard/halyard/engine/OperandStack", "operand", "(II)Lcom/example/halyard/halyard/engine/Code;"⟩ : MethodName)) (z := (⟨"com/example/halyard/halyard/engine/OperandStack", "operand", "(II)Lcom/example/halyard/halyard/engine/Code;"⟩ : MethodName)) hown (hw _ (List.mem_of_getElem? (i := 38) rfl)) (hw _ (List.mem_of_getElem? (i := 39) rfl)) (hw _ (List.mem_of_getElem? (i := 41) rfl)) (hw _ (List.mem_of_getElem? (i := 41) rfl)) (hw _ (List.mem_of_getElem? (i := 40) rfl)) (hw _ (List.mem_of_getElem? (i := 42) rfl)) (hw _ (List.mem_of_getElem? (i := 3) rfl)) (notFace_of_selects (args := #[]) (mvT hZ (hw _ (List.mem_of_getElem? (i := 41) rfl)))) (by decide) (c_operand l Z a0 hw s1 (3 : Int32) (r1 + (1 : Int32)) h0) e0 S.1 (argsL := [(.int (3 : Int32)), (.int (r1 + (1 : Int32)))]) (rest := []) (g := (mkF m 12 #[.val (.ref s1), .val (.int (3 : Int32)), .val (.int n1), .val (.int r1), .unset] [(.int (r1 + (1 : Int32))), (.int (3 : Int32)), (.ref s1)])) rfl (by rw [hml]; rfl) (ps := [.int, .int]) (r := (some (.object "com/example/halyard/halyard/engine/Code"))) (by decide +kernel) rfl rfl (W := 0) (by show 2 * 0 + _ ≤ _; exact Nat.le_of_eq rfl) (hb hby d6_12) (by decide) (by decide) (by decide) (by decide)
  have x1 : Ext h0 T1.heap := by rw [q1]; exact own_ext_push _ _
  have c1 : T1.heap[h0.size]? = some { cls := cK1, slots := #[.ref s1, .int (r1 + (1 : Int32)), .int (3 : Int32)], vm := .none } := by rw [q1]; exact own_push_at _ _
  have S1 := own_ST_ext x1 S
  refine own_go st1 ?_
  show own_G p e below _ T1 (mkF m 15 #[.val (.ref s1), .val (.int (3 : Int32)), .val (.int n1), .val (.int r1), .unset] [(.ref h0.size)])
  refine own_go (fun t k => XS.aconstNull X1.here hx rfl (hb hby d6_15) k) ?_
  show own_G p e below _ T1 (mkF m 16 #[.val (.ref s1), .val (.int (3 : Int32)), .val (.int n1), .val (.int r1), .unset] [.null, (.ref h0.size)])
  obtain ⟨cB2, hB2, oB2⟩ := own_ST_cell S1
  obtain ⟨T2, X2, e2, st2⟩ := own_lam X1 hx hH (own := "com/example/halyard/halyard/engine/OperandStackDropPinLaw") (zz := ⟨"com/example/halyard/halyard/engine/OperandStack", "push", "(Ljava/lang/Object;)V"⟩) hown (hw _ (List.mem_of_getElem? (i := 47) rfl)) (hw _ (List.mem_of_getElem? (i := 48) rfl)) (hw _ (List.mem_of_getElem? (i := 49) rfl)) (hw _ (List.mem_of_getElem? (i := 50) rfl)) (hw _ (List.mem_of_getElem? (i := 51) rfl)) (hw _ (List.mem_of_getElem? (i := 52) rfl)) (hw _ (List.mem_of_getElem? (i := 3) rfl)) (hw _ (List.mem_of_getElem? (i := 24) rfl)) rfl (hw _ (List.mem_of_getElem? (i := 46) rfl)) md1 rfl c1 hB2 oB2 (w := (.ref b1)) rfl (c_lam_3 l Z a0 hw s1 ar (r1 + (1 : Int32)) (r1 + (1 : Int32)) (3 : Int32) v0 v1 v2 (.ref b1) T1.heap S1 rfl (by simp)) rfl rfl (g := (mkF m 16 #[.val (.ref s1), .val (.int (3 : Int32)), .val (.int n1), .val (.int r1), .unset] [.null, (.ref h0.size)])) rfl (by rw [hml]; rfl) (rest := []) rfl (hb hby d6_16) (by decide) (by show 2 * 0 + 0 + (2 + 11) + ((4 + 11) + 0) ≤ 3100; decide) (by decide) (by decide)
  refine own_go st2 ?_
  show own_G p e below _ T2 (mkF m 21 #[.val (.ref s1), .val (.int (3 : Int32)), .val (.int n1), .val (.int r1), .unset] [(.ref b1)])
  refine own_go (fun t k => XS.astore X2.here hx rfl (hb hby d6_21) rfl rfl (l' := #[.val (.ref s1), .val (.int (3 : Int32)), .val (.int n1), .val (.int r1), .val (.ref b1)]) rfl k) ?_
  show own_G p e below _ T2 (mkF m 23 #[.val (.ref s1), .val (.int (3 : Int32)), .val (.int n1), .val (.int r1), .val (.ref b1)] [])
  refine own_go (fun t k => XS.iloadN X2.here hx rfl (hb hby d6_23) rfl k) ?_
  show own_G p e below _ T2 (mkF m 24 #[.val (.ref s1), .val (.int (3 : Int32)), .val (.int n1), .val (.int r1), .val (.ref b1)] [(.int (3 : Int32))])
  refine own_go (fun t k => XS.iloadN X2.here hx rfl (hb hby d6_24) rfl k) ?_
  show own_G p e below _ T2 (mkF m 25 #[.val (.ref s1), .val (.int (3 : Int32)), .val (.int n1), .val (.int r1), .val (.ref b1)] [(.int r1), (.int (3 : Int32))])
  refine own_go (fun t k => XS.icmpNo X2.here hx rfl (hb hby d6_25) rfl (Jvm.Free.XT.ii_gt_f hr) k) ?_
  show own_G p e below _ T2 (mkF m 28 #[.val (.ref s1), .val (.int (3 : Int32)), .val (.int n1), .val (.int r1), .val (.ref b1)] [])
  refine own_go (fun t k => XS.aload X2.here hx rfl (hb hby d6_28) rfl rfl k) ?_
  show own_G p e below _ T2 (mkF m 30 #[.val (.ref s1), .val (.int (3 : Int32)), .val (.int n1), .val (.int r1), .val (.ref b1)] [(.ref b1)])
  obtain ⟨T3, X3, e3, st3⟩ := instY X2 hx hZ hown (hw _ (List.mem_of_getElem? (i := 53) rfl)) e2 (Ins.self (E_b.ext x1)) (g := (mkF m 30 #[.val (.ref s1), .val (.int (3 : Int32)), .val (.int n1), .val (.int r1), .val (.ref b1)] [(.ref b1)])) rfl rfl (hb hby d6_30)
  refine own_go st3 ?_
  show own_G p e below _ T3 (mkF m 33 #[.val (.ref s1), .val (.int (3 : Int32)), .val (.int n1), .val (.int r1), .val (.ref b1)] [(.int (1 : Int32))])
  refine own_go (fun t k => XS.ifNo X3.here hx rfl (hb hby d6_33) rfl (by decide) k) ?_
  show own_G p e below _ T3 (mkF m 36 #[.val (.ref s1), .val (.int (3 : Int32)), .val (.int n1), .val (.int r1), .val (.ref b1)] [])
  refine own_go (fun t k => XS.aload X3.here hx rfl (hb hby d6_36) rfl rfl k) ?_
  show own_G p e below _ T3 (mkF m 38 #[.val (.ref s1), .val (.int (3 : Int32)), .val (.int n1), .val (.int r1), .val (.ref b1)] [(.ref b1)])
  obtain ⟨T4, X4, e4, st4⟩ := castY X3 hx hZ hown (hw _ (List.mem_of_getElem? (i := 53) rfl)) e3 (Ins.self (E_b.ext x1)) (g := (mkF m 38 #[.val (.ref s1), .val (.int (3 : Int32)), .val (.int n1), .val (.int r1), .val (.ref b1)] [(.ref b1)])) rfl rfl (hb hby d6_38)
  refine own_go st4 ?_
  show own_G p e below _ T4 (mkF m 41 #[.val (.ref s1), .val (.int (3 : Int32)), .val (.int n1), .val (.int r1), .val (.ref b1)] [(.ref b1)])
  obtain ⟨T5, L5, v5, X5, ⟨rfl, rfl, q5⟩, st5⟩ := own_callV X4 hx hH (y := (⟨"java/lang/Integer", "intValue", "()I"⟩ : MethodName)) (z := (⟨"java/lang/Integer", "intValue", "()I"⟩ : MethodName)) hown (hw _ (List.mem_of_getElem? (i := 55) rfl)) (hw _ (List.mem_of_getElem? (i := 56) rfl)) (hw _ (List.mem_of_getElem? (i := 58) rfl)) (hw _ (List.mem_of_getElem? (i := 58) rfl)) (hw _ (List.mem_of_getElem? (i := 57) rfl)) (hw _ (List.mem_of_getElem? (i := 59) rfl)) (hw _ (List.mem_of_getElem? (i := 16) rfl)) (notFace_of_selects (args := #[]) (mvT hZ (hw _ (List.mem_of_getElem? (i := 58) rfl)))) (by decide) (c_iv l Z a0 hw b1 (3 : Int32) T1.heap  (F_b.ext x1)) e4 (E_b.ext x1) (argsL := []) (rest := []) (g := (mkF m 41 #[.val (.ref s1), .val (.int (3 : Int32)), .val (.int n1), .val (.int r1), .val (.ref b1)] [(.ref b1)])) rfl (by rw [hml]; rfl) (ps := []) (r := (some .int)) (by decide +kernel) rfl rfl (W := 0) (by show 2 * 0 + _ ≤ _; exact Nat.le_of_eq rfl) (hb hby d6_41) (by decide) (by decide) (by decide) (by decide)
  refine own_go st5 ?_
  show own_G p e below _ T5 (mkF m 44 #[.val (.ref s1), .val (.int (3 : Int32)), .val (.int n1), .val (.int r1), .val (.ref b1)] [(.int (own_iv b1 (3 : Int32)))])
  have r5 : (own_iv b1 (3 : Int32)) = (3 : Int32) := by unfold own_iv; rfl
  rw [r5]
  show own_G p e below _ T5 (mkF m 44 #[.val (.ref s1), .val (.int (3 : Int32)), .val (.int n1), .val (.int r1), .val (.ref b1)] [(.int (3 : Int32))])
  refine own_go (fun t k => XS.iloadN X5.here hx rfl (hb hby d6_44) rfl k) ?_
  show own_G p e below _ T5 (mkF m 45 #[.val (.ref s1), .val (.int (3 : Int32)), .val (.int n1), .val (.int r1), .val (.ref b1)] [(.int (3 : Int32)), (.int (3 : Int32))])
  refine own_go (fun t k => XS.icmpNo X5.here hx rfl (hb hby d6_45) rfl (by decide) k) ?_
  show own_G p e below _ T5 (mkF m 48 #[.val (.ref s1), .val (.int (3 : Int32)), .val (.int n1), .val (.int r1), .val (.ref b1)] [])
  refine own_go (fun t k => XS.iconst X5.here hx rfl (hb hby d6_48) k) ?_
  show own_G p e below _ T5 (mkF m 49 #[.val (.ref s1), .val (.int (3 : Int32)), .val (.int n1), .val (.int r1), .val (.ref b1)] [(.int (1 : Int32))])
  refine own_go (fun t k => XS.goto X5.here hx rfl (pc0 := 49) (pc' := 53) rfl (hb hby d6_49) (by decide) (by decide) k) ?_
  show own_G p e below _ T5 (mkF m 53 #[.val (.ref s1), .val (.int (3 : Int32)), .val (.int n1), .val (.int r1), .val (.ref b1)] [(.int (1 : Int32))])
  exact own_retN X5 hx hlk hret (by simp) (hb hby d6_53) (by decide) (by decide) ⟨rfl, rfl, own_ext_eq x1 q5⟩
set_option maxRecDepth 65536 in
set_option maxHeartbeats 40000000 in
theorem c_slot_c1 (l : Launch) (Z : State) (a0 : Array Value) (hw : ∀ d ∈ tables_1, d.before a0 Z = true) (s1 : Addr) (n1 r1 : Int32) (ar : Addr) (v0 v2 v3 : Value) (h0 : Heap) (hn : ¬ n1 < (1 : Int32)) (hr : r1 < (1 : Int32)) (S : own_ST Z h0 s1 ar (r1 + (1 : Int32)) v0 .null v2 v3) :
    own_M l Z (⟨"com/example/halyard/halyard/engine/OperandStackDropPinLaw", "slot", "(Lcom/example/halyard/halyard/engine/OperandStack;III)Z"⟩ : MethodName) method_3_code 5 (some .boolean) ⟨2, 1, 3, 3100⟩ #[.ref s1, .int (1 : Int32), .int n1, .int r1] h0 (fun v h L => v = some (.int 1) ∧ L = [] ∧ Ext h0 h) := by
  refine own_body pn_6 ?_
  intro p e s m below meth c T0 hx hby hml hlk hown hret hnm hH hnamed X0 e0
  have hZ := hH.wide
  replace hown : s.vm.findClass "com/example/halyard/halyard/engine/OperandStackDropPinLaw" = some m.cls := hown
  replace hml : c.maxLocals = 5 := hml
  have ef : entryFrame m #[.ref s1, .int (1 : Int32), .int n1, .int r1] 5 = (mkF m 0 #[.val (.ref s1), .val (.int (1 : Int32)), .val (.int n1), .val (.int r1), .unset] []) := by first | (simp [entryFrame, mkF, argsToLocals, Value.category]; done) | rfl
  rw [ef]
  refine own_go (fun t k => XS.iloadN X0.here hx rfl (hb hby d6_0) rfl k) ?_
  show own_G p e below _ T0 (mkF m 1 #[.val (.ref s1), .val (.int (1 : Int32)), .val (.int n1), .val (.int r1), .unset] [(.int (1 : Int32))])
  refine own_go (fun t k => XS.iloadN X0.here hx rfl (hb hby d6_1) rfl k) ?_
  show own_G p e below _ T0 (mkF m 2 #[.val (.ref s1), .val (.int (1 : Int32)), .val (.int n1), .val (.int r1), .unset] [(.int n1), (.int (1 : Int32))])
  refine own_go (fun t k => XS.icmpYes X0.here hx rfl (pc0 := 2) (pc' := 7) rfl (hb hby d6_2) rfl (Jvm.Free.XT.ii_le_t hn) (by decide) (by decide) k) ?_
  show own_G p e below _ T0 (mkF m 7 #[.val (.ref s1), .val (.int (1 : Int32)), .val (.int n1), .val (.int r1), .unset] [])
  refine own_go (fun t k => XS.aloadN X0.here hx rfl (hb hby d6_7) rfl rfl k) ?_
  show own_G p e below _ T0 (mkF m 8 #[.val (.ref s1), .val (.int (1 : Int32)), .val (.int n1), .val (.int r1), .unset] [(.ref s1)])
  refine own_go (fun t k => XS.iloadN X0.here hx rfl (hb hby d6_8) rfl k) ?_
  show own_G p e below _ T0 (mkF m 9 #[.val (.ref s1), .val (.int (1 : Int32)), .val (.int n1), .val (.int r1), .unset] [(.int (1 : Int32)), (.ref s1)])
  refine own_go (fun t k => XS.iloadN X0.here hx rfl (hb hby d6_9) rfl k) ?_
  show own_G p e below _ T0 (mkF m 10 #[.val (.ref s1), .val (.int (1 : Int32)), .val (.int n1), .val (.int r1), .unset] [(.int r1), (.int (1 : Int32)), (.ref s1)])
  refine own_go (fun t k => XS.iconst X0.here hx rfl (hb hby d6_10) k) ?_
  show own_G p e below _ T0 (mkF m 11 #[.val (.ref s1), .val (.int (1 : Int32)), .val (.int n1), .val (.int r1), .unset] [(.int (1 : Int32)), (.int r1), (.int (1 : Int32)), (.ref s1)])
  refine own_go (fun t k => XS.iadd X0.here hx rfl (hb hby d6_11) rfl k) ?_
  show own_G p e below _ T0 (mkF m 12 #[.val (.ref s1), .val (.int (1 : Int32)), .val (.int n1), .val (.int r1), .unset] [(.int (r1 + (1 : Int32))), (.int (1 : Int32)), (.ref s1)])
  obtain ⟨T1, L1, v1, X1, ⟨cK1, rfl, rfl, md1, q1⟩, st1⟩ := own_callV X0 hx hH (y := (⟨"com/example/halyard/halyard/engine/OperandStack", "operand", "(II)Lcom/example/halyard/halyard/engine/Code;"⟩ : MethodName)) (z := (⟨"com/example/halyard/halyard/engine/OperandStack", "operand", "(II)Lcom/example/halyard/halyard/engine/Code;"⟩ : MethodName)) hown (hw _ (List.mem_of_getElem? (i := 38) rfl)) (hw _ (List.mem_of_getElem? (i := 39) rfl)) (hw _ (List.mem_of_getElem? (i := 41) rfl)) (hw _ (List.mem_of_getElem? (i := 41) rfl)) (hw _ (List.mem_of_getElem? (i := 40) rfl)) (hw _ (List.mem_of_getElem? (i := 42) rfl)) (hw _ (List.mem_of_getElem? (i := 3) rfl)) (notFace_of_selects (args := #[]) (mvT hZ (hw _ (List.mem_of_getElem? (i := 41) rfl)))) (by decide) (c_operand l Z a0 hw s1 (1 : Int32) (r1 + (1 : Int32)) h0) e0 S.1 (argsL := [(.int (1 : Int32)), (.int (r1 + (1 : Int32)))]) (rest := []) (g := (mkF m 12 #[.val (.ref s1), .val (.int (1 : Int32)), .val (.int n1), .val (.int r1), .unset] [(.int (r1 + (1 : Int32))), (.int (1 : Int32)), (.ref s1)])) rfl (by rw [hml]; rfl) (ps := [.int, .int]) (r := (some (.object "com/example/halyard/halyard/engine/Code"))) (by decide +kernel) rfl rfl (W := 0) (by show 2 * 0 + _ ≤ _; exact Nat.le_of_eq rfl) (hb hby d6_12) (by decide) (by decide) (by decide) (by decide)
  have x1 : Ext h0 T1.heap := by rw [q1]; exact own_ext_push _ _
  have c1 : T1.heap[h0.size]? = some { cls := cK1, slots := #[.ref s1, .int (r1 + (1 : Int32)), .int (1 : Int32)], vm := .none } := by rw [q1]; exact own_push_at _ _
  have S1 := own_ST_ext x1 S
  refine own_go st1 ?_
  show own_G p e below _ T1 (mkF m 15 #[.val (.ref s1), .val (.int (1 : Int32)), .val (.int n1), .val (.int r1), .unset] [(.ref h0.size)])
  refine own_go (fun t k => XS.aconstNull X1.here hx rfl (hb hby d6_15) k) ?_
  show own_G p e below _ T1 (mkF m 16 #[.val (.ref s1), .val (.int (1 : Int32)), .val (.int n1), .val (.int r1), .unset] [.null, (.ref h0.size)])
  obtain ⟨cB2, hB2, oB2⟩ := own_ST_cell S1
  obtain ⟨T2, X2, e2, st2⟩ := own_lam X1 hx hH (own := "com/example/halyard/halyard/engine/OperandStackDropPinLaw") (zz := ⟨"com/example/halyard/halyard/engine/OperandStack", "push", "(Ljava/lang/Object;)V"⟩) hown (hw _ (List.mem_of_getElem? (i := 47) rfl)) (hw _ (List.mem_of_getElem? (i := 48) rfl)) (hw _ (List.mem_of_getElem? (i := 49) rfl)) (hw _ (List.mem_of_getElem? (i := 50) rfl)) (hw _ (List.mem_of_getElem? (i := 51) rfl)) (hw _ (List.mem_of_getElem? (i := 52) rfl)) (hw _ (List.mem_of_getElem? (i := 3) rfl)) (hw _ (List.mem_of_getElem? (i := 24) rfl)) rfl (hw _ (List.mem_of_getElem? (i := 46) rfl)) md1 rfl c1 hB2 oB2 (w := .null) rfl (c_lam_1 l Z a0 hw s1 ar (r1 + (1 : Int32)) (r1 + (1 : Int32)) (1 : Int32) v0 .null v2 v3 T1.heap S1 rfl (by simp)) rfl rfl (g := (mkF m 16 #[.val (.ref s1), .val (.int (1 : Int32)), .val (.int n1), .val (.int r1), .unset] [.null, (.ref h0.size)])) rfl (by rw [hml]; rfl) (rest := []) rfl (hb hby d6_16) (by decide) (by show 2 * 0 + 0 + (2 + 11) + ((4 + 11) + 0) ≤ 3100; decide) (by decide) (by decide)
  refine own_go st2 ?_
  show own_G p e below _ T2 (mkF m 21 #[.val (.ref s1), .val (.int (1 : Int32)), .val (.int n1), .val (.int r1), .unset] [.null])
  refine own_go (fun t k => XS.astore X2.here hx rfl (hb hby d6_21) rfl rfl (l' := #[.val (.ref s1), .val (.int (1 : Int32)), .val (.int n1), .val (.int r1), .val .null]) rfl k) ?_
  show own_G p e below _ T2 (mkF m 23 #[.val (.ref s1), .val (.int (1 : Int32)), .val (.int n1), .val (.int r1), .val .null] [])
  refine own_go (fun t k => XS.iloadN X2.here hx rfl (hb hby d6_23) rfl k) ?_
  show own_G p e below _ T2 (mkF m 24 #[.val (.ref s1), .val (.int (1 : Int32)), .val (.int n1), .val (.int r1), .val .null] [(.int (1 : Int32))])
  refine own_go (fun t k => XS.iloadN X2.here hx rfl (hb hby d6_24) rfl k) ?_
  show own_G p e below _ T2 (mkF m 25 #[.val (.ref s1), .val (.int (1 : Int32)), .val (.int n1), .val (.int r1), .val .null] [(.int r1), (.int (1 : Int32))])
  refine own_go (fun t k => XS.icmpYes X2.here hx rfl (pc0 := 25) (pc' := 54) rfl (hb hby d6_25) rfl (Jvm.Free.XT.ii_gt_t hr) (by decide) (by decide) k) ?_
  show own_G p e below _ T2 (mkF m 54 #[.val (.ref s1), .val (.int (1 : Int32)), .val (.int n1), .val (.int r1), .val .null] [])
  refine own_go (fun t k => XS.aload X2.here hx rfl (hb hby d6_54) rfl rfl k) ?_
  show own_G p e below _ T2 (mkF m 56 #[.val (.ref s1), .val (.int (1 : Int32)), .val (.int n1), .val (.int r1), .val .null] [.null])
  refine own_go (fun t k => XT.ifnonnullNo X2.here hx rfl (hb hby d6_56) rfl k) ?_
  show own_G p e below _ T2 (mkF m 59 #[.val (.ref s1), .val (.int (1 : Int32)), .val (.int n1), .val (.int r1), .val .null] [])
  refine own_go (fun t k => XS.iconst X2.here hx rfl (hb hby d6_59) k) ?_
  show own_G p e below _ T2 (mkF m 60 #[.val (.ref s1), .val (.int (1 : Int32)), .val (.int n1), .val (.int r1), .val .null] [(.int (1 : Int32))])
  refine own_go (fun t k => XS.goto X2.here hx rfl (pc0 := 60) (pc' := 64) rfl (hb hby d6_60) (by decide) (by decide) k) ?_
  show own_G p e below _ T2 (mkF m 64 #[.val (.ref s1), .val (.int (1 : Int32)), .val (.int n1), .val (.int r1), .val .null] [(.int (1 : Int32))])
  exact own_retN X2 hx hlk hret (by simp) (hb hby d6_64) (by decide) (by decide) ⟨rfl, rfl, own_ext_eq x1 e2⟩
set_option maxRecDepth 65536 in
set_option maxHeartbeats 40000000 in
theorem c_slot_c2 (l : Launch) (Z : State) (a0 : Array Value) (hw : ∀ d ∈ tables_1, d.before a0 Z = true) (s1 : Addr) (n1 r1 : Int32) (ar : Addr) (v0 v1 v3 : Value) (h0 : Heap) (hn : ¬ n1 < (2 : Int32)) (hr : r1 < (2 : Int32)) (S : own_ST Z h0 s1 ar (r1 + (1 : Int32)) v0 v1 .null v3) :
    own_M l Z (⟨"com/example/halyard/halyard/engine/OperandStackDropPinLaw", "slot", "(Lcom/example/halyard/halyard/engine/OperandStack;III)Z"⟩ : MethodName) method_3_code 5 (some .boolean) ⟨2, 1, 3, 3100⟩ #[.ref s1, .int (2 : Int32), .int n1, .int r1] h0 (fun v h L => v = some (.int 1) ∧ L = [] ∧ Ext h0 h) := by
  refine own_body pn_6 ?_
  intro p e s m below meth c T0 hx hby hml hlk hown hret hnm hH hnamed X0 e0
  have hZ := hH.wide
  replace hown : s.vm.findClass "com/example/halyard/halyard/engine/OperandStackDropPinLaw" = some m.cls := hown
  replace hml : c.maxLocals = 5 := hml
  have ef : entryFrame m #[.ref s1, .int (2 : Int32), .int n1, .int r1] 5 = (mkF m 0 #[.val (.ref s1), .val (.int (2 : Int32)), .val (.int n1), .val (.int r1), .unset] []) := by first | (simp [entryFrame, mkF, argsToLocals, Value.category]; done) | rfl
  rw [ef]
  refine own_go (fun t k => XS.iloadN X0.here hx rfl (hb hby d6_0) rfl k) ?_
  show own_G p e below _ T0 (mkF m 1 #[.val (.ref s1), .val (.int (2 : Int32)), .val (.int n1), .val (.int r1), .unset] [(.int (2 : Int32))])
  refine own_go (fun t k => XS.iloadN X0.here hx rfl (hb hby d6_1) rfl k) ?_
  show own_G p e below _ T0 (mkF m 2 #[.val (.ref s1), .val (.int (2 : Int32)), .val (.int n1), .val (.int r1), .unset] [(.int n1), (.int (2 : Int32))])
  refine own_go (fun t k => XS.icmpYes X0.here hx rfl (pc0 := 2) (pc' := 7) rfl (hb hby d6_2) rfl (Jvm.Free.XT.ii_le_t hn) (by decide) (by decide) k) ?_
  show own_G p e below _ T0 (mkF m 7 #[.val (.ref s1), .val (.int (2 : Int32)), .val (.int n1), .val (.int r1), .unset] [])
  refine own_go (fun t k => XS.aloadN X0.here hx rfl (hb hby d6_7) rfl rfl k) ?_
  show own_G p e below _ T0 (mkF m 8 #[.val (.ref s1), .val (.int (2 : Int32)), .val (.int n1), .val (.int r1), .unset] [(.ref s1)])
  refine own_go (fun t k => XS.iloadN X0.here hx rfl (hb hby d6_8) rfl k) ?_
  show own_G p e below _ T0 (mkF m 9 #[.val (.ref s1), .val (.int (2 : Int32)), .val (.int n1), .val (.int r1), .unset] [(.int (2 : Int32)), (.ref s1)])
  refine own_go (fun t k => XS.iloadN X0.here hx rfl (hb hby d6_9) rfl k) ?_
  show own_G p e below _ T0 (mkF m 10 #[.val (.ref s1), .val (.int (2 : Int32)), .val (.int n1), .val (.int r1), .unset] [(.int r1), (.int (2 : Int32)), (.ref s1)])
  refine own_go (fun t k => XS.iconst X0.here hx rfl (hb hby d6_10) k) ?_
  show own_G p e below _ T0 (mkF m 11 #[.val (.ref s1), .val (.int (2 : Int32)), .val (.int n1), .val (.int r1), .unset] [(.int (1 : Int32)), (.int r1), (.int (2 : Int32)), (.ref s1)])
  refine own_go (fun t k => XS.iadd X0.here hx rfl (hb hby d6_11) rfl k) ?_
  show own_G p e below _ T0 (mkF m 12 #[.val (.ref s1), .val (.int (2 : Int32)), .val (.int n1), .val (.int r1), .unset] [(.int (r1 + (1 : Int32))), (.int (2 : Int32)), (.ref s1)])
  obtain ⟨T1, L1, v1, X1, ⟨cK1, rfl, rfl, md1, q1⟩, st1⟩ := own_callV X0 hx hH (y := (⟨"com/example/halyard/halyard/engine/OperandStack", "operand", "(II)Lcom/example/halyard/halyard/engine/Code;"⟩ : MethodName)) (z := (⟨"com/example/halyard/halyard/engine/OperandStack", "operand", "(II)Lcom/example/halyard/halyard/engine/Code;"⟩ : MethodName)) hown (hw _ (List.mem_of_getElem? (i := 38) rfl)) (hw _ (List.mem_of_getElem? (i := 39) rfl)) (hw _ (List.mem_of_getElem? (i := 41) rfl)) (hw _ (List.mem_of_getElem? (i := 41) rfl)) (hw _ (List.mem_of_getElem? (i := 40) rfl)) (hw _ (List.mem_of_getElem? (i := 42) rfl)) (hw _ (List.mem_of_getElem? (i := 3) rfl)) (notFace_of_selects (args := #[]) (mvT hZ (hw _ (List.mem_of_getElem? (i := 41) rfl)))) (by decide) (c_operand l Z a0 hw s1 (2 : Int32) (r1 + (1 : Int32)) h0) e0 S.1 (argsL := [(.int (2 : Int32)), (.int (r1 + (1 : Int32)))]) (rest := []) (g := (mkF m 12 #[.val (.ref s1), .val (.int (2 : Int32)), .val (.int n1), .val (.int r1), .unset] [(.int (r1 + (1 : Int32))), (.int (2 : Int32)), (.ref s1)])) rfl (by rw [hml]; rfl) (ps := [.int, .int]) (r := (some (.object "com/example/halyard/halyard/engine/Code"))) (by decide +kernel) rfl rfl (W := 0) (by show 2 * 0 + _ ≤ _; exact Nat.le_of_eq rfl) (hb hby d6_12) (by decide) (by decide) (by decide) (by decide)
  have x1 : Ext h0 T1.heap := by rw [q1]; exact own_ext_push _ _
  have c1 : T1.heap[h0.size]? = some { cls := cK1, slots := #[.ref s1, .int (r1 + (1 : Int32)), .int (2 : Int32)], vm := .none } := by rw [q1]; exact own_push_at _ _
  have S1 := own_ST_ext x1 S
  refine own_go st1 ?_
  show own_G p e below _ T1 (mkF m 15 #[.val (.ref s1), .val (.int (2 : Int32)), .val (.int n1), .val (.int r1), .unset] [(.ref h0.size)])
  refine own_go (fun t k => XS.aconstNull X1.here hx rfl (hb hby d6_15) k) ?_
  show own_G p e below _ T1 (mkF m 16 #[.val (.ref s1), .val (.int (2 : Int32)), .val (.int n1), .val (.int r1), .unset] [.null, (.ref h0.size)])
  obtain ⟨cB2, hB2, oB2⟩ := own_ST_cell S1
  obtain ⟨T2, X2, e2, st2⟩ := own_lam X1 hx hH (own := "com/example/halyard/halyard/engine/OperandStackDropPinLaw") (zz := ⟨"com/example/halyard/halyard/engine/OperandStack", "push", "(Ljava/lang/Object;)V"⟩) hown (hw _ (List.mem_of_getElem? (i := 47) rfl)) (hw _ (List.mem_of_getElem? (i := 48) rfl)) (hw _ (List.mem_of_getElem? (i := 49) rfl)) (hw _ (List.mem_of_getElem? (i := 50) rfl)) (hw _ (List.mem_of_getElem? (i := 51) rfl)) (hw _ (List.mem_of_getElem? (i := 52) rfl)) (hw _ (List.mem_of_getElem? (i := 3) rfl)) (hw _ (List.mem_of_getElem? (i := 24) rfl)) rfl (hw _ (List.mem_of_getElem? (i := 46) rfl)) md1 rfl c1 hB2 oB2 (w := .null) rfl (c_lam_2 l Z a0 hw s1 ar (r1 + (1 : Int32)) (r1 + (1 : Int32)) (2 : Int32) v0 v1 .null v3 T1.heap S1 rfl (by simp)) rfl rfl (g := (mkF m 16 #[.val (.ref s1), .val (.int (2 : Int32)), .val (.int n1), .val (.int r1), .unset] [.null, (.ref h0.size)])) rfl (by rw [hml]; rfl) (rest := []) rfl (hb hby d6_16) (by decide) (by show 2 * 0 + 0 + (2 + 11) + ((4 + 11) + 0) ≤ 3100; decide) (by decide) (by decide)
  refine own_go st2 ?_
  show own_G p e below _ T2 (mkF m 21 #[.val (.ref s1), .val (.int (2 : Int32)), .val (.int n1), .val (.int r1), .unset] [.null])
  refine own_go (fun t k => XS.astore X2.here hx rfl (hb hby d6_21) rfl rfl (l' := #[.val (.ref s1), .val (.int (2 : Int32)), .val (.int n1), .val (.int r1), .val .null]) rfl k) ?_
  show own_G p e below _ T2 (mkF m 23 #[.val (.ref s1), .val (.int (2 : Int32)), .val (.int n1), .val (.int r1), .val .null] [])
  refine own_go (fun t k => XS.iloadN X2.here hx rfl (hb hby d6_23) rfl k) ?_
  show own_G p e below _ T2 (mkF m 24 #[.val (.ref s1), .val (.int (2 : Int32)), .val (.int n1), .val (.int r1), .val .null] [(.int (2 : Int32))])
  refine own_go (fun t k => XS.iloadN X2.here hx rfl (hb hby d6_24) rfl k) ?_
  show own_G p e below _ T2 (mkF m 25 #[.val (.ref s1), .val (.int (2 : Int32)), .val (.int n1), .val (.int r1), .val .null] [(.int r1), (.int (2 : Int32))])
  refine own_go (fun t k => XS.icmpYes X2.here hx rfl (pc0 := 25) (pc' := 54) rfl (hb hby d6_25) rfl (Jvm.Free.XT.ii_gt_t hr) (by decide) (by decide) k) ?_
  show own_G p e below _ T2 (mkF m 54 #[.val (.ref s1), .val (.int (2 : Int32)), .val (.int n1), .val (.int r1), .val .null] [])
  refine own_go (fun t k => XS.aload X2.here hx rfl (hb hby d6_54) rfl rfl k) ?_
  show own_G p e below _ T2 (mkF m 56 #[.val (.ref s1), .val (.int (2 : Int32)), .val (.int n1), .val (.int r1), .val .null] [.null])
  refine own_go (fun t k => XT.ifnonnullNo X2.here hx rfl (hb hby d6_56) rfl k) ?_
  show own_G p e below _ T2 (mkF m 59 #[.val (.ref s1), .val (.int (2 : Int32)), .val (.int n1), .val (.int r1), .val .null] [])
  refine own_go (fun t k => XS.iconst X2.here hx rfl (hb hby d6_59) k) ?_
  show own_G p e below _ T2 (mkF m 60 #[.val (.ref s1), .val (.int (2 : Int32)), .val (.int n1), .val (.int r1), .val .null] [(.int (1 : Int32))])
  refine own_go (fun t k => XS.goto X2.here hx rfl (pc0 := 60) (pc' := 64) rfl (hb hby d6_60) (by decide) (by decide) k) ?_
  show own_G p e below _ T2 (mkF m 64 #[.val (.ref s1), .val (.int (2 : Int32)), .val (.int n1), .val (.int r1), .val .null] [(.int (1 : Int32))])
  exact own_retN X2 hx hlk hret (by simp) (hb hby d6_64) (by decide) (by decide) ⟨rfl, rfl, own_ext_eq x1 e2⟩
set_option maxRecDepth 65536 in
set_option maxHeartbeats 40000000 in
theorem c_slot_c3 (l : Launch) (Z : State) (a0 : Array Value) (hw : ∀ d ∈ tables_1, d.before a0 Z = true) (s1 : Addr) (n1 r1 : Int32) (ar : Addr) (v0 v1 v2 : Value) (h0 : Heap) (hn : ¬ n1 < (3 : Int32)) (hr : r1 < (3 : Int32)) (S : own_ST Z h0 s1 ar (r1 + (1 : Int32)) v0 v1 v2 .null) :
    own_M l Z (⟨"com/example/halyard/halyard/engine/OperandStackDropPinLaw", "slot", "(Lcom/example/halyard/halyard/engine/OperandStack;III)Z"⟩ : MethodName) method_3_code 5 (some .boolean) ⟨2, 1, 3, 3100⟩ #[.ref s1, .int (3 : Int32), .int n1, .int r1] h0 (fun v h L => v = some (.int 1) ∧ L = [] ∧ Ext h0 h) := by
  refine own_body pn_6 ?_
  intro p e s m below meth c T0 hx hby hml hlk hown hret hnm hH hnamed X0 e0
  have hZ := hH.wide
  replace hown : s.vm.findClass "com/example/halyard/halyard/engine/OperandStackDropPinLaw" = some m.cls := hown
  replace hml : c.maxLocals = 5 := hml
  have ef : entryFrame m #[.ref s1, .int (3 : Int32), .int n1, .int r1] 5 = (mkF m 0 #[.val (.ref s1), .val (.int (3 : Int32)), .val (.int n1), .val (.int r1), .unset] []) := by first | (simp [entryFrame, mkF, argsToLocals, Value.category]; done) | rfl
  rw [ef]
  refine own_go (fun t k => XS.iloadN X0.here hx rfl (hb hby d6_0) rfl k) ?_
  show own_G p e below _ T0 (mkF m 1 #[.val (.ref s1), .val (.int (3 : Int32)), .val (.int n1), .val (.int r1), .unset] [(.int (3 : Int32))])
  refine own_go (fun t k => XS.iloadN X0.here hx rfl (hb hby d6_1) rfl k) ?_
  show own_G p e below _ T0 (mkF m 2 #[.val (.ref s1), .val (.int (3 : Int32)), .val (.int n1), .val (.int r1), .unset] [(.int n1), (.int (3 : Int32))])
  refine own_go (fun t k => XS.icmpYes X0.here hx rfl (pc0 := 2) (pc' := 7) rfl (hb hby d6_2) rfl (Jvm.Free.XT.ii_le_t hn) (by decide) (by decide) k) ?_
  show own_G p e below _ T0 (mkF m 7 #[.val (.ref s1), .val (.int (3 : Int32)), .val (.int n1), .val (.int r1), .unset] [])
  refine own_go (fun t k => XS.aloadN X0.here hx rfl (hb hby d6_7) rfl rfl k) ?_
  show own_G p e below _ T0 (mkF m 8 #[.val (.ref s1), .val (.int (3 : Int32)), .val (.int n1), .val (.int r1), .unset] [(.ref s1)])
  refine own_go (fun t k => XS.iloadN X0.here hx rfl (hb hby d6_8) rfl k) ?_
  show own_G p e below _ T0 (mkF m 9 #[.val (.ref s1), .val (.int (3 : Int32)), .val (.int n1), .val (.int r1), .unset] [(.int (3 : Int32)), (.ref s1)])
  refine own_go (fun t k => XS.iloadN X0.here hx rfl (hb hby d6_9) rfl k) ?_
  show own_G p e below _ T0 (mkF m 10 #[.val (.ref s1), .val (.int (3 : Int32)), .val (.int n1), .val (.int r1), .unset] [(.int r1), (.int (3 : Int32)), (.ref s1)])
  refine own_go (fun t k => XS.iconst X0.here hx rfl (hb hby d6_10) k) ?_
  show own_G p e below _ T0 (mkF m 11 #[.val (.ref s1), .val (.int (3 : Int32)), .val (.int n1), .val (.int r1), .unset] [(.int (1 : Int32)), (.int r1), (.int (3 : Int32)), (.ref s1)])
  refine own_go (fun t k => XS.iadd X0.here hx rfl (hb hby d6_11) rfl k) ?_
  show own_G p e below _ T0 (mkF m 12 #[.val (.ref s1), .val (.int (3 : Int32)), .val (.int n1), .val (.int r1), .unset] [(.int (r1 + (1 : Int32))), (.int (3 : Int32)), (.ref s1)])
  obtain ⟨T1, L1, v1, X1, ⟨cK1, rfl, rfl, md1, q1⟩, st1⟩ := own_callV X0 hx hH (y := (⟨"com/example/halyard/halyard/engine/OperandStack", "operand", "(II)Lcom/example/halyard/halyard/engine/Code;"⟩ : MethodName)) (z := (⟨"com/example/halyard/halyard/engine/OperandStack", "operand", "(II)Lcom/example/halyard/halyard/engine/Code;"⟩ : MethodName)) hown (hw _ (List.mem_of_getElem? (i := 38) rfl)) (hw _ (List.mem_of_getElem? (i := 39) rfl)) (hw _ (List.mem_of_getElem? (i := 41) rfl)) (hw _ (List.mem_of_getElem? (i := 41) rfl)) (hw _ (List.mem_of_getElem? (i := 40) rfl)) (hw _ (List.mem_of_getElem? (i := 42) rfl)) (hw _ (List.mem_of_getElem? (i := 3) rfl)) (notFace_of_selects (args := #[]) (mvT hZ (hw _ (List.mem_of_getElem? (i := 41) rfl)))) (by decide) (c_operand l Z a0 hw s1 (3 : Int32) (r1 + (1 : Int32)) h0) e0 S.1 (argsL := [(.int (3 : Int32)), (.int (r1 + (1 : Int32)))]) (rest := []) (g := (mkF m 12 #[.val (.ref s1), .val (.int (3 : Int32)), .val (.int n1), .val (.int r1), .unset] [(.int (r1 + (1 : Int32))), (.int (3 : Int32)), (.ref s1)])) rfl (by rw [hml]; rfl) (ps := [.int, .int]) (r := (some (.object "com/example/halyard/halyard/engine/Code"))) (by decide +kernel) rfl rfl (W := 0) (by show 2 * 0 + _ ≤ _; exact Nat.le_of_eq rfl) (hb hby d6_12) (by decide) (by decide) (by decide) (by decide)
  have x1 : Ext h0 T1.heap := by rw [q1]; exact own_ext_push _ _
  have c1 : T1.heap[h0.size]? = some { cls := cK1, slots := #[.ref s1, .int (r1 + (1 : Int32)), .int (3 : Int32)], vm := .none } := by rw [q1]; exact own_push_at _ _
  have S1 := own_ST_ext x1 S
  refine own_go st1 ?_
  show own_G p e below _ T1 (mkF m 15 #[.val (.ref s1), .val (.int (3 : Int32)), .val (.int n1), .val (.int r1), .unset] [(.ref h0.size)])
  refine own_go (fun t k => XS.aconstNull X1.here hx rfl (hb hby d6_15) k) ?_
  show own_G p e below _ T1 (mkF m 16 #[.val (.ref s1), .val (.int (3 : Int32)), .val (.int n1), .val (.int r1), .unset] [.null, (.ref h0.size)])
  obtain ⟨cB2, hB2, oB2⟩ := own_ST_cell S1
  obtain ⟨T2, X2, e2, st2⟩ := own_lam X1 hx hH (own := "com/example/halyard/halyard/engine/OperandStackDropPinLaw") (zz := ⟨"com/example/halyard/halyard/engine/OperandStack", "push", "(Ljava/lang/Object;)V"⟩) hown (hw _ (List.mem_of_getElem? (i := 47) rfl)) (hw _ (List.mem_of_getElem? (i := 48) rfl)) (hw _ (List.mem_of_getElem? (i := 49) rfl)) (hw _ (List.mem_of_getElem? (i := 50) rfl)) (hw _ (List.mem_of_getElem? (i := 51) rfl)) (hw _ (List.mem_of_getElem? (i := 52) rfl)) (hw _ (List.mem_of_getElem? (i := 3) rfl)) (hw _ (List.mem_of_getElem? (i := 24) rfl)) rfl (hw _ (List.mem_of_getElem? (i := 46) rfl)) md1 rfl c1 hB2 oB2 (w := .null) rfl (c_lam_3 l Z a0 hw s1 ar (r1 + (1 : Int32)) (r1 + (1 : Int32)) (3 : Int32) v0 v1 v2 .null T1.heap S1 rfl (by simp)) rfl rfl (g := (mkF m 16 #[.val (.ref s1), .val (.int (3 : Int32)), .val (.int n1), .val (.int r1), .unset] [.null, (.ref h0.size)])) rfl (by rw [hml]; rfl) (rest := []) rfl (hb hby d6_16) (by decide) (by show 2 * 0 + 0 + (2 + 11) + ((4 + 11) + 0) ≤ 3100; decide) (by decide) (by decide)
  refine own_go st2 ?_
  show own_G p e below _ T2 (mkF m 21 #[.val (.ref s1), .val (.int (3 : Int32)), .val (.int n1), .val (.int r1), .unset] [.null])
  refine own_go (fun t k => XS.astore X2.here hx rfl (hb hby d6_21) rfl rfl (l' := #[.val (.ref s1), .val (.int (3 : Int32)), .val (.int n1), .val (.int r1), .val .null]) rfl k) ?_
  show own_G p e below _ T2 (mkF m 23 #[.val (.ref s1), .val (.int (3 : Int32)), .val (.int n1), .val (.int r1), .val .null] [])
  refine own_go (fun t k => XS.iloadN X2.here hx rfl (hb hby d6_23) rfl k) ?_
  show own_G p e below _ T2 (mkF m 24 #[.val (.ref s1), .val (.int (3 : Int32)), .val (.int n1), .val (.int r1), .val .null] [(.int (3 : Int32))])
  refine own_go (fun t k => XS.iloadN X2.here hx rfl (hb hby d6_24) rfl k) ?_
  show own_G p e below _ T2 (mkF m 25 #[.val (.ref s1), .val (.int (3 : Int32)), .val (.int n1), .val (.int r1), .val .null] [(.int r1), (.int (3 : Int32))])
  refine own_go (fun t k => XS.icmpYes X2.here hx rfl (pc0 := 25) (pc' := 54) rfl (hb hby d6_25) rfl (Jvm.Free.XT.ii_gt_t hr) (by decide) (by decide) k) ?_
  show own_G p e below _ T2 (mkF m 54 #[.val (.ref s1), .val (.int (3 : Int32)), .val (.int n1), .val (.int r1), .val .null] [])
  refine own_go (fun t k => XS.aload X2.here hx rfl (hb hby d6_54) rfl rfl k) ?_
  show own_G p e below _ T2 (mkF m 56 #[.val (.ref s1), .val (.int (3 : Int32)), .val (.int n1), .val (.int r1), .val .null] [.null])
  refine own_go (fun t k => XT.ifnonnullNo X2.here hx rfl (hb hby d6_56) rfl k) ?_
  show own_G p e below _ T2 (mkF m 59 #[.val (.ref s1), .val (.int (3 : Int32)), .val (.int n1), .val (.int r1), .val .null] [])
  refine own_go (fun t k => XS.iconst X2.here hx rfl (hb hby d6_59) k) ?_
  show own_G p e below _ T2 (mkF m 60 #[.val (.ref s1), .val (.int (3 : Int32)), .val (.int n1), .val (.int r1), .val .null] [(.int (1 : Int32))])
  refine own_go (fun t k => XS.goto X2.here hx rfl (pc0 := 60) (pc' := 64) rfl (hb hby d6_60) (by decide) (by decide) k) ?_
  show own_G p e below _ T2 (mkF m 64 #[.val (.ref s1), .val (.int (3 : Int32)), .val (.int n1), .val (.int r1), .val .null] [(.int (1 : Int32))])
  exact own_retN X2 hx hlk hret (by simp) (hb hby d6_64) (by decide) (by decide) ⟨rfl, rfl, own_ext_eq x1 e2⟩
theorem pn_0 : plainFor x = true := by first | exact plainFor_of_name (by first | (simp [plainName, overriddenIn]; done) | decide +kernel) | decide +kernel
set_option maxRecDepth 65536 in
set_option maxHeartbeats 40000000 in
theorem rm0 (l : Launch) (Z : State) (a0 : Array Value) (hw : ∀ d ∈ tables_1, d.before a0 Z = true) (i0 i1 : Int32) (ac r0 r1 r2 r3 : Addr) (clc : Cell) (h0 : Heap) (n0 : Nat) (Z0 : n0 ≤ h0.size) (B : own_B Z h0 ac r0 r1 r2 r3 clc) :
    own_M l Z x code maxLocals ret room_1 #[.int i0, .int i1] h0 (fun v h L => v = some (.int 1) ∧ Fr n0 L) := by
  refine own_body pn_0 ?_
  intro p e s m below meth c T0 hx hby hml hlk hown hret hnm hH hnamed X0 e0
  have hZ := hH.wide
  replace hown : s.vm.findClass "com/example/halyard/halyard/engine/OperandStackDropPinLaw" = some m.cls := hown
  replace hml : c.maxLocals = 6 := hml
  replace hret : meth.sig.returnType = some .boolean := hret
  obtain ⟨S_h, S_c, A_c, Z_c, V_0, E_0, F_0, V_1, E_1, F_1, V_2, E_2, F_2, V_3, E_3, F_3⟩ := id B
  have hk := own_l4 ((i0 &&& (2147483647 : Int32)) % (4 : Int32)) (own_rem _ 4 (own_mask i0) (by decide)).1 (Int.lt_add_one_iff.mp (own_rem _ 4 (own_mask i0) (by decide)).2)
  have N0 := Fr.nil n0
  have ef : entryFrame m #[.int i0, .int i1] maxLocals = (mkF m 0 #[.val (.int i0), .val (.int i1), .unset, .unset, .unset, .unset] []) := by first | (simp [entryFrame, mkF, argsToLocals, Value.category, maxLocals]; done) | rfl
  rw [ef]
  refine own_go (fun t k => XS.iloadN X0.here hx rfl (hb hby at_0) rfl k) ?_
  show own_G p e below _ T0 (mkF m 1 #[.val (.int i0), .val (.int i1), .unset, .unset, .unset, .unset] [(.int i0)])
  refine own_go (X0.ldcInt hx hown (mvT hZ (hw _ (List.mem_of_getElem? (i := 0) rfl))) (g := (mkF m 1 #[.val (.int i0), .val (.int i1), .unset, .unset, .unset, .unset] [(.int i0)])) rfl (hb hby at_1)) ?_
  show own_G p e below _ T0 (mkF m 3 #[.val (.int i0), .val (.int i1), .unset, .unset, .unset, .unset] [(.int (2147483647 : Int32)), (.int i0)])
  refine own_go (fun t k => XS.iand X0.here hx rfl (hb hby at_3) rfl k) ?_
  show own_G p e below _ T0 (mkF m 4 #[.val (.int i0), .val (.int i1), .unset, .unset, .unset, .unset] [(.int (i0 &&& (2147483647 : Int32)))])
  refine own_go (fun t k => XS.iconst X0.here hx rfl (hb hby at_4) k) ?_
  show own_G p e below _ T0 (mkF m 5 #[.val (.int i0), .val (.int i1), .unset, .unset, .unset, .unset] [(.int (4 : Int32)), (.int (i0 &&& (2147483647 : Int32)))])
  refine own_go (fun t k => iremM X0 hx rfl (hb hby at_5) rfl (by decide) k) ?_
  show own_G p e below _ T0 (mkF m 6 #[.val (.int i0), .val (.int i1), .unset, .unset, .unset, .unset] [(.int ((i0 &&& (2147483647 : Int32)) % (4 : Int32)))])
  rcases hk with hk1 | hk1 | hk1 | hk1
  · rw [hk1]
    show own_G p e below _ T0 (mkF m 6 #[.val (.int i0), .val (.int i1), .unset, .unset, .unset, .unset] [(.int (0 : Int32))])
    refine own_go (fun t k => XS.istoreN X0.here hx rfl (hb hby at_6) rfl (l' := #[.val (.int i0), .val (.int i1), .val (.int (0 : Int32)), .unset, .unset, .unset]) rfl k) ?_
    show own_G p e below _ T0 (mkF m 7 #[.val (.int i0), .val (.int i1), .val (.int (0 : Int32)), .unset, .unset, .unset] [])
    refine own_go (fun t k => XS.iloadN X0.here hx rfl (hb hby at_7) rfl k) ?_
    show own_G p e below _ T0 (mkF m 8 #[.val (.int i0), .val (.int i1), .val (.int (0 : Int32)), .unset, .unset, .unset] [(.int i1)])
    refine own_go (X0.ldcInt hx hown (mvT hZ (hw _ (List.mem_of_getElem? (i := 0) rfl))) (g := (mkF m 8 #[.val (.int i0), .val (.int i1), .val (.int (0 : Int32)), .unset, .unset, .unset] [(.int i1)])) rfl (hb hby at_8)) ?_
    show own_G p e below _ T0 (mkF m 10 #[.val (.int i0), .val (.int i1), .val (.int (0 : Int32)), .unset, .unset, .unset] [(.int (2147483647 : Int32)), (.int i1)])
    refine own_go (fun t k => XS.iand X0.here hx rfl (hb hby at_10) rfl k) ?_
    show own_G p e below _ T0 (mkF m 11 #[.val (.int i0), .val (.int i1), .val (.int (0 : Int32)), .unset, .unset, .unset] [(.int (i1 &&& (2147483647 : Int32)))])
    refine own_go (fun t k => XS.iloadN X0.here hx rfl (hb hby at_11) rfl k) ?_
    show own_G p e below _ T0 (mkF m 12 #[.val (.int i0), .val (.int i1), .val (.int (0 : Int32)), .unset, .unset, .unset] [(.int (0 : Int32)), (.int (i1 &&& (2147483647 : Int32)))])
    refine own_go (fun t k => XS.iconst X0.here hx rfl (hb hby at_12) k) ?_
    show own_G p e below _ T0 (mkF m 13 #[.val (.int i0), .val (.int i1), .val (.int (0 : Int32)), .unset, .unset, .unset] [(.int (1 : Int32)), (.int (0 : Int32)), (.int (i1 &&& (2147483647 : Int32)))])
    refine own_go (fun t k => XS.iadd X0.here hx rfl (hb hby at_13) rfl k) ?_
    show own_G p e below _ T0 (mkF m 14 #[.val (.int i0), .val (.int i1), .val (.int (0 : Int32)), .unset, .unset, .unset] [(.int (1 : Int32)), (.int (i1 &&& (2147483647 : Int32)))])
    refine own_go (fun t k => iremM X0 hx rfl (hb hby at_14) rfl (by decide) k) ?_
    show own_G p e below _ T0 (mkF m 15 #[.val (.int i0), .val (.int i1), .val (.int (0 : Int32)), .unset, .unset, .unset] [(.int ((i1 &&& (2147483647 : Int32)) % (1 : Int32)))])
    have hk2 := (own_l1 _ (own_rem _ 1 (own_mask i1) (by decide)).1 (Int.lt_add_one_iff.mp (own_rem _ 1 (own_mask i1) (by decide)).2))
    · rw [hk2]
      show own_G p e below _ T0 (mkF m 15 #[.val (.int i0), .val (.int i1), .val (.int (0 : Int32)), .unset, .unset, .unset] [(.int (0 : Int32))])
      refine own_go (fun t k => XS.istoreN X0.here hx rfl (hb hby at_15) rfl (l' := #[.val (.int i0), .val (.int i1), .val (.int (0 : Int32)), .val (.int (0 : Int32)), .unset, .unset]) rfl k) ?_
      show own_G p e below _ T0 (mkF m 16 #[.val (.int i0), .val (.int i1), .val (.int (0 : Int32)), .val (.int (0 : Int32)), .unset, .unset] [])
      obtain ⟨T3, h3, X3, e3, E3, A3, D3, -, st3⟩ := newO X0 hx hZ hown (hw _ (List.mem_of_getElem? (i := 1) rfl)) (hw _ (List.mem_of_getElem? (i := 2) rfl)) (hw _ (List.mem_of_getElem? (i := 3) rfl)) e0 (g := (mkF m 16 #[.val (.int i0), .val (.int i1), .val (.int (0 : Int32)), .val (.int (0 : Int32)), .unset, .unset] [])) rfl (hb hby at_16) (by decide) (by decide)
      obtain ⟨s1, gs⟩ : ∃ z, z = h0.size := ⟨_, rfl⟩
      rw [← gs] at A3 D3 st3
      have F1 : Fld Z h3 s1 own_K "values" "[Ljava/lang/Object;" .null := D3 (Or.inl (hw _ (List.mem_of_getElem? (i := 13) rfl))) (ty := .array (.object "java/lang/Object")) (by decide +kernel)
      have F2 : Fld Z h3 s1 own_K "size" "I" (.int (0 : Int32)) := D3 (Or.inl (hw _ (List.mem_of_getElem? (i := 27) rfl))) (ty := .int) (by decide)
      have x3 : Ext h0 h3 := E3
      have js : h0.size ≤ s1 := Nat.le_of_eq gs.symm
      have g1 : n0 ≤ s1 := Nat.le_trans Z0 js
      refine own_go st3 ?_
      show own_G p e below _ T3 (mkF m 19 #[.val (.int i0), .val (.int i1), .val (.int (0 : Int32)), .val (.int (0 : Int32)), .unset, .unset] [(.ref s1)])
      refine own_go (fun t k => XS.dup X3.here hx rfl (hb hby at_19) rfl rfl k) ?_
      show own_G p e below _ T3 (mkF m 20 #[.val (.int i0), .val (.int i1), .val (.int (0 : Int32)), .val (.int (0 : Int32)), .unset, .unset] [(.ref s1), (.ref s1)])
      obtain ⟨T4, L4, v4, X4, ⟨rfl, Nq4, Kq4, Sq4⟩, st4⟩ := own_callN X3 hx hH (y := (⟨"com/example/halyard/halyard/engine/OperandStack", "<init>", "()V"⟩ : MethodName)) rfl hown (hw _ (List.mem_of_getElem? (i := 4) rfl)) (hw _ (List.mem_of_getElem? (i := 5) rfl)) (hw _ (List.mem_of_getElem? (i := 6) rfl)) (hw _ (List.mem_of_getElem? (i := 3) rfl)) (by decide) (c_init l Z a0 hw s1 h3 n0 (Nat.le_trans Z0 x3.1) A3 F1 F2 g1) e3 (argsL := []) (rest := [(.ref s1)]) (g := (mkF m 20 #[.val (.int i0), .val (.int i1), .val (.int (0 : Int32)), .val (.int (0 : Int32)), .unset, .unset] [(.ref s1), (.ref s1)])) rfl (by rw [hml]; rfl) (ps := []) (r := none) (by decide +kernel) rfl rfl (W := 1) (by show 2 * 0 + _ ≤ _; exact Nat.le_of_eq rfl) (hb hby at_20) (by decide) (by decide) (by decide) (by decide)
      obtain ⟨ar, ga⟩ : ∃ z, z = h3.size := ⟨_, rfl⟩
      rw [← ga] at Sq4
      have ja : h0.size ≤ ar := Nat.le_trans x3.1 (Nat.le_of_eq ga.symm)
      have g2 : n0 ≤ ar := Nat.le_trans Z0 ja
      have x4 := own_ext_keep x3 Kq4 (allS js all0)
      have N4 := Fr.app N0 Nq4
      refine own_go st4 ?_
      show own_G p e below _ T4 (mkF m 23 #[.val (.int i0), .val (.int i1), .val (.int (0 : Int32)), .val (.int (0 : Int32)), .unset, .unset] [(.ref s1)])
      refine own_go (fun t k => XS.astore X4.here hx rfl (hb hby at_23) rfl rfl (l' := #[.val (.int i0), .val (.int i1), .val (.int (0 : Int32)), .val (.int (0 : Int32)), .val (.ref s1), .unset]) rfl k) ?_
      show own_G p e below _ T4 (mkF m 25 #[.val (.int i0), .val (.int i1), .val (.int (0 : Int32)), .val (.int (0 : Int32)), .val (.ref s1), .unset] [])
      refine own_go (fun t k => XS.aload X4.here hx rfl (hb hby at_25) rfl rfl k) ?_
      show own_G p e below _ T4 (mkF m 27 #[.val (.int i0), .val (.int i1), .val (.int (0 : Int32)), .val (.int (0 : Int32)), .val (.ref s1), .unset] [(.ref s1)])
      refine own_go (fun t k => XS.iconst X4.here hx rfl (hb hby at_27) k) ?_
      show own_G p e below _ T4 (mkF m 28 #[.val (.int i0), .val (.int i1), .val (.int (0 : Int32)), .val (.int (0 : Int32)), .val (.ref s1), .unset] [(.int (0 : Int32)), (.ref s1)])
      obtain ⟨T5, L5, v5, X5, ⟨rfl, rfl, q5⟩, st5⟩ := own_callS X4 hx hH (y := (⟨"java/lang/Integer", "valueOf", "(I)Ljava/lang/Integer;"⟩ : MethodName)) hown (hw _ (List.mem_of_getElem? (i := 14) rfl)) (hw _ (List.mem_of_getElem? (i := 15) rfl)) (hw _ (List.mem_of_getElem? (i := 16) rfl)) (hw _ (List.mem_of_getElem? (i := 17) rfl)) (by decide) (c_valueOf_0 l Z a0 hw ac r0 r1 r2 r3 clc T4.heap (own_B_ext x4 B)) rfl (argsL := [(.int (0 : Int32))]) (rest := [(.ref s1)]) (g := (mkF m 28 #[.val (.int i0), .val (.int i1), .val (.int (0 : Int32)), .val (.int (0 : Int32)), .val (.ref s1), .unset] [(.int (0 : Int32)), (.ref s1)])) rfl (by rw [hml]; rfl) (ps := [.int]) (r := (some (.object "java/lang/Integer"))) (by decide +kernel) rfl rfl (W := 1) (by show 2 * 0 + _ ≤ _; exact Nat.le_of_eq rfl) (hb hby at_28) (by decide) (by decide) (by decide) (by decide)
      have N5 := Fr.app N4 (Fr.nil n0)
      refine own_go st5 ?_
      show own_G p e below _ T5 (mkF m 31 #[.val (.int i0), .val (.int i1), .val (.int (0 : Int32)), .val (.int (0 : Int32)), .val (.ref s1), .unset] [(.ref r0), (.ref s1)])
      obtain ⟨T6, L6, v6, X6, ⟨rfl, Nq6, Kq6, Sq6⟩, st6⟩ := own_callV X5 hx hH (y := (⟨"com/example/halyard/halyard/engine/OperandStack", "push", "(Ljava/lang/Object;)V"⟩ : MethodName)) (z := (⟨"com/example/halyard/halyard/engine/OperandStack", "push", "(Ljava/lang/Object;)V"⟩ : MethodName)) hown (hw _ (List.mem_of_getElem? (i := 21) rfl)) (hw _ (List.mem_of_getElem? (i := 22) rfl)) (hw _ (List.mem_of_getElem? (i := 24) rfl)) (hw _ (List.mem_of_getElem? (i := 24) rfl)) (hw _ (List.mem_of_getElem? (i := 23) rfl)) (hw _ (List.mem_of_getElem? (i := 25) rfl)) (hw _ (List.mem_of_getElem? (i := 3) rfl)) (notFace_of_selects (args := #[]) (mvT hZ (hw _ (List.mem_of_getElem? (i := 24) rfl)))) (by decide) (c_push_0A l Z a0 hw s1 ar r0 .null .null .null .null T4.heap n0 (Nat.le_trans Z0 x4.1) Sq4 (own_ST_sto Sq4 (Ins.of_exa (E_0.ext x4) (hw _ (List.mem_of_getElem? (i := 28) rfl)))) g1 g2) q5 Sq4.1 (argsL := [(.ref r0)]) (rest := []) (g := (mkF m 31 #[.val (.int i0), .val (.int i1), .val (.int (0 : Int32)), .val (.int (0 : Int32)), .val (.ref s1), .unset] [(.ref r0), (.ref s1)])) rfl (by rw [hml]; rfl) (ps := [(.object "java/lang/Object")]) (r := none) (by decide +kernel) rfl rfl (W := 0) (by show 2 * 0 + _ ≤ _; exact Nat.le_of_eq rfl) (hb hby at_31) (by decide) (by decide) (by decide) (by decide)
      have x6 := own_ext_keep x4 Kq6 (allS js (allS ja all0))
      have N6 := Fr.app N5 Nq6
      refine own_go st6 ?_
      show own_G p e below _ T6 (mkF m 34 #[.val (.int i0), .val (.int i1), .val (.int (0 : Int32)), .val (.int (0 : Int32)), .val (.ref s1), .unset] [])
      refine own_go (fun t k => XS.iloadN X6.here hx rfl (hb hby at_34) rfl k) ?_
      show own_G p e below _ T6 (mkF m 35 #[.val (.int i0), .val (.int i1), .val (.int (0 : Int32)), .val (.int (0 : Int32)), .val (.ref s1), .unset] [(.int (0 : Int32))])
      refine own_go (fun t k => XS.iconst X6.here hx rfl (hb hby at_35) k) ?_
      show own_G p e below _ T6 (mkF m 36 #[.val (.int i0), .val (.int i1), .val (.int (0 : Int32)), .val (.int (0 : Int32)), .val (.ref s1), .unset] [(.int (1 : Int32)), (.int (0 : Int32))])
      refine own_go (fun t k => XS.icmpYes X6.here hx rfl (pc0 := 36) (pc' := 48) rfl (hb hby at_36) rfl (by decide) (by decide) (by decide) k) ?_
      show own_G p e below _ T6 (mkF m 48 #[.val (.int i0), .val (.int i1), .val (.int (0 : Int32)), .val (.int (0 : Int32)), .val (.ref s1), .unset] [])
      refine own_go (fun t k => XS.iloadN X6.here hx rfl (hb hby at_48) rfl k) ?_
      show own_G p e below _ T6 (mkF m 49 #[.val (.int i0), .val (.int i1), .val (.int (0 : Int32)), .val (.int (0 : Int32)), .val (.ref s1), .unset] [(.int (0 : Int32))])
      refine own_go (fun t k => XS.iconst X6.here hx rfl (hb hby at_49) k) ?_
      show own_G p e below _ T6 (mkF m 50 #[.val (.int i0), .val (.int i1), .val (.int (0 : Int32)), .val (.int (0 : Int32)), .val (.ref s1), .unset] [(.int (2 : Int32)), (.int (0 : Int32))])
      refine own_go (fun t k => XS.icmpYes X6.here hx rfl (pc0 := 50) (pc' := 62) rfl (hb hby at_50) rfl (by decide) (by decide) (by decide) k) ?_
      show own_G p e below _ T6 (mkF m 62 #[.val (.int i0), .val (.int i1), .val (.int (0 : Int32)), .val (.int (0 : Int32)), .val (.ref s1), .unset] [])
      refine own_go (fun t k => XS.iloadN X6.here hx rfl (hb hby at_62) rfl k) ?_
      show own_G p e below _ T6 (mkF m 63 #[.val (.int i0), .val (.int i1), .val (.int (0 : Int32)), .val (.int (0 : Int32)), .val (.ref s1), .unset] [(.int (0 : Int32))])
      refine own_go (fun t k => XS.iconst X6.here hx rfl (hb hby at_63) k) ?_
      show own_G p e below _ T6 (mkF m 64 #[.val (.int i0), .val (.int i1), .val (.int (0 : Int32)), .val (.int (0 : Int32)), .val (.ref s1), .unset] [(.int (3 : Int32)), (.int (0 : Int32))])
      refine own_go (fun t k => XS.icmpYes X6.here hx rfl (pc0 := 64) (pc' := 76) rfl (hb hby at_64) rfl (by decide) (by decide) (by decide) k) ?_
      show own_G p e below _ T6 (mkF m 76 #[.val (.int i0), .val (.int i1), .val (.int (0 : Int32)), .val (.int (0 : Int32)), .val (.ref s1), .unset] [])
      refine own_go (fun t k => XS.aload X6.here hx rfl (hb hby at_76) rfl rfl k) ?_
      show own_G p e below _ T6 (mkF m 78 #[.val (.int i0), .val (.int i1), .val (.int (0 : Int32)), .val (.int (0 : Int32)), .val (.ref s1), .unset] [(.ref s1)])
      refine own_go (fun t k => XS.iloadN X6.here hx rfl (hb hby at_78) rfl k) ?_
      show own_G p e below _ T6 (mkF m 79 #[.val (.int i0), .val (.int i1), .val (.int (0 : Int32)), .val (.int (0 : Int32)), .val (.ref s1), .unset] [(.int (0 : Int32)), (.ref s1)])
      obtain ⟨T7, L7, v7, X7, ⟨rfl, Nq7, Kq7, Sq7⟩, st7⟩ := own_callV X6 hx hH (y := (⟨"com/example/halyard/halyard/engine/OperandStack", "drop", "(I)V"⟩ : MethodName)) (z := (⟨"com/example/halyard/halyard/engine/OperandStack", "drop", "(I)V"⟩ : MethodName)) hown (hw _ (List.mem_of_getElem? (i := 29) rfl)) (hw _ (List.mem_of_getElem? (i := 30) rfl)) (hw _ (List.mem_of_getElem? (i := 32) rfl)) (hw _ (List.mem_of_getElem? (i := 32) rfl)) (hw _ (List.mem_of_getElem? (i := 31) rfl)) (hw _ (List.mem_of_getElem? (i := 33) rfl)) (hw _ (List.mem_of_getElem? (i := 3) rfl)) (notFace_of_selects (args := #[]) (mvT hZ (hw _ (List.mem_of_getElem? (i := 32) rfl)))) (by decide) (c_drop_1_0 l Z a0 hw s1 ar (.ref r0) .null .null .null T6.heap n0 (Nat.le_trans Z0 x6.1) Sq6 g1 g2) rfl Sq6.1 (argsL := [(.int (0 : Int32))]) (rest := []) (g := (mkF m 79 #[.val (.int i0), .val (.int i1), .val (.int (0 : Int32)), .val (.int (0 : Int32)), .val (.ref s1), .unset] [(.int (0 : Int32)), (.ref s1)])) rfl (by rw [hml]; rfl) (ps := [.int]) (r := none) (by decide +kernel) rfl rfl (W := 0) (by show 2 * 0 + _ ≤ _; exact Nat.le_of_eq rfl) (hb hby at_79) (by decide) (by decide) (by decide) (by decide)
      have x7 := own_ext_keep x6 Kq7 (allS js (allS ja all0))
      have N7 := Fr.app N6 Nq7
      refine own_go st7 ?_
      show own_G p e below _ T7 (mkF m 82 #[.val (.int i0), .val (.int i1), .val (.int (0 : Int32)), .val (.int (0 : Int32)), .val (.ref s1), .unset] [])
      refine own_go (fun t k => XS.iloadN X7.here hx rfl (hb hby at_82) rfl k) ?_
      show own_G p e below _ T7 (mkF m 83 #[.val (.int i0), .val (.int i1), .val (.int (0 : Int32)), .val (.int (0 : Int32)), .val (.ref s1), .unset] [(.int (0 : Int32))])
      refine own_go (fun t k => XS.iloadN X7.here hx rfl (hb hby at_83) rfl k) ?_
      show own_G p e below _ T7 (mkF m 84 #[.val (.int i0), .val (.int i1), .val (.int (0 : Int32)), .val (.int (0 : Int32)), .val (.ref s1), .unset] [(.int (0 : Int32)), (.int (0 : Int32))])
      refine own_go (fun t k => XS.isub X7.here hx rfl (hb hby at_84) rfl k) ?_
      show own_G p e below _ T7 (mkF m 85 #[.val (.int i0), .val (.int i1), .val (.int (0 : Int32)), .val (.int (0 : Int32)), .val (.ref s1), .unset] [(.int (0 : Int32))])
      refine own_go (fun t k => XS.istore X7.here hx rfl (hb hby at_85) rfl (l' := #[.val (.int i0), .val (.int i1), .val (.int (0 : Int32)), .val (.int (0 : Int32)), .val (.ref s1), .val (.int (0 : Int32))]) rfl k) ?_
      show own_G p e below _ T7 (mkF m 87 #[.val (.int i0), .val (.int i1), .val (.int (0 : Int32)), .val (.int (0 : Int32)), .val (.ref s1), .val (.int (0 : Int32))] [])
      refine own_go (fun t k => XS.aload X7.here hx rfl (hb hby at_87) rfl rfl k) ?_
      show own_G p e below _ T7 (mkF m 89 #[.val (.int i0), .val (.int i1), .val (.int (0 : Int32)), .val (.int (0 : Int32)), .val (.ref s1), .val (.int (0 : Int32))] [(.ref s1)])
      refine own_go (fun t k => XS.iconst X7.here hx rfl (hb hby at_89) k) ?_
      show own_G p e below _ T7 (mkF m 90 #[.val (.int i0), .val (.int i1), .val (.int (0 : Int32)), .val (.int (0 : Int32)), .val (.ref s1), .val (.int (0 : Int32))] [(.int (0 : Int32)), (.ref s1)])
      refine own_go (fun t k => XS.iloadN X7.here hx rfl (hb hby at_90) rfl k) ?_
      show own_G p e below _ T7 (mkF m 91 #[.val (.int i0), .val (.int i1), .val (.int (0 : Int32)), .val (.int (0 : Int32)), .val (.ref s1), .val (.int (0 : Int32))] [(.int (0 : Int32)), (.int (0 : Int32)), (.ref s1)])
      refine own_go (fun t k => XS.iload X7.here hx rfl (hb hby at_91) rfl k) ?_
      show own_G p e below _ T7 (mkF m 93 #[.val (.int i0), .val (.int i1), .val (.int (0 : Int32)), .val (.int (0 : Int32)), .val (.ref s1), .val (.int (0 : Int32))] [(.int (0 : Int32)), (.int (0 : Int32)), (.int (0 : Int32)), (.ref s1)])
      obtain ⟨T8, L8, v8, X8, ⟨rfl, rfl, q8⟩, st8⟩ := own_callS X7 hx hH (y := (⟨"com/example/halyard/halyard/engine/OperandStackDropPinLaw", "slot", "(Lcom/example/halyard/halyard/engine/OperandStack;III)Z"⟩ : MethodName)) hown (hw _ (List.mem_of_getElem? (i := 34) rfl)) (hw _ (List.mem_of_getElem? (i := 35) rfl)) (hw _ (List.mem_of_getElem? (i := 36) rfl)) (hw _ (List.mem_of_getElem? (i := 37) rfl)) (by decide) (c_slot_b0 l Z a0 hw s1 (0 : Int32) (0 : Int32) ar r0 .null .null .null T7.heap (by decide) (by decide) Sq7 (E_0.ext x7) (F_0.ext x7)) rfl (argsL := [(.ref s1), (.int (0 : Int32)), (.int (0 : Int32)), (.int (0 : Int32))]) (rest := []) (g := (mkF m 93 #[.val (.int i0), .val (.int i1), .val (.int (0 : Int32)), .val (.int (0 : Int32)), .val (.ref s1), .val (.int (0 : Int32))] [(.int (0 : Int32)), (.int (0 : Int32)), (.int (0 : Int32)), (.ref s1)])) rfl (by rw [hml]; rfl) (ps := [(.object "com/example/halyard/halyard/engine/OperandStack"), .int, .int, .int]) (r := (some .boolean)) (by decide +kernel) rfl rfl (W := 0) (by show 2 * 0 + _ ≤ _; exact Nat.le_of_eq rfl) (hb hby at_93) (by decide) (by decide) (by decide) (by decide)
      have x8 := own_ext_trans x7 q8
      have S8 := own_ST_ext q8 Sq7
      have N8 := Fr.app N7 (Fr.nil n0)
      refine own_go st8 ?_
      show own_G p e below _ T8 (mkF m 96 #[.val (.int i0), .val (.int i1), .val (.int (0 : Int32)), .val (.int (0 : Int32)), .val (.ref s1), .val (.int (0 : Int32))] [(.int (1 : Int32))])
      refine own_go (fun t k => XS.ifNo X8.here hx rfl (hb hby at_96) rfl (by decide) k) ?_
      show own_G p e below _ T8 (mkF m 99 #[.val (.int i0), .val (.int i1), .val (.int (0 : Int32)), .val (.int (0 : Int32)), .val (.ref s1), .val (.int (0 : Int32))] [])
      refine own_go (fun t k => XS.aload X8.here hx rfl (hb hby at_99) rfl rfl k) ?_
      show own_G p e below _ T8 (mkF m 101 #[.val (.int i0), .val (.int i1), .val (.int (0 : Int32)), .val (.int (0 : Int32)), .val (.ref s1), .val (.int (0 : Int32))] [(.ref s1)])
      refine own_go (fun t k => XS.iconst X8.here hx rfl (hb hby at_101) k) ?_
      show own_G p e below _ T8 (mkF m 102 #[.val (.int i0), .val (.int i1), .val (.int (0 : Int32)), .val (.int (0 : Int32)), .val (.ref s1), .val (.int (0 : Int32))] [(.int (1 : Int32)), (.ref s1)])
      refine own_go (fun t k => XS.iloadN X8.here hx rfl (hb hby at_102) rfl k) ?_
      show own_G p e below _ T8 (mkF m 103 #[.val (.int i0), .val (.int i1), .val (.int (0 : Int32)), .val (.int (0 : Int32)), .val (.ref s1), .val (.int (0 : Int32))] [(.int (0 : Int32)), (.int (1 : Int32)), (.ref s1)])
      refine own_go (fun t k => XS.iload X8.here hx rfl (hb hby at_103) rfl k) ?_
      show own_G p e below _ T8 (mkF m 105 #[.val (.int i0), .val (.int i1), .val (.int (0 : Int32)), .val (.int (0 : Int32)), .val (.ref s1), .val (.int (0 : Int32))] [(.int (0 : Int32)), (.int (0 : Int32)), (.int (1 : Int32)), (.ref s1)])
      obtain ⟨T9, L9, v9, X9, ⟨rfl, rfl, q9⟩, st9⟩ := own_callS X8 hx hH (y := (⟨"com/example/halyard/halyard/engine/OperandStackDropPinLaw", "slot", "(Lcom/example/halyard/halyard/engine/OperandStack;III)Z"⟩ : MethodName)) hown (hw _ (List.mem_of_getElem? (i := 34) rfl)) (hw _ (List.mem_of_getElem? (i := 35) rfl)) (hw _ (List.mem_of_getElem? (i := 36) rfl)) (hw _ (List.mem_of_getElem? (i := 37) rfl)) (by decide) (c_slot_a l Z a0 hw s1 (1 : Int32) (0 : Int32) (0 : Int32) T8.heap (by decide)) rfl (argsL := [(.ref s1), (.int (1 : Int32)), (.int (0 : Int32)), (.int (0 : Int32))]) (rest := []) (g := (mkF m 105 #[.val (.int i0), .val (.int i1), .val (.int (0 : Int32)), .val (.int (0 : Int32)), .val (.ref s1), .val (.int (0 : Int32))] [(.int (0 : Int32)), (.int (0 : Int32)), (.int (1 : Int32)), (.ref s1)])) rfl (by rw [hml]; rfl) (ps := [(.object "com/example/halyard/halyard/engine/OperandStack"), .int, .int, .int]) (r := (some .boolean)) (by decide +kernel) rfl rfl (W := 0) (by show 2 * 0 + _ ≤ _; exact Nat.le_of_eq rfl) (hb hby at_105) (by decide) (by decide) (by decide) (by decide)
      have x9 := own_ext_trans x8 q9
      have S9 := own_ST_ext q9 S8
      have N9 := Fr.app N8 (Fr.nil n0)
      refine own_go st9 ?_
      show own_G p e below _ T9 (mkF m 108 #[.val (.int i0), .val (.int i1), .val (.int (0 : Int32)), .val (.int (0 : Int32)), .val (.ref s1), .val (.int (0 : Int32))] [(.int (1 : Int32))])
      refine own_go (fun t k => XS.ifNo X9.here hx rfl (hb hby at_108) rfl (by decide) k) ?_
      show own_G p e below _ T9 (mkF m 111 #[.val (.int i0), .val (.int i1), .val (.int (0 : Int32)), .val (.int (0 : Int32)), .val (.ref s1), .val (.int (0 : Int32))] [])
      refine own_go (fun t k => XS.aload X9.here hx rfl (hb hby at_111) rfl rfl k) ?_
      show own_G p e below _ T9 (mkF m 113 #[.val (.int i0), .val (.int i1), .val (.int (0 : Int32)), .val (.int (0 : Int32)), .val (.ref s1), .val (.int (0 : Int32))] [(.ref s1)])
      refine own_go (fun t k => XS.iconst X9.here hx rfl (hb hby at_113) k) ?_
      show own_G p e below _ T9 (mkF m 114 #[.val (.int i0), .val (.int i1), .val (.int (0 : Int32)), .val (.int (0 : Int32)), .val (.ref s1), .val (.int (0 : Int32))] [(.int (2 : Int32)), (.ref s1)])
      refine own_go (fun t k => XS.iloadN X9.here hx rfl (hb hby at_114) rfl k) ?_
      show own_G p e below _ T9 (mkF m 115 #[.val (.int i0), .val (.int i1), .val (.int (0 : Int32)), .val (.int (0 : Int32)), .val (.ref s1), .val (.int (0 : Int32))] [(.int (0 : Int32)), (.int (2 : Int32)), (.ref s1)])
      refine own_go (fun t k => XS.iload X9.here hx rfl (hb hby at_115) rfl k) ?_
      show own_G p e below _ T9 (mkF m 117 #[.val (.int i0), .val (.int i1), .val (.int (0 : Int32)), .val (.int (0 : Int32)), .val (.ref s1), .val (.int (0 : Int32))] [(.int (0 : Int32)), (.int (0 : Int32)), (.int (2 : Int32)), (.ref s1)])
      obtain ⟨T10, L10, v10, X10, ⟨rfl, rfl, q10⟩, st10⟩ := own_callS X9 hx hH (y := (⟨"com/example/halyard/halyard/engine/OperandStackDropPinLaw", "slot", "(Lcom/example/halyard/halyard/engine/OperandStack;III)Z"⟩ : MethodName)) hown (hw _ (List.mem_of_getElem? (i := 34) rfl)) (hw _ (List.mem_of_getElem? (i := 35) rfl)) (hw _ (List.mem_of_getElem? (i := 36) rfl)) (hw _ (List.mem_of_getElem? (i := 37) rfl)) (by decide) (c_slot_a l Z a0 hw s1 (2 : Int32) (0 : Int32) (0 : Int32) T9.heap (by decide)) rfl (argsL := [(.ref s1), (.int (2 : Int32)), (.int (0 : Int32)), (.int (0 : Int32))]) (rest := []) (g := (mkF m 117 #[.val (.int i0), .val (.int i1), .val (.int (0 : Int32)), .val (.int (0 : Int32)), .val (.ref s1), .val (.int (0 : Int32))] [(.int (0 : Int32)), (.int (0 : Int32)), (.int (2 : Int32)), (.ref s1)])) rfl (by rw [hml]; rfl) (ps := [(.object "com/example/halyard/halyard/engine/OperandStack"), .int, .int, .int]) (r := (some .boolean)) (by decide +kernel) rfl rfl (W := 0) (by show 2 * 0 + _ ≤ _; exact Nat.le_of_eq rfl) (hb hby at_117) (by decide) (by decide) (by decide) (by decide)
      have x10 := own_ext_trans x9 q10
      have S10 := own_ST_ext q10 S9
      have N10 := Fr.app N9 (Fr.nil n0)
      refine own_go st10 ?_
      show own_G p e below _ T10 (mkF m 120 #[.val (.int i0), .val (.int i1), .val (.int (0 : Int32)), .val (.int (0 : Int32)), .val (.ref s1), .val (.int (0 : Int32))] [(.int (1 : Int32))])
      refine own_go (fun t k => XS.ifNo X10.here hx rfl (hb hby at_120) rfl (by decide) k) ?_
      show own_G p e below _ T10 (mkF m 123 #[.val (.int i0), .val (.int i1), .val (.int (0 : Int32)), .val (.int (0 : Int32)), .val (.ref s1), .val (.int (0 : Int32))] [])
      refine own_go (fun t k => XS.aload X10.here hx rfl (hb hby at_123) rfl rfl k) ?_
      show own_G p e below _ T10 (mkF m 125 #[.val (.int i0), .val (.int i1), .val (.int (0 : Int32)), .val (.int (0 : Int32)), .val (.ref s1), .val (.int (0 : Int32))] [(.ref s1)])
      refine own_go (fun t k => XS.iconst X10.here hx rfl (hb hby at_125) k) ?_
      show own_G p e below _ T10 (mkF m 126 #[.val (.int i0), .val (.int i1), .val (.int (0 : Int32)), .val (.int (0 : Int32)), .val (.ref s1), .val (.int (0 : Int32))] [(.int (3 : Int32)), (.ref s1)])
      refine own_go (fun t k => XS.iloadN X10.here hx rfl (hb hby at_126) rfl k) ?_
      show own_G p e below _ T10 (mkF m 127 #[.val (.int i0), .val (.int i1), .val (.int (0 : Int32)), .val (.int (0 : Int32)), .val (.ref s1), .val (.int (0 : Int32))] [(.int (0 : Int32)), (.int (3 : Int32)), (.ref s1)])
      refine own_go (fun t k => XS.iload X10.here hx rfl (hb hby at_127) rfl k) ?_
      show own_G p e below _ T10 (mkF m 129 #[.val (.int i0), .val (.int i1), .val (.int (0 : Int32)), .val (.int (0 : Int32)), .val (.ref s1), .val (.int (0 : Int32))] [(.int (0 : Int32)), (.int (0 : Int32)), (.int (3 : Int32)), (.ref s1)])
      obtain ⟨T11, L11, v11, X11, ⟨rfl, rfl, q11⟩, st11⟩ := own_callS X10 hx hH (y := (⟨"com/example/halyard/halyard/engine/OperandStackDropPinLaw", "slot", "(Lcom/example/halyard/halyard/engine/OperandStack;III)Z"⟩ : MethodName)) hown (hw _ (List.mem_of_getElem? (i := 34) rfl)) (hw _ (List.mem_of_getElem? (i := 35) rfl)) (hw _ (List.mem_of_getElem? (i := 36) rfl)) (hw _ (List.mem_of_getElem? (i := 37) rfl)) (by decide) (c_slot_a l Z a0 hw s1 (3 : Int32) (0 : Int32) (0 : Int32) T10.heap (by decide)) rfl (argsL := [(.ref s1), (.int (3 : Int32)), (.int (0 : Int32)), (.int (0 : Int32))]) (rest := []) (g := (mkF m 129 #[.val (.int i0), .val (.int i1), .val (.int (0 : Int32)), .val (.int (0 : Int32)), .val (.ref s1), .val (.int (0 : Int32))] [(.int (0 : Int32)), (.int (0 : Int32)), (.int (3 : Int32)), (.ref s1)])) rfl (by rw [hml]; rfl) (ps := [(.object "com/example/halyard/halyard/engine/OperandStack"), .int, .int, .int]) (r := (some .boolean)) (by decide +kernel) rfl rfl (W := 0) (by show 2 * 0 + _ ≤ _; exact Nat.le_of_eq rfl) (hb hby at_129) (by decide) (by decide) (by decide) (by decide)
      have x11 := own_ext_trans x10 q11
      have S11 := own_ST_ext q11 S10
      have N11 := Fr.app N10 (Fr.nil n0)
      refine own_go st11 ?_
      show own_G p e below _ T11 (mkF m 132 #[.val (.int i0), .val (.int i1), .val (.int (0 : Int32)), .val (.int (0 : Int32)), .val (.ref s1), .val (.int (0 : Int32))] [(.int (1 : Int32))])
      refine own_go (fun t k => XS.ifNo X11.here hx rfl (hb hby at_132) rfl (by decide) k) ?_
      show own_G p e below _ T11 (mkF m 135 #[.val (.int i0), .val (.int i1), .val (.int (0 : Int32)), .val (.int (0 : Int32)), .val (.ref s1), .val (.int (0 : Int32))] [])
      refine own_go (fun t k => XS.iconst X11.here hx rfl (hb hby at_135) k) ?_
      show own_G p e below _ T11 (mkF m 136 #[.val (.int i0), .val (.int i1), .val (.int (0 : Int32)), .val (.int (0 : Int32)), .val (.ref s1), .val (.int (0 : Int32))] [(.int (1 : Int32))])
      refine own_go (fun t k => XS.goto X11.here hx rfl (pc0 := 136) (pc' := 140) rfl (hb hby at_136) (by decide) (by decide) k) ?_
      show own_G p e below _ T11 (mkF m 140 #[.val (.int i0), .val (.int i1), .val (.int (0 : Int32)), .val (.int (0 : Int32)), .val (.ref s1), .val (.int (0 : Int32))] [(.int (1 : Int32))])
      exact own_retN X11 hx hlk hret (by simp) (hb hby at_140) (by decide) (by decide) ⟨rfl, N11⟩
  · rw [hk1]
    show own_G p e below _ T0 (mkF m 6 #[.val (.int i0), .val (.int i1), .unset, .unset, .unset, .unset] [(.int (1 : Int32))])
    refine own_go (fun t k => XS.istoreN X0.here hx rfl (hb hby at_6) rfl (l' := #[.val (.int i0), .val (.int i1), .val (.int (1 : Int32)), .unset, .unset, .unset]) rfl k) ?_
    show own_G p e below _ T0 (mkF m 7 #[.val (.int i0), .val (.int i1), .val (.int (1 : Int32)), .unset, .unset, .unset] [])
    refine own_go (fun t k => XS.iloadN X0.here hx rfl (hb hby at_7) rfl k) ?_
    show own_G p e below _ T0 (mkF m 8 #[.val (.int i0), .val (.int i1), .val (.int (1 : Int32)), .unset, .unset, .unset] [(.int i1)])
    refine own_go (X0.ldcInt hx hown (mvT hZ (hw _ (List.mem_of_getElem? (i := 0) rfl))) (g := (mkF m 8 #[.val (.int i0), .val (.int i1), .val (.int (1 : Int32)), .unset, .unset, .unset] [(.int i1)])) rfl (hb hby at_8)) ?_
    show own_G p e below _ T0 (mkF m 10 #[.val (.int i0), .val (.int i1), .val (.int (1 : Int32)), .unset, .unset, .unset] [(.int (2147483647 : Int32)), (.int i1)])
    refine own_go (fun t k => XS.iand X0.here hx rfl (hb hby at_10) rfl k) ?_
    show own_G p e below _ T0 (mkF m 11 #[.val (.int i0), .val (.int i1), .val (.int (1 : Int32)), .unset, .unset, .unset] [(.int (i1 &&& (2147483647 : Int32)))])
    refine own_go (fun t k => XS.iloadN X0.here hx rfl (hb hby at_11) rfl k) ?_
    show own_G p e below _ T0 (mkF m 12 #[.val (.int i0), .val (.int i1), .val (.int (1 : Int32)), .unset, .unset, .unset] [(.int (1 : Int32)), (.int (i1 &&& (2147483647 : Int32)))])
    refine own_go (fun t k => XS.iconst X0.here hx rfl (hb hby at_12) k) ?_
    show own_G p e below _ T0 (mkF m 13 #[.val (.int i0), .val (.int i1), .val (.int (1 : Int32)), .unset, .unset, .unset] [(.int (1 : Int32)), (.int (1 : Int32)), (.int (i1 &&& (2147483647 : Int32)))])
    refine own_go (fun t k => XS.iadd X0.here hx rfl (hb hby at_13) rfl k) ?_
    show own_G p e below _ T0 (mkF m 14 #[.val (.int i0), .val (.int i1), .val (.int (1 : Int32)), .unset, .unset, .unset] [(.int (2 : Int32)), (.int (i1 &&& (2147483647 : Int32)))])
    refine own_go (fun t k => iremM X0 hx rfl (hb hby at_14) rfl (by decide) k) ?_
    show own_G p e below _ T0 (mkF m 15 #[.val (.int i0), .val (.int i1), .val (.int (1 : Int32)), .unset, .unset, .unset] [(.int ((i1 &&& (2147483647 : Int32)) % (2 : Int32)))])
    rcases (own_l2 _ (own_rem _ 2 (own_mask i1) (by decide)).1 (Int.lt_add_one_iff.mp (own_rem _ 2 (own_mask i1) (by decide)).2)) with hk12 | hk12
    · rw [hk12]
      show own_G p e below _ T0 (mkF m 15 #[.val (.int i0), .val (.int i1), .val (.int (1 : Int32)), .unset, .unset, .unset] [(.int (0 : Int32))])
      refine own_go (fun t k => XS.istoreN X0.here hx rfl (hb hby at_15) rfl (l' := #[.val (.int i0), .val (.int i1), .val (.int (1 : Int32)), .val (.int (0 : Int32)), .unset, .unset]) rfl k) ?_
      show own_G p e below _ T0 (mkF m 16 #[.val (.int i0), .val (.int i1), .val (.int (1 : Int32)), .val (.int (0 : Int32)), .unset, .unset] [])
      obtain ⟨T13, h13, X13, e13, E13, A13, D13, -, st13⟩ := newO X0 hx hZ hown (hw _ (List.mem_of_getElem? (i := 1) rfl)) (hw _ (List.mem_of_getElem? (i := 2) rfl)) (hw _ (List.mem_of_getElem? (i := 3) rfl)) e0 (g := (mkF m 16 #[.val (.int i0), .val (.int i1), .val (.int (1 : Int32)), .val (.int (0 : Int32)), .unset, .unset] [])) rfl (hb hby at_16) (by decide) (by decide)
      obtain ⟨s1, gs⟩ : ∃ z, z = h0.size := ⟨_, rfl⟩
      rw [← gs] at A13 D13 st13
      have F1 : Fld Z h13 s1 own_K "values" "[Ljava/lang/Object;" .null := D13 (Or.inl (hw _ (List.mem_of_getElem? (i := 13) rfl))) (ty := .array (.object "java/lang/Object")) (by decide +kernel)
      have F2 : Fld Z h13 s1 own_K "size" "I" (.int (0 : Int32)) := D13 (Or.inl (hw _ (List.mem_of_getElem? (i := 27) rfl))) (ty := .int) (by decide)
      have x13 : Ext h0 h13 := E13
      have js : h0.size ≤ s1 := Nat.le_of_eq gs.symm
      have g1 : n0 ≤ s1 := Nat.le_trans Z0 js
      refine own_go st13 ?_
      show own_G p e below _ T13 (mkF m 19 #[.val (.int i0), .val (.int i1), .val (.int (1 : Int32)), .val (.int (0 : Int32)), .unset, .unset] [(.ref s1)])
      refine own_go (fun t k => XS.dup X13.here hx rfl (hb hby at_19) rfl rfl k) ?_
      show own_G p e below _ T13 (mkF m 20 #[.val (.int i0), .val (.int i1), .val (.int (1 : Int32)), .val (.int (0 : Int32)), .unset, .unset] [(.ref s1), (.ref s1)])
      obtain ⟨T14, L14, v14, X14, ⟨rfl, Nq14, Kq14, Sq14⟩, st14⟩ := own_callN X13 hx hH (y := (⟨"com/example/halyard/halyard/engine/OperandStack", "<init>", "()V"⟩ : MethodName)) rfl hown (hw _ (List.mem_of_getElem? (i := 4) rfl)) (hw _ (List.mem_of_getElem? (i := 5) rfl)) (hw _ (List.mem_of_getElem? (i := 6) rfl)) (hw _ (List.mem_of_getElem? (i := 3) rfl)) (by decide) (c_init l Z a0 hw s1 h13 n0 (Nat.le_trans Z0 x13.1) A13 F1 F2 g1) e13 (argsL := []) (rest := [(.ref s1)]) (g := (mkF m 20 #[.val (.int i0), .val (.int i1), .val (.int (1 : Int32)), .val (.int (0 : Int32)), .unset, .unset] [(.ref s1), (.ref s1)])) rfl (by rw [hml]; rfl) (ps := []) (r := none) (by decide +kernel) rfl rfl (W := 1) (by show 2 * 0 + _ ≤ _; exact Nat.le_of_eq rfl) (hb hby at_20) (by decide) (by decide) (by decide) (by decide)
      obtain ⟨ar, ga⟩ : ∃ z, z = h13.size := ⟨_, rfl⟩
      rw [← ga] at Sq14
      have ja : h0.size ≤ ar := Nat.le_trans x13.1 (Nat.le_of_eq ga.symm)
      have g2 : n0 ≤ ar := Nat.le_trans Z0 ja
      have x14 := own_ext_keep x13 Kq14 (allS js all0)
      have N14 := Fr.app N0 Nq14
      refine own_go st14 ?_
      show own_G p e below _ T14 (mkF m 23 #[.val (.int i0), .val (.int i1), .val (.int (1 : Int32)), .val (.int (0 : Int32)), .unset, .unset] [(.ref s1)])
      refine own_go (fun t k => XS.astore X14.here hx rfl (hb hby at_23) rfl rfl (l' := #[.val (.int i0), .val (.int i1), .val (.int (1 : Int32)), .val (.int (0 : Int32)), .val (.ref s1), .unset]) rfl k) ?_
      show own_G p e below _ T14 (mkF m 25 #[.val (.int i0), .val (.int i1), .val (.int (1 : Int32)), .val (.int (0 : Int32)), .val (.ref s1), .unset] [])
      refine own_go (fun t k => XS.aload X14.here hx rfl (hb hby at_25) rfl rfl k) ?_
      show own_G p e below _ T14 (mkF m 27 #[.val (.int i0), .val (.int i1), .val (.int (1 : Int32)), .val (.int (0 : Int32)), .val (.ref s1), .unset] [(.ref s1)])
      refine own_go (fun t k => XS.iconst X14.here hx rfl (hb hby at_27) k) ?_
      show own_G p e below _ T14 (mkF m 28 #[.val (.int i0), .val (.int i1), .val (.int (1 : Int32)), .val (.int (0 : Int32)), .val (.ref s1), .unset] [(.int (0 : Int32)), (.ref s1)])
      obtain ⟨T15, L15, v15, X15, ⟨rfl, rfl, q15⟩, st15⟩ := own_callS X14 hx hH (y := (⟨"java/lang/Integer", "valueOf", "(I)Ljava/lang/Integer;"⟩ : MethodName)) hown (hw _ (List.mem_of_getElem? (i := 14) rfl)) (hw _ (List.mem_of_getElem? (i := 15) rfl)) (hw _ (List.mem_of_getElem? (i := 16) rfl)) (hw _ (List.mem_of_getElem? (i := 17) rfl)) (by decide) (c_valueOf_0 l Z a0 hw ac r0 r1 r2 r3 clc T14.heap (own_B_ext x14 B)) rfl (argsL := [(.int (0 : Int32))]) (rest := [(.ref s1)]) (g := (mkF m 28 #[.val (.int i0), .val (.int i1), .val (.int (1 : Int32)), .val (.int (0 : Int32)), .val (.ref s1), .unset] [(.int (0 : Int32)), (.ref s1)])) rfl (by rw [hml]; rfl) (ps := [.int]) (r := (some (.object "java/lang/Integer"))) (by decide +kernel) rfl rfl (W := 1) (by show 2 * 0 + _ ≤ _; exact Nat.le_of_eq rfl) (hb hby at_28) (by decide) (by decide) (by decide) (by decide)
      have N15 := Fr.app N14 (Fr.nil n0)
      refine own_go st15 ?_
      show own_G p e below _ T15 (mkF m 31 #[.val (.int i0), .val (.int i1), .val (.int (1 : Int32)), .val (.int (0 : Int32)), .val (.ref s1), .unset] [(.ref r0), (.ref s1)])
      obtain ⟨T16, L16, v16, X16, ⟨rfl, Nq16, Kq16, Sq16⟩, st16⟩ := own_callV X15 hx hH (y := (⟨"com/example/halyard/halyard/engine/OperandStack", "push", "(Ljava/lang/Object;)V"⟩ : MethodName)) (z := (⟨"com/example/halyard/halyard/engine/OperandStack", "push", "(Ljava/lang/Object;)V"⟩ : MethodName)) hown (hw _ (List.mem_of_getElem? (i := 21) rfl)) (hw _ (List.mem_of_getElem? (i := 22) rfl)) (hw _ (List.mem_of_getElem? (i := 24) rfl)) (hw _ (List.mem_of_getElem? (i := 24) rfl)) (hw _ (List.mem_of_getElem? (i := 23) rfl)) (hw _ (List.mem_of_getElem? (i := 25) rfl)) (hw _ (List.mem_of_getElem? (i := 3) rfl)) (notFace_of_selects (args := #[]) (mvT hZ (hw _ (List.mem_of_getElem? (i := 24) rfl)))) (by decide) (c_push_0A l Z a0 hw s1 ar r0 .null .null .null .null T14.heap n0 (Nat.le_trans Z0 x14.1) Sq14 (own_ST_sto Sq14 (Ins.of_exa (E_0.ext x14) (hw _ (List.mem_of_getElem? (i := 28) rfl)))) g1 g2) q15 Sq14.1 (argsL := [(.ref r0)]) (rest := []) (g := (mkF m 31 #[.val (.int i0), .val (.int i1), .val (.int (1 : Int32)), .val (.int (0 : Int32)), .val (.ref s1), .unset] [(.ref r0), (.ref s1)])) rfl (by rw [hml]; rfl) (ps := [(.object "java/lang/Object")]) (r := none) (by decide +kernel) rfl rfl (W := 0) (by show 2 * 0 + _ ≤ _; exact Nat.le_of_eq rfl) (hb hby at_31) (by decide) (by decide) (by decide) (by decide)
      have x16 := own_ext_keep x14 Kq16 (allS js (allS ja all0))
      have N16 := Fr.app N15 Nq16
      refine own_go st16 ?_
      show own_G p e below _ T16 (mkF m 34 #[.val (.int i0), .val (.int i1), .val (.int (1 : Int32)), .val (.int (0 : Int32)), .val (.ref s1), .unset] [])
      refine own_go (fun t k => XS.iloadN X16.here hx rfl (hb hby at_34) rfl k) ?_
      show own_G p e below _ T16 (mkF m 35 #[.val (.int i0), .val (.int i1), .val (.int (1 : Int32)), .val (.int (0 : Int32)), .val (.ref s1), .unset] [(.int (1 : Int32))])
      refine own_go (fun t k => XS.iconst X16.here hx rfl (hb hby at_35) k) ?_
      show own_G p e below _ T16 (mkF m 36 #[.val (.int i0), .val (.int i1), .val (.int (1 : Int32)), .val (.int (0 : Int32)), .val (.ref s1), .unset] [(.int (1 : Int32)), (.int (1 : Int32))])
      refine own_go (fun t k => XS.icmpNo X16.here hx rfl (hb hby at_36) rfl (by decide) k) ?_
      show own_G p e below _ T16 (mkF m 39 #[.val (.int i0), .val (.int i1), .val (.int (1 : Int32)), .val (.int (0 : Int32)), .val (.ref s1), .unset] [])
      refine own_go (fun t k => XS.aload X16.here hx rfl (hb hby at_39) rfl rfl k) ?_
      show own_G p e below _ T16 (mkF m 41 #[.val (.int i0), .val (.int i1), .val (.int (1 : Int32)), .val (.int (0 : Int32)), .val (.ref s1), .unset] [(.ref s1)])
      refine own_go (fun t k => XS.iconst X16.here hx rfl (hb hby at_41) k) ?_
      show own_G p e below _ T16 (mkF m 42 #[.val (.int i0), .val (.int i1), .val (.int (1 : Int32)), .val (.int (0 : Int32)), .val (.ref s1), .unset] [(.int (1 : Int32)), (.ref s1)])
      obtain ⟨T17, L17, v17, X17, ⟨rfl, rfl, q17⟩, st17⟩ := own_callS X16 hx hH (y := (⟨"java/lang/Integer", "valueOf", "(I)Ljava/lang/Integer;"⟩ : MethodName)) hown (hw _ (List.mem_of_getElem? (i := 14) rfl)) (hw _ (List.mem_of_getElem? (i := 15) rfl)) (hw _ (List.mem_of_getElem? (i := 16) rfl)) (hw _ (List.mem_of_getElem? (i := 17) rfl)) (by decide) (c_valueOf_1 l Z a0 hw ac r0 r1 r2 r3 clc T16.heap (own_B_ext x16 B)) rfl (argsL := [(.int (1 : Int32))]) (rest := [(.ref s1)]) (g := (mkF m 42 #[.val (.int i0), .val (.int i1), .val (.int (1 : Int32)), .val (.int (0 : Int32)), .val (.ref s1), .unset] [(.int (1 : Int32)), (.ref s1)])) rfl (by rw [hml]; rfl) (ps := [.int]) (r := (some (.object "java/lang/Integer"))) (by decide +kernel) rfl rfl (W := 1) (by show 2 * 0 + _ ≤ _; exact Nat.le_of_eq rfl) (hb hby at_42) (by decide) (by decide) (by decide) (by decide)
      have N17 := Fr.app N16 (Fr.nil n0)
      refine own_go st17 ?_
      show own_G p e below _ T17 (mkF m 45 #[.val (.int i0), .val (.int i1), .val (.int (1 : Int32)), .val (.int (0 : Int32)), .val (.ref s1), .unset] [(.ref r1), (.ref s1)])
      obtain ⟨T18, L18, v18, X18, ⟨rfl, Nq18, Kq18, Sq18⟩, st18⟩ := own_callV X17 hx hH (y := (⟨"com/example/halyard/halyard/engine/OperandStack", "push", "(Ljava/lang/Object;)V"⟩ : MethodName)) (z := (⟨"com/example/halyard/halyard/engine/OperandStack", "push", "(Ljava/lang/Object;)V"⟩ : MethodName)) hown (hw _ (List.mem_of_getElem? (i := 21) rfl)) (hw _ (List.mem_of_getElem? (i := 22) rfl)) (hw _ (List.mem_of_getElem? (i := 24) rfl)) (hw _ (List.mem_of_getElem? (i := 24) rfl)) (hw _ (List.mem_of_getElem? (i := 23) rfl)) (hw _ (List.mem_of_getElem? (i := 25) rfl)) (hw _ (List.mem_of_getElem? (i := 3) rfl)) (notFace_of_selects (args := #[]) (mvT hZ (hw _ (List.mem_of_getElem? (i := 24) rfl)))) (by decide) (c_push_1A l Z a0 hw s1 ar r1 (.ref r0) .null .null .null T16.heap n0 (Nat.le_trans Z0 x16.1) Sq16 (own_ST_sto Sq16 (Ins.of_exa (E_1.ext x16) (hw _ (List.mem_of_getElem? (i := 28) rfl)))) g1 g2) q17 Sq16.1 (argsL := [(.ref r1)]) (rest := []) (g := (mkF m 45 #[.val (.int i0), .val (.int i1), .val (.int (1 : Int32)), .val (.int (0 : Int32)), .val (.ref s1), .unset] [(.ref r1), (.ref s1)])) rfl (by rw [hml]; rfl) (ps := [(.object "java/lang/Object")]) (r := none) (by decide +kernel) rfl rfl (W := 0) (by show 2 * 0 + _ ≤ _; exact Nat.le_of_eq rfl) (hb hby at_45) (by decide) (by decide) (by decide) (by decide)
      have x18 := own_ext_keep x16 Kq18 (allS js (allS ja all0))
      have N18 := Fr.app N17 Nq18
      refine own_go st18 ?_
      show own_G p e below _ T18 (mkF m 48 #[.val (.int i0), .val (.int i1), .val (.int (1 : Int32)), .val (.int (0 : Int32)), .val (.ref s1), .unset] [])
      refine own_go (fun t k => XS.iloadN X18.here hx rfl (hb hby at_48) rfl k) ?_
      show own_G p e below _ T18 (mkF m 49 #[.val (.int i0), .val (.int i1), .val (.int (1 : Int32)), .val (.int (0 : Int32)), .val (.ref s1), .unset] [(.int (1 : Int32))])
      refine own_go (fun t k => XS.iconst X18.here hx rfl (hb hby at_49) k) ?_
      show own_G p e below _ T18 (mkF m 50 #[.val (.int i0), .val (.int i1), .val (.int (1 : Int32)), .val (.int (0 : Int32)), .val (.ref s1), .unset] [(.int (2 : Int32)), (.int (1 : Int32))])
      refine own_go (fun t k => XS.icmpYes X18.here hx rfl (pc0 := 50) (pc' := 62) rfl (hb hby at_50) rfl (by decide) (by decide) (by decide) k) ?_
      show own_G p e below _ T18 (mkF m 62 #[.val (.int i0), .val (.int i1), .val (.int (1 : Int32)), .val (.int (0 : Int32)), .val (.ref s1), .unset] [])
      refine own_go (fun t k => XS.iloadN X18.here hx rfl (hb hby at_62) rfl k) ?_
      show own_G p e below _ T18 (mkF m 63 #[.val (.int i0), .val (.int i1), .val (.int (1 : Int32)), .val (.int (0 : Int32)), .val (.ref s1), .unset] [(.int (1 : Int32))])
      refine own_go (fun t k => XS.iconst X18.here hx rfl (hb hby at_63) k) ?_
      show own_G p e below _ T18 (mkF m 64 #[.val (.int i0), .val (.int i1), .val (.int (1 : Int32)), .val (.int (0 : Int32)), .val (.ref s1), .unset] [(.int (3 : Int32)), (.int (1 : Int32))])
      refine own_go (fun t k => XS.icmpYes X18.here hx rfl (pc0 := 64) (pc' := 76) rfl (hb hby at_64) rfl (by decide) (by decide) (by decide) k) ?_
      show own_G p e below _ T18 (mkF m 76 #[.val (.int i0), .val (.int i1), .val (.int (1 : Int32)), .val (.int (0 : Int32)), .val (.ref s1), .unset] [])
      refine own_go (fun t k => XS.aload X18.here hx rfl (hb hby at_76) rfl rfl k) ?_
      show own_G p e below _ T18 (mkF m 78 #[.val (.int i0), .val (.int i1), .val (.int (1 : Int32)), .val (.int (0 : Int32)), .val (.ref s1), .unset] [(.ref s1)])
      refine own_go (fun t k => XS.iloadN X18.here hx rfl (hb hby at_78) rfl k) ?_
      show own_G p e below _ T18 (mkF m 79 #[.val (.int i0), .val (.int i1), .val (.int (1 : Int32)), .val (.int (0 : Int32)), .val (.ref s1), .unset] [(.int (0 : Int32)), (.ref s1)])
      obtain ⟨T19, L19, v19, X19, ⟨rfl, Nq19, Kq19, Sq19⟩, st19⟩ := own_callV X18 hx hH (y := (⟨"com/example/halyard/halyard/engine/OperandStack", "drop", "(I)V"⟩ : MethodName)) (z := (⟨"com/example/halyard/halyard/engine/OperandStack", "drop", "(I)V"⟩ : MethodName)) hown (hw _ (List.mem_of_getElem? (i := 29) rfl)) (hw _ (List.mem_of_getElem? (i := 30) rfl)) (hw _ (List.mem_of_getElem? (i := 32) rfl)) (hw _ (List.mem_of_getElem? (i := 32) rfl)) (hw _ (List.mem_of_getElem? (i := 31) rfl)) (hw _ (List.mem_of_getElem? (i := 33) rfl)) (hw _ (List.mem_of_getElem? (i := 3) rfl)) (notFace_of_selects (args := #[]) (mvT hZ (hw _ (List.mem_of_getElem? (i := 32) rfl)))) (by decide) (c_drop_2_0 l Z a0 hw s1 ar (.ref r0) (.ref r1) .null .null T18.heap n0 (Nat.le_trans Z0 x18.1) Sq18 g1 g2) rfl Sq18.1 (argsL := [(.int (0 : Int32))]) (rest := []) (g := (mkF m 79 #[.val (.int i0), .val (.int i1), .val (.int (1 : Int32)), .val (.int (0 : Int32)), .val (.ref s1), .unset] [(.int (0 : Int32)), (.ref s1)])) rfl (by rw [hml]; rfl) (ps := [.int]) (r := none) (by decide +kernel) rfl rfl (W := 0) (by show 2 * 0 + _ ≤ _; exact Nat.le_of_eq rfl) (hb hby at_79) (by decide) (by decide) (by decide) (by decide)
      have x19 := own_ext_keep x18 Kq19 (allS js (allS ja all0))
      have N19 := Fr.app N18 Nq19
      refine own_go st19 ?_
      show own_G p e below _ T19 (mkF m 82 #[.val (.int i0), .val (.int i1), .val (.int (1 : Int32)), .val (.int (0 : Int32)), .val (.ref s1), .unset] [])
      refine own_go (fun t k => XS.iloadN X19.here hx rfl (hb hby at_82) rfl k) ?_
      show own_G p e below _ T19 (mkF m 83 #[.val (.int i0), .val (.int i1), .val (.int (1 : Int32)), .val (.int (0 : Int32)), .val (.ref s1), .unset] [(.int (1 : Int32))])
      refine own_go (fun t k => XS.iloadN X19.here hx rfl (hb hby at_83) rfl k) ?_
      show own_G p e below _ T19 (mkF m 84 #[.val (.int i0), .val (.int i1), .val (.int (1 : Int32)), .val (.int (0 : Int32)), .val (.ref s1), .unset] [(.int (0 : Int32)), (.int (1 : Int32))])
      refine own_go (fun t k => XS.isub X19.here hx rfl (hb hby at_84) rfl k) ?_
      show own_G p e below _ T19 (mkF m 85 #[.val (.int i0), .val (.int i1), .val (.int (1 : Int32)), .val (.int (0 : Int32)), .val (.ref s1), .unset] [(.int (1 : Int32))])
      refine own_go (fun t k => XS.istore X19.here hx rfl (hb hby at_85) rfl (l' := #[.val (.int i0), .val (.int i1), .val (.int (1 : Int32)), .val (.int (0 : Int32)), .val (.ref s1), .val (.int (1 : Int32))]) rfl k) ?_
      show own_G p e below _ T19 (mkF m 87 #[.val (.int i0), .val (.int i1), .val (.int (1 : Int32)), .val (.int (0 : Int32)), .val (.ref s1), .val (.int (1 : Int32))] [])
      refine own_go (fun t k => XS.aload X19.here hx rfl (hb hby at_87) rfl rfl k) ?_
      show own_G p e below _ T19 (mkF m 89 #[.val (.int i0), .val (.int i1), .val (.int (1 : Int32)), .val (.int (0 : Int32)), .val (.ref s1), .val (.int (1 : Int32))] [(.ref s1)])
      refine own_go (fun t k => XS.iconst X19.here hx rfl (hb hby at_89) k) ?_
      show own_G p e below _ T19 (mkF m 90 #[.val (.int i0), .val (.int i1), .val (.int (1 : Int32)), .val (.int (0 : Int32)), .val (.ref s1), .val (.int (1 : Int32))] [(.int (0 : Int32)), (.ref s1)])
      refine own_go (fun t k => XS.iloadN X19.here hx rfl (hb hby at_90) rfl k) ?_
      show own_G p e below _ T19 (mkF m 91 #[.val (.int i0), .val (.int i1), .val (.int (1 : Int32)), .val (.int (0 : Int32)), .val (.ref s1), .val (.int (1 : Int32))] [(.int (1 : Int32)), (.int (0 : Int32)), (.ref s1)])
      refine own_go (fun t k => XS.iload X19.here hx rfl (hb hby at_91) rfl k) ?_
      show own_G p e below _ T19 (mkF m 93 #[.val (.int i0), .val (.int i1), .val (.int (1 : Int32)), .val (.int (0 : Int32)), .val (.ref s1), .val (.int (1 : Int32))] [(.int (1 : Int32)), (.int (1 : Int32)), (.int (0 : Int32)), (.ref s1)])
      obtain ⟨T20, L20, v20, X20, ⟨rfl, rfl, q20⟩, st20⟩ := own_callS X19 hx hH (y := (⟨"com/example/halyard/halyard/engine/OperandStackDropPinLaw", "slot", "(Lcom/example/halyard/halyard/engine/OperandStack;III)Z"⟩ : MethodName)) hown (hw _ (List.mem_of_getElem? (i := 34) rfl)) (hw _ (List.mem_of_getElem? (i := 35) rfl)) (hw _ (List.mem_of_getElem? (i := 36) rfl)) (hw _ (List.mem_of_getElem? (i := 37) rfl)) (by decide) (c_slot_b0 l Z a0 hw s1 (1 : Int32) (1 : Int32) ar r0 (.ref r1) .null .null T19.heap (by decide) (by decide) Sq19 (E_0.ext x19) (F_0.ext x19)) rfl (argsL := [(.ref s1), (.int (0 : Int32)), (.int (1 : Int32)), (.int (1 : Int32))]) (rest := []) (g := (mkF m 93 #[.val (.int i0), .val (.int i1), .val (.int (1 : Int32)), .val (.int (0 : Int32)), .val (.ref s1), .val (.int (1 : Int32))] [(.int (1 : Int32)), (.int (1 : Int32)), (.int (0 : Int32)), (.ref s1)])) rfl (by rw [hml]; rfl) (ps := [(.object "com/example/halyard/halyard/engine/OperandStack"), .int, .int, .int]) (r := (some .boolean)) (by decide +kernel) rfl rfl (W := 0) (by show 2 * 0 + _ ≤ _; exact Nat.le_of_eq rfl) (hb hby at_93) (by decide) (by decide) (by decide) (by decide)
      have x20 := own_ext_trans x19 q20
      have S20 := own_ST_ext q20 Sq19
      have N20 := Fr.app N19 (Fr.nil n0)
      refine own_go st20 ?_
      show own_G p e below _ T20 (mkF m 96 #[.val (.int i0), .val (.int i1), .val (.int (1 : Int32)), .val (.int (0 : Int32)), .val (.ref s1), .val (.int (1 : Int32))] [(.int (1 : Int32))])
      refine own_go (fun t k => XS.ifNo X20.here hx rfl (hb hby at_96) rfl (by decide) k) ?_
      show own_G p e below _ T20 (mkF m 99 #[.val (.int i0), .val (.int i1), .val (.int (1 : Int32)), .val (.int (0 : Int32)), .val (.ref s1), .val (.int (1 : Int32))] [])
      refine own_go (fun t k => XS.aload X20.here hx rfl (hb hby at_99) rfl rfl k) ?_
      show own_G p e below _ T20 (mkF m 101 #[.val (.int i0), .val (.int i1), .val (.int (1 : Int32)), .val (.int (0 : Int32)), .val (.ref s1), .val (.int (1 : Int32))] [(.ref s1)])
      refine own_go (fun t k => XS.iconst X20.here hx rfl (hb hby at_101) k) ?_
      show own_G p e below _ T20 (mkF m 102 #[.val (.int i0), .val (.int i1), .val (.int (1 : Int32)), .val (.int (0 : Int32)), .val (.ref s1), .val (.int (1 : Int32))] [(.int (1 : Int32)), (.ref s1)])
      refine own_go (fun t k => XS.iloadN X20.here hx rfl (hb hby at_102) rfl k) ?_
      show own_G p e below _ T20 (mkF m 103 #[.val (.int i0), .val (.int i1), .val (.int (1 : Int32)), .val (.int (0 : Int32)), .val (.ref s1), .val (.int (1 : Int32))] [(.int (1 : Int32)), (.int (1 : Int32)), (.ref s1)])
      refine own_go (fun t k => XS.iload X20.here hx rfl (hb hby at_103) rfl k) ?_
      show own_G p e below _ T20 (mkF m 105 #[.val (.int i0), .val (.int i1), .val (.int (1 : Int32)), .val (.int (0 : Int32)), .val (.ref s1), .val (.int (1 : Int32))] [(.int (1 : Int32)), (.int (1 : Int32)), (.int (1 : Int32)), (.ref s1)])
      obtain ⟨T21, L21, v21, X21, ⟨rfl, rfl, q21⟩, st21⟩ := own_callS X20 hx hH (y := (⟨"com/example/halyard/halyard/engine/OperandStackDropPinLaw", "slot", "(Lcom/example/halyard/halyard/engine/OperandStack;III)Z"⟩ : MethodName)) hown (hw _ (List.mem_of_getElem? (i := 34) rfl)) (hw _ (List.mem_of_getElem? (i := 35) rfl)) (hw _ (List.mem_of_getElem? (i := 36) rfl)) (hw _ (List.mem_of_getElem? (i := 37) rfl)) (by decide) (c_slot_b1 l Z a0 hw s1 (1 : Int32) (1 : Int32) ar r1 (.ref r0) .null .null T20.heap (by decide) (by decide) S20 (E_1.ext x20) (F_1.ext x20)) rfl (argsL := [(.ref s1), (.int (1 : Int32)), (.int (1 : Int32)), (.int (1 : Int32))]) (rest := []) (g := (mkF m 105 #[.val (.int i0), .val (.int i1), .val (.int (1 : Int32)), .val (.int (0 : Int32)), .val (.ref s1), .val (.int (1 : Int32))] [(.int (1 : Int32)), (.int (1 : Int32)), (.int (1 : Int32)), (.ref s1)])) rfl (by rw [hml]; rfl) (ps := [(.object "com/example/halyard/halyard/engine/OperandStack"), .int, .int, .int]) (r := (some .boolean)) (by decide +kernel) rfl rfl (W := 0) (by show 2 * 0 + _ ≤ _; exact Nat.le_of_eq rfl) (hb hby at_105) (by decide) (by decide) (by decide) (by decide)
      have x21 := own_ext_trans x20 q21
      have S21 := own_ST_ext q21 S20
      have N21 := Fr.app N20 (Fr.nil n0)
      refine own_go st21 ?_
      show own_G p e below _ T21 (mkF m 108 #[.val (.int i0), .val (.int i1), .val (.int (1 : Int32)), .val (.int (0 : Int32)), .val (.ref s1), .val (.int (1 : Int32))] [(.int (1 : Int32))])
      refine own_go (fun t k => XS.ifNo X21.here hx rfl (hb hby at_108) rfl (by decide) k) ?_
      show own_G p e below _ T21 (mkF m 111 #[.val (.int i0), .val (.int i1), .val (.int (1 : Int32)), .val (.int (0 : Int32)), .val (.ref s1), .val (.int (1 : Int32))] [])
      refine own_go (fun t k => XS.aload X21.here hx rfl (hb hby at_111) rfl rfl k) ?_
      show own_G p e below _ T21 (mkF m 113 #[.val (.int i0), .val (.int i1), .val (.int (1 : Int32)), .val (.int (0 : Int32)), .val (.ref s1), .val (.int (1 : Int32))] [(.ref s1)])
      refine own_go (fun t k => XS.iconst X21.here hx rfl (hb hby at_113) k) ?_
      show own_G p e below _ T21 (mkF m 114 #[.val (.int i0), .val (.int i1), .val (.int (1 : Int32)), .val (.int (0 : Int32)), .val (.ref s1), .val (.int (1 : Int32))] [(.int (2 : Int32)), (.ref s1)])
      refine own_go (fun t k => XS.iloadN X21.here hx rfl (hb hby at_114) rfl k) ?_
      show own_G p e below _ T21 (mkF m 115 #[.val (.int i0), .val (.int i1), .val (.int (1 : Int32)), .val (.int (0 : Int32)), .val (.ref s1), .val (.int (1 : Int32))] [(.int (1 : Int32)), (.int (2 : Int32)), (.ref s1)])
      refine own_go (fun t k => XS.iload X21.here hx rfl (hb hby at_115) rfl k) ?_
      show own_G p e below _ T21 (mkF m 117 #[.val (.int i0), .val (.int i1), .val (.int (1 : Int32)), .val (.int (0 : Int32)), .val (.ref s1), .val (.int (1 : Int32))] [(.int (1 : Int32)), (.int (1 : Int32)), (.int (2 : Int32)), (.ref s1)])
      obtain ⟨T22, L22, v22, X22, ⟨rfl, rfl, q22⟩, st22⟩ := own_callS X21 hx hH (y := (⟨"com/example/halyard/halyard/engine/OperandStackDropPinLaw", "slot", "(Lcom/example/halyard/halyard/engine/OperandStack;III)Z"⟩ : MethodName)) hown (hw _ (List.mem_of_getElem? (i := 34) rfl)) (hw _ (List.mem_of_getElem? (i := 35) rfl)) (hw _ (List.mem_of_getElem? (i := 36) rfl)) (hw _ (List.mem_of_getElem? (i := 37) rfl)) (by decide) (c_slot_a l Z a0 hw s1 (2 : Int32) (1 : Int32) (1 : Int32) T21.heap (by decide)) rfl (argsL := [(.ref s1), (.int (2 : Int32)), (.int (1 : Int32)), (.int (1 : Int32))]) (rest := []) (g := (mkF m 117 #[.val (.int i0), .val (.int i1), .val (.int (1 : Int32)), .val (.int (0 : Int32)), .val (.ref s1), .val (.int (1 : Int32))] [(.int (1 : Int32)), (.int (1 : Int32)), (.int (2 : Int32)), (.ref s1)])) rfl (by rw [hml]; rfl) (ps := [(.object "com/example/halyard/halyard/engine/OperandStack"), .int, .int, .int]) (r := (some .boolean)) (by decide +kernel) rfl rfl (W := 0) (by show 2 * 0 + _ ≤ _; exact Nat.le_of_eq rfl) (hb hby at_117) (by decide) (by decide) (by decide) (by decide)
      have x22 := own_ext_trans x21 q22
      have S22 := own_ST_ext q22 S21
      have N22 := Fr.app N21 (Fr.nil n0)
      refine own_go st22 ?_
      show own_G p e below _ T22 (mkF m 120 #[.val (.int i0), .val (.int i1), .val (.int (1 : Int32)), .val (.int (0 : Int32)), .val (.ref s1), .val (.int (1 : Int32))] [(.int (1 : Int32))])
      refine own_go (fun t k => XS.ifNo X22.here hx rfl (hb hby at_120) rfl (by decide) k) ?_
      show own_G p e below _ T22 (mkF m 123 #[.val (.int i0), .val (.int i1), .val (.int (1 : Int32)), .val (.int (0 : Int32)), .val (.ref s1), .val (.int (1 : Int32))] [])
      refine own_go (fun t k => XS.aload X22.here hx rfl (hb hby at_123) rfl rfl k) ?_
      show own_G p e below _ T22 (mkF m 125 #[.val (.int i0), .val (.int i1), .val (.int (1 : Int32)), .val (.int (0 : Int32)), .val (.ref s1), .val (.int (1 : Int32))] [(.ref s1)])
      refine own_go (fun t k => XS.iconst X22.here hx rfl (hb hby at_125) k) ?_
      show own_G p e below _ T22 (mkF m 126 #[.val (.int i0), .val (.int i1), .val (.int (1 : Int32)), .val (.int (0 : Int32)), .val (.ref s1), .val (.int (1 : Int32))] [(.int (3 : Int32)), (.ref s1)])
      refine own_go (fun t k => XS.iloadN X22.here hx rfl (hb hby at_126) rfl k) ?_
      show own_G p e below _ T22 (mkF m 127 #[.val (.int i0), .val (.int i1), .val (.int (1 : Int32)), .val (.int (0 : Int32)), .val (.ref s1), .val (.int (1 : Int32))] [(.int (1 : Int32)), (.int (3 : Int32)), (.ref s1)])
      refine own_go (fun t k => XS.iload X22.here hx rfl (hb hby at_127) rfl k) ?_
      show own_G p e below _ T22 (mkF m 129 #[.val (.int i0), .val (.int i1), .val (.int (1 : Int32)), .val (.int (0 : Int32)), .val (.ref s1), .val (.int (1 : Int32))] [(.int (1 : Int32)), (.int (1 : Int32)), (.int (3 : Int32)), (.ref s1)])
      obtain ⟨T23, L23, v23, X23, ⟨rfl, rfl, q23⟩, st23⟩ := own_callS X22 hx hH (y := (⟨"com/example/halyard/halyard/engine/OperandStackDropPinLaw", "slot", "(Lcom/example/halyard/halyard/engine/OperandStack;III)Z"⟩ : MethodName)) hown (hw _ (List.mem_of_getElem? (i := 34) rfl)) (hw _ (List.mem_of_getElem? (i := 35) rfl)) (hw _ (List.mem_of_getElem? (i := 36) rfl)) (hw _ (List.mem_of_getElem? (i := 37) rfl)) (by decide) (c_slot_a l Z a0 hw s1 (3 : Int32) (1 : Int32) (1 : Int32) T22.heap (by decide)) rfl (argsL := [(.ref s1), (.int (3 : Int32)), (.int (1 : Int32)), (.int (1 : Int32))]) (rest := []) (g := (mkF m 129 #[.val (.int i0), .val (.int i1), .val (.int (1 : Int32)), .val (.int (0 : Int32)), .val (.ref s1), .val (.int (1 : Int32))] [(.int (1 : Int32)), (.int (1 : Int32)), (.int (3 : Int32)), (.ref s1)])) rfl (by rw [hml]; rfl) (ps := [(.object "com/example/halyard/halyard/engine/OperandStack"), .int, .int, .int]) (r := (some .boolean)) (by decide +kernel) rfl rfl (W := 0) (by show 2 * 0 + _ ≤ _; exact Nat.le_of_eq rfl) (hb hby at_129) (by decide) (by decide) (by decide) (by decide)
      have x23 := own_ext_trans x22 q23
      have S23 := own_ST_ext q23 S22
      have N23 := Fr.app N22 (Fr.nil n0)
      refine own_go st23 ?_
      show own_G p e below _ T23 (mkF m 132 #[.val (.int i0), .val (.int i1), .val (.int (1 : Int32)), .val (.int (0 : Int32)), .val (.ref s1), .val (.int (1 : Int32))] [(.int (1 : Int32))])
      refine own_go (fun t k => XS.ifNo X23.here hx rfl (hb hby at_132) rfl (by decide) k) ?_
      show own_G p e below _ T23 (mkF m 135 #[.val (.int i0), .val (.int i1), .val (.int (1 : Int32)), .val (.int (0 : Int32)), .val (.ref s1), .val (.int (1 : Int32))] [])
      refine own_go (fun t k => XS.iconst X23.here hx rfl (hb hby at_135) k) ?_
      show own_G p e below _ T23 (mkF m 136 #[.val (.int i0), .val (.int i1), .val (.int (1 : Int32)), .val (.int (0 : Int32)), .val (.ref s1), .val (.int (1 : Int32))] [(.int (1 : Int32))])
      refine own_go (fun t k => XS.goto X23.here hx rfl (pc0 := 136) (pc' := 140) rfl (hb hby at_136) (by decide) (by decide) k) ?_
      show own_G p e below _ T23 (mkF m 140 #[.val (.int i0), .val (.int i1), .val (.int (1 : Int32)), .val (.int (0 : Int32)), .val (.ref s1), .val (.int (1 : Int32))] [(.int (1 : Int32))])
      exact own_retN X23 hx hlk hret (by simp) (hb hby at_140) (by decide) (by decide) ⟨rfl, N23⟩
    · rw [hk12]
      show own_G p e below _ T0 (mkF m 15 #[.val (.int i0), .val (.int i1), .val (.int (1 : Int32)), .unset, .unset, .unset] [(.int (1 : Int32))])
      refine own_go (fun t k => XS.istoreN X0.here hx rfl (hb hby at_15) rfl (l' := #[.val (.int i0), .val (.int i1), .val (.int (1 : Int32)), .val (.int (1 : Int32)), .unset, .unset]) rfl k) ?_
      show own_G p e below _ T0 (mkF m 16 #[.val (.int i0), .val (.int i1), .val (.int (1 : Int32)), .val (.int (1 : Int32)), .unset, .unset] [])
      obtain ⟨T24, h24, X24, e24, E24, A24, D24, -, st24⟩ := newO X0 hx hZ hown (hw _ (List.mem_of_getElem? (i := 1) rfl)) (hw _ (List.mem_of_getElem? (i := 2) rfl)) (hw _ (List.mem_of_getElem? (i := 3) rfl)) e0 (g := (mkF m 16 #[.val (.int i0), .val (.int i1), .val (.int (1 : Int32)), .val (.int (1 : Int32)), .unset, .unset] [])) rfl (hb hby at_16) (by decide) (by decide)
      obtain ⟨s1, gs⟩ : ∃ z, z = h0.size := ⟨_, rfl⟩
      rw [← gs] at A24 D24 st24
      have F1 : Fld Z h24 s1 own_K "values" "[Ljava/lang/Object;" .null := D24 (Or.inl (hw _ (List.mem_of_getElem? (i := 13) rfl))) (ty := .array (.object "java/lang/Object")) (by decide +kernel)
      have F2 : Fld Z h24 s1 own_K "size" "I" (.int (0 : Int32)) := D24 (Or.inl (hw _ (List.mem_of_getElem? (i := 27) rfl))) (ty := .int) (by decide)
      have x24 : Ext h0 h24 := E24
      have js : h0.size ≤ s1 := Nat.le_of_eq gs.symm
      have g1 : n0 ≤ s1 := Nat.le_trans Z0 js
      refine own_go st24 ?_
      show own_G p e below _ T24 (mkF m 19 #[.val (.int i0), .val (.int i1), .val (.int (1 : Int32)), .val (.int (1 : Int32)), .unset, .unset] [(.ref s1)])
      refine own_go (fun t k => XS.dup X24.here hx rfl (hb hby at_19) rfl rfl k) ?_
      show own_G p e below _ T24 (mkF m 20 #[.val (.int i0), .val (.int i1), .val (.int (1 : Int32)), .val (.int (1 : Int32)), .unset, .unset] [(.ref s1), (.ref s1)])
      obtain ⟨T25, L25, v25, X25, ⟨rfl, Nq25, Kq25, Sq25⟩, st25⟩ := own_callN X24 hx hH (y := (⟨"com/example/halyard/halyard/engine/OperandStack", "<init>", "()V"⟩ : MethodName)) rfl hown (hw _ (List.mem_of_getElem? (i := 4) rfl)) (hw _ (List.mem_of_getElem? (i := 5) rfl)) (hw _ (List.mem_of_getElem? (i := 6) rfl)) (hw _ (List.mem_of_getElem? (i := 3) rfl)) (by decide) (c_init l Z a0 hw s1 h24 n0 (Nat.le_trans Z0 x24.1) A24 F1 F2 g1) e24 (argsL := []) (rest := [(.ref s1)]) (g := (mkF m 20 #[.val (.int i0), .val (.int i1), .val (.int (1 : Int32)), .val (.int (1 : Int32)), .unset, .unset] [(.ref s1), (.ref s1)])) rfl (by rw [hml]; rfl) (ps := []) (r := none) (by decide +kernel) rfl rfl (W := 1) (by show 2 * 0 + _ ≤ _; exact Nat.le_of_eq rfl) (hb hby at_20) (by decide) (by decide) (by decide) (by decide)
      obtain ⟨ar, ga⟩ : ∃ z, z = h24.size := ⟨_, rfl⟩
      rw [← ga] at Sq25
      have ja : h0.size ≤ ar := Nat.le_trans x24.1 (Nat.le_of_eq ga.symm)
      have g2 : n0 ≤ ar := Nat.le_trans Z0 ja
      have x25 := own_ext_keep x24 Kq25 (allS js all0)
      have N25 := Fr.app N0 Nq25
      refine own_go st25 ?_
      show own_G p e below _ T25 (mkF m 23 #[.val (.int i0), .val (.int i1), .val (.int (1 : Int32)), .val (.int (1 : Int32)), .unset, .unset] [(.ref s1)])
      refine own_go (fun t k => XS.astore X25.here hx rfl (hb hby at_23) rfl rfl (l' := #[.val (.int i0), .val (.int i1), .val (.int (1 : Int32)), .val (.int (1 : Int32)), .val (.ref s1), .unset]) rfl k) ?_
      show own_G p e below _ T25 (mkF m 25 #[.val (.int i0), .val (.int i1), .val (.int (1 : Int32)), .val (.int (1 : Int32)), .val (.ref s1), .unset] [])
      refine own_go (fun t k => XS.aload X25.here hx rfl (hb hby at_25) rfl rfl k) ?_
      show own_G p e below _ T25 (mkF m 27 #[.val (.int i0), .val (.int i1), .val (.int (1 : Int32)), .val (.int (1 : Int32)), .val (.ref s1), .unset] [(.ref s1)])
      refine own_go (fun t k => XS.iconst X25.here hx rfl (hb hby at_27) k) ?_
      show own_G p e below _ T25 (mkF m 28 #[.val (.int i0), .val (.int i1), .val (.int (1 : Int32)), .val (.int (1 : Int32)), .val (.ref s1), .unset] [(.int (0 : Int32)), (.ref s1)])
      obtain ⟨T26, L26, v26, X26, ⟨rfl, rfl, q26⟩, st26⟩ := own_callS X25 hx hH (y := (⟨"java/lang/Integer", "valueOf", "(I)Ljava/lang/Integer;"⟩ : MethodName)) hown (hw _ (List.mem_of_getElem? (i := 14) rfl)) (hw _ (List.mem_of_getElem? (i := 15) rfl)) (hw _ (List.mem_of_getElem? (i := 16) rfl)) (hw _ (List.mem_of_getElem? (i := 17) rfl)) (by decide) (c_valueOf_0 l Z a0 hw ac r0 r1 r2 r3 clc T25.heap (own_B_ext x25 B)) rfl (argsL := [(.int (0 : Int32))]) (rest := [(.ref s1)]) (g := (mkF m 28 #[.val (.int i0), .val (.int i1), .val (.int (1 : Int32)), .val (.int (1 : Int32)), .val (.ref s1), .unset] [(.int (0 : Int32)), (.ref s1)])) rfl (by rw [hml]; rfl) (ps := [.int]) (r := (some (.object "java/lang/Integer"))) (by decide +kernel) rfl rfl (W := 1) (by show 2 * 0 + _ ≤ _; exact Nat.le_of_eq rfl) (hb hby at_28) (by decide) (by decide) (by decide) (by decide)
      have N26 := Fr.app N25 (Fr.nil n0)
      refine own_go st26 ?_
      show own_G p e below _ T26 (mkF m 31 #[.val (.int i0), .val (.int i1), .val (.int (1 : Int32)), .val (.int (1 : Int32)), .val (.ref s1), .unset] [(.ref r0), (.ref s1)])
      obtain ⟨T27, L27, v27, X27, ⟨rfl, Nq27, Kq27, Sq27⟩, st27⟩ := own_callV X26 hx hH (y := (⟨"com/example/halyard/halyard/engine/OperandStack", "push", "(Ljava/lang/Object;)V"⟩ : MethodName)) (z := (⟨"com/example/halyard/halyard/engine/OperandStack", "push", "(Ljava/lang/Object;)V"⟩ : MethodName)) hown (hw _ (List.mem_of_getElem? (i := 21) rfl)) (hw _ (List.mem_of_getElem? (i := 22) rfl)) (hw _ (List.mem_of_getElem? (i := 24) rfl)) (hw _ (List.mem_of_getElem? (i := 24) rfl)) (hw _ (List.mem_of_getElem? (i := 23) rfl)) (hw _ (List.mem_of_getElem? (i := 25) rfl)) (hw _ (List.mem_of_getElem? (i := 3) rfl)) (notFace_of_selects (args := #[]) (mvT hZ (hw _ (List.mem_of_getElem? (i := 24) rfl)))) (by decide) (c_push_0A l Z a0 hw s1 ar r0 .null .null .null .null T25.heap n0 (Nat.le_trans Z0 x25.1) Sq25 (own_ST_sto Sq25 (Ins.of_exa (E_0.ext x25) (hw _ (List.mem_of_getElem? (i := 28) rfl)))) g1 g2) q26 Sq25.1 (argsL := [(.ref r0)]) (rest := []) (g := (mkF m 31 #[.val (.int i0), .val (.int i1), .val (.int (1 : Int32)), .val (.int (1 : Int32)), .val (.ref s1), .unset] [(.ref r0), (.ref s1)])) rfl (by rw [hml]; rfl) (ps := [(.object "java/lang/Object")]) (r := none) (by decide +kernel) rfl rfl (W := 0) (by show 2 * 0 + _ ≤ _; exact Nat.le_of_eq rfl) (hb hby at_31) (by decide) (by decide) (by decide) (by decide)
      have x27 := own_ext_keep x25 Kq27 (allS js (allS ja all0))
      have N27 := Fr.app N26 Nq27
      refine own_go st27 ?_
      show own_G p e below _ T27 (mkF m 34 #[.val (.int i0), .val (.int i1), .val (.int (1 : Int32)), .val (.int (1 : Int32)), .val (.ref s1), .unset] [])
      refine own_go (fun t k => XS.iloadN X27.here hx rfl (hb hby at_34) rfl k) ?_
      show own_G p e below _ T27 (mkF m 35 #[.val (.int i0), .val (.int i1), .val (.int (1 : Int32)), .val (.int (1 : Int32)), .val (.ref s1), .unset] [(.int (1 : Int32))])
      refine own_go (fun t k => XS.iconst X27.here hx rfl (hb hby at_35) k) ?_
      show own_G p e below _ T27 (mkF m 36 #[.val (.int i0), .val (.int i1), .val (.int (1 : Int32)), .val (.int (1 : Int32)), .val (.ref s1), .unset] [(.int (1 : Int32)), (.int (1 : Int32))])
      refine own_go (fun t k => XS.icmpNo X27.here hx rfl (hb hby at_36) rfl (by decide) k) ?_
      show own_G p e below _ T27 (mkF m 39 #[.val (.int i0), .val (.int i1), .val (.int (1 : Int32)), .val (.int (1 : Int32)), .val (.ref s1), .unset] [])
      refine own_go (fun t k => XS.aload X27.here hx rfl (hb hby at_39) rfl rfl k) ?_
      show own_G p e below _ T27 (mkF m 41 #[.val (.int i0), .val (.int i1), .val (.int (1 : Int32)), .val (.int (1 : Int32)), .val (.ref s1), .unset] [(.ref s1)])
      refine own_go (fun t k => XS.iconst X27.here hx rfl (hb hby at_41) k) ?_
      show own_G p e below _ T27 (mkF m 42 #[.val (.int i0), .val (.int i1), .val (.int (1 : Int32)), .val (.int (1 : Int32)), .val (.ref s1), .unset] [(.int (1 : Int32)), (.ref s1)])
      obtain ⟨T28, L28, v28, X28, ⟨rfl, rfl, q28⟩, st28⟩ := own_callS X27 hx hH (y := (⟨"java/lang/Integer", "valueOf", "(I)Ljava/lang/Integer;"⟩ : MethodName)) hown (hw _ (List.mem_of_getElem? (i := 14) rfl)) (hw _ (List.mem_of_getElem? (i := 15) rfl)) (hw _ (List.mem_of_getElem? (i := 16) rfl)) (hw _ (List.mem_of_getElem? (i := 17) rfl)) (by decide) (c_valueOf_1 l Z a0 hw ac r0 r1 r2 r3 clc T27.heap (own_B_ext x27 B)) rfl (argsL := [(.int (1 : Int32))]) (rest := [(.ref s1)]) (g := (mkF m 42 #[.val (.int i0), .val (.int i1), .val (.int (1 : Int32)), .val (.int (1 : Int32)), .val (.ref s1), .unset] [(.int (1 : Int32)), (.ref s1)])) rfl (by rw [hml]; rfl) (ps := [.int]) (r := (some (.object "java/lang/Integer"))) (by decide +kernel) rfl rfl (W := 1) (by show 2 * 0 + _ ≤ _; exact Nat.le_of_eq rfl) (hb hby at_42) (by decide) (by decide) (by decide) (by decide)
      have N28 := Fr.app N27 (Fr.nil n0)
      refine own_go st28 ?_
      show own_G p e below _ T28 (mkF m 45 #[.val (.int i0), .val (.int i1), .val (.int (1 : Int32)), .val (.int (1 : Int32)), .val (.ref s1), .unset] [(.ref r1), (.ref s1)])
      obtain ⟨T29, L29, v29, X29, ⟨rfl, Nq29, Kq29, Sq29⟩, st29⟩ := own_callV X28 hx hH (y := (⟨"com/example/halyard/halyard/engine/OperandStack", "push", "(Ljava/lang/Object;)V"⟩ : MethodName)) (z := (⟨"com/example/halyard/halyard/engine/OperandStack", "push", "(Ljava/lang/Object;)V"⟩ : MethodName)) hown (hw _ (List.mem_of_getElem? (i := 21) rfl)) (hw _ (List.mem_of_getElem? (i := 22) rfl)) (hw _ (List.mem_of_getElem? (i := 24) rfl)) (hw _ (List.mem_of_getElem? (i := 24) rfl)) (hw _ (List.mem_of_getElem? (i := 23) rfl)) (hw _ (List.mem_of_getElem? (i := 25) rfl)) (hw _ (List.mem_of_getElem? (i := 3) rfl)) (notFace_of_selects (args := #[]) (mvT hZ (hw _ (List.mem_of_getElem? (i := 24) rfl)))) (by decide) (c_push_1A l Z a0 hw s1 ar r1 (.ref r0) .null .null .null T27.heap n0 (Nat.le_trans Z0 x27.1) Sq27 (own_ST_sto Sq27 (Ins.of_exa (E_1.ext x27) (hw _ (List.mem_of_getElem? (i := 28) rfl)))) g1 g2) q28 Sq27.1 (argsL := [(.ref r1)]) (rest := []) (g := (mkF m 45 #[.val (.int i0), .val (.int i1), .val (.int (1 : Int32)), .val (.int (1 : Int32)), .val (.ref s1), .unset] [(.ref r1), (.ref s1)])) rfl (by rw [hml]; rfl) (ps := [(.object "java/lang/Object")]) (r := none) (by decide +kernel) rfl rfl (W := 0) (by show 2 * 0 + _ ≤ _; exact Nat.le_of_eq rfl) (hb hby at_45) (by decide) (by decide) (by decide) (by decide)
      have x29 := own_ext_keep x27 Kq29 (allS js (allS ja all0))
      have N29 := Fr.app N28 Nq29
      refine own_go st29 ?_
      show own_G p e below _ T29 (mkF m 48 #[.val (.int i0), .val (.int i1), .val (.int (1 : Int32)), .val (.int (1 : Int32)), .val (.ref s1), .unset] [])
      refine own_go (fun t k => XS.iloadN X29.here hx rfl (hb hby at_48) rfl k) ?_
      show own_G p e below _ T29 (mkF m 49 #[.val (.int i0), .val (.int i1), .val (.int (1 : Int32)), .val (.int (1 : Int32)), .val (.ref s1), .unset] [(.int (1 : Int32))])
      refine own_go (fun t k => XS.iconst X29.here hx rfl (hb hby at_49) k) ?_
      show own_G p e below _ T29 (mkF m 50 #[.val (.int i0), .val (.int i1), .val (.int (1 : Int32)), .val (.int (1 : Int32)), .val (.ref s1), .unset] [(.int (2 : Int32)), (.int (1 : Int32))])
      refine own_go (fun t k => XS.icmpYes X29.here hx rfl (pc0 := 50) (pc' := 62) rfl (hb hby at_50) rfl (by decide) (by decide) (by decide) k) ?_
      show own_G p e below _ T29 (mkF m 62 #[.val (.int i0), .val (.int i1), .val (.int (1 : Int32)), .val (.int (1 : Int32)), .val (.ref s1), .unset] [])
      refine own_go (fun t k => XS.iloadN X29.here hx rfl (hb hby at_62) rfl k) ?_
      show own_G p e below _ T29 (mkF m 63 #[.val (.int i0), .val (.int i1), .val (.int (1 : Int32)), .val (.int (1 : Int32)), .val (.ref s1), .unset] [(.int (1 : Int32))])
      refine own_go (fun t k => XS.iconst X29.here hx rfl (hb hby at_63) k) ?_
      show own_G p e below _ T29 (mkF m 64 #[.val (.int i0), .val (.int i1), .val (.int (1 : Int32)), .val (.int (1 : Int32)), .val (.ref s1), .unset] [(.int (3 : Int32)), (.int (1 : Int32))])
      refine own_go (fun t k => XS.icmpYes X29.here hx rfl (pc0 := 64) (pc' := 76) rfl (hb hby at_64) rfl (by decide) (by decide) (by decide) k) ?_
      show own_G p e below _ T29 (mkF m 76 #[.val (.int i0), .val (.int i1), .val (.int (1 : Int32)), .val (.int (1 : Int32)), .val (.ref s1), .unset] [])
      refine own_go (fun t k => XS.aload X29.here hx rfl (hb hby at_76) rfl rfl k) ?_
      show own_G p e below _ T29 (mkF m 78 #[.val (.int i0), .val (.int i1), .val (.int (1 : Int32)), .val (.int (1 : Int32)), .val (.ref s1), .unset] [(.ref s1)])
      refine own_go (fun t k => XS.iloadN X29.here hx rfl (hb hby at_78) rfl k) ?_
      show own_G p e below _ T29 (mkF m 79 #[.val (.int i0), .val (.int i1), .val (.int (1 : Int32)), .val (.int (1 : Int32)), .val (.ref s1), .unset] [(.int (1 : Int32)), (.ref s1)])
      obtain ⟨T30, L30, v30, X30, ⟨rfl, Nq30, Kq30, Sq30⟩, st30⟩ := own_callV X29 hx hH (y := (⟨"com/example/halyard/halyard/engine/OperandStack", "drop", "(I)V"⟩ : MethodName)) (z := (⟨"com/example/halyard/halyard/engine/OperandStack", "drop", "(I)V"⟩ : MethodName)) hown (hw _ (List.mem_of_getElem? (i := 29) rfl)) (hw _ (List.mem_of_getElem? (i := 30) rfl)) (hw _ (List.mem_of_getElem? (i := 32) rfl)) (hw _ (List.mem_of_getElem? (i := 32) rfl)) (hw _ (List.mem_of_getElem? (i := 31) rfl)) (hw _ (List.mem_of_getElem? (i := 33) rfl)) (hw _ (List.mem_of_getElem? (i := 3) rfl)) (notFace_of_selects (args := #[]) (mvT hZ (hw _ (List.mem_of_getElem? (i := 32) rfl)))) (by decide) (c_drop_2_1 l Z a0 hw s1 ar (.ref r0) (.ref r1) .null .null T29.heap n0 (Nat.le_trans Z0 x29.1) Sq29 g1 g2) rfl Sq29.1 (argsL := [(.int (1 : Int32))]) (rest := []) (g := (mkF m 79 #[.val (.int i0), .val (.int i1), .val (.int (1 : Int32)), .val (.int (1 : Int32)), .val (.ref s1), .unset] [(.int (1 : Int32)), (.ref s1)])) rfl (by rw [hml]; rfl) (ps := [.int]) (r := none) (by decide +kernel) rfl rfl (W := 0) (by show 2 * 0 + _ ≤ _; exact Nat.le_of_eq rfl) (hb hby at_79) (by decide) (by decide) (by decide) (by decide)
      have x30 := own_ext_keep x29 Kq30 (allS js (allS ja all0))
      have N30 := Fr.app N29 Nq30
      refine own_go st30 ?_
      show own_G p e below _ T30 (mkF m 82 #[.val (.int i0), .val (.int i1), .val (.int (1 : Int32)), .val (.int (1 : Int32)), .val (.ref s1), .unset] [])
      refine own_go (fun t k => XS.iloadN X30.here hx rfl (hb hby at_82) rfl k) ?_
      show own_G p e below _ T30 (mkF m 83 #[.val (.int i0), .val (.int i1), .val (.int (1 : Int32)), .val (.int (1 : Int32)), .val (.ref s1), .unset] [(.int (1 : Int32))])
      refine own_go (fun t k => XS.iloadN X30.here hx rfl (hb hby at_83) rfl k) ?_
      show own_G p e below _ T30 (mkF m 84 #[.val (.int i0), .val (.int i1), .val (.int (1 : Int32)), .val (.int (1 : Int32)), .val (.ref s1), .unset] [(.int (1 : Int32)), (.int (1 : Int32))])
      refine own_go (fun t k => XS.isub X30.here hx rfl (hb hby at_84) rfl k) ?_
      show own_G p e below _ T30 (mkF m 85 #[.val (.int i0), .val (.int i1), .val (.int (1 : Int32)), .val (.int (1 : Int32)), .val (.ref s1), .unset] [(.int (0 : Int32))])
      refine own_go (fun t k => XS.istore X30.here hx rfl (hb hby at_85) rfl (l' := #[.val (.int i0), .val (.int i1), .val (.int (1 : Int32)), .val (.int (1 : Int32)), .val (.ref s1), .val (.int (0 : Int32))]) rfl k) ?_
      show own_G p e below _ T30 (mkF m 87 #[.val (.int i0), .val (.int i1), .val (.int (1 : Int32)), .val (.int (1 : Int32)), .val (.ref s1), .val (.int (0 : Int32))] [])
      refine own_go (fun t k => XS.aload X30.here hx rfl (hb hby at_87) rfl rfl k) ?_
      show own_G p e below _ T30 (mkF m 89 #[.val (.int i0), .val (.int i1), .val (.int (1 : Int32)), .val (.int (1 : Int32)), .val (.ref s1), .val (.int (0 : Int32))] [(.ref s1)])
      refine own_go (fun t k => XS.iconst X30.here hx rfl (hb hby at_89) k) ?_
      show own_G p e below _ T30 (mkF m 90 #[.val (.int i0), .val (.int i1), .val (.int (1 : Int32)), .val (.int (1 : Int32)), .val (.ref s1), .val (.int (0 : Int32))] [(.int (0 : Int32)), (.ref s1)])
      refine own_go (fun t k => XS.iloadN X30.here hx rfl (hb hby at_90) rfl k) ?_
      show own_G p e below _ T30 (mkF m 91 #[.val (.int i0), .val (.int i1), .val (.int (1 : Int32)), .val (.int (1 : Int32)), .val (.ref s1), .val (.int (0 : Int32))] [(.int (1 : Int32)), (.int (0 : Int32)), (.ref s1)])
      refine own_go (fun t k => XS.iload X30.here hx rfl (hb hby at_91) rfl k) ?_
      show own_G p e below _ T30 (mkF m 93 #[.val (.int i0), .val (.int i1), .val (.int (1 : Int32)), .val (.int (1 : Int32)), .val (.ref s1), .val (.int (0 : Int32))] [(.int (0 : Int32)), (.int (1 : Int32)), (.int (0 : Int32)), (.ref s1)])
      obtain ⟨T31, L31, v31, X31, ⟨rfl, rfl, q31⟩, st31⟩ := own_callS X30 hx hH (y := (⟨"com/example/halyard/halyard/engine/OperandStackDropPinLaw", "slot", "(Lcom/example/halyard/halyard/engine/OperandStack;III)Z"⟩ : MethodName)) hown (hw _ (List.mem_of_getElem? (i := 34) rfl)) (hw _ (List.mem_of_getElem? (i := 35) rfl)) (hw _ (List.mem_of_getElem? (i := 36) rfl)) (hw _ (List.mem_of_getElem? (i := 37) rfl)) (by decide) (c_slot_b0 l Z a0 hw s1 (1 : Int32) (0 : Int32) ar r0 .null .null .null T30.heap (by decide) (by decide) Sq30 (E_0.ext x30) (F_0.ext x30)) rfl (argsL := [(.ref s1), (.int (0 : Int32)), (.int (1 : Int32)), (.int (0 : Int32))]) (rest := []) (g := (mkF m 93 #[.val (.int i0), .val (.int i1), .val (.int (1 : Int32)), .val (.int (1 : Int32)), .val (.ref s1), .val (.int (0 : Int32))] [(.int (0 : Int32)), (.int (1 : Int32)), (.int (0 : Int32)), (.ref s1)])) rfl (by rw [hml]; rfl) (ps := [(.object "com/example/halyard/halyard/engine/OperandStack"), .int, .int, .int]) (r := (some .boolean)) (by decide +kernel) rfl rfl (W := 0) (by show 2 * 0 + _ ≤ _; exact Nat.le_of_eq rfl) (hb hby at_93) (by decide) (by decide) (by decide) (by decide)
      have x31 := own_ext_trans x30 q31
      have S31 := own_ST_ext q31 Sq30
      have N31 := Fr.app N30 (Fr.nil n0)
      refine own_go st31 ?_
      show own_G p e below _ T31 (mkF m 96 #[.val (.int i0), .val (.int i1), .val (.int (1 : Int32)), .val (.int (1 : Int32)), .val (.ref s1), .val (.int (0 : Int32))] [(.int (1 : Int32))])
      refine own_go (fun t k => XS.ifNo X31.here hx rfl (hb hby at_96) rfl (by decide) k) ?_
      show own_G p e below _ T31 (mkF m 99 #[.val (.int i0), .val (.int i1), .val (.int (1 : Int32)), .val (.int (1 : Int32)), .val (.ref s1), .val (.int (0 : Int32))] [])
      refine own_go (fun t k => XS.aload X31.here hx rfl (hb hby at_99) rfl rfl k) ?_
      show own_G p e below _ T31 (mkF m 101 #[.val (.int i0), .val (.int i1), .val (.int (1 : Int32)), .val (.int (1 : Int32)), .val (.ref s1), .val (.int (0 : Int32))] [(.ref s1)])
      refine own_go (fun t k => XS.iconst X31.here hx rfl (hb hby at_101) k) ?_
      show own_G p e below _ T31 (mkF m 102 #[.val (.int i0), .val (.int i1), .val (.int (1 : Int32)), .val (.int (1 : Int32)), .val (.ref s1), .val (.int (0 : Int32))] [(.int (1 : Int32)), (.ref s1)])
      refine own_go (fun t k => XS.iloadN X31.here hx rfl (hb hby at_102) rfl k) ?_
      show own_G p e below _ T31 (mkF m 103 #[.val (.int i0), .val (.int i1), .val (.int (1 : Int32)), .val (.int (1 : Int32)), .val (.ref s1), .val (.int (0 : Int32))] [(.int (1 : Int32)), (.int (1 : Int32)), (.ref s1)])
      refine own_go (fun t k => XS.iload X31.here hx rfl (hb hby at_103) rfl k) ?_
      show own_G p e below _ T31 (mkF m 105 #[.val (.int i0), .val (.int i1), .val (.int (1 : Int32)), .val (.int (1 : Int32)), .val (.ref s1), .val (.int (0 : Int32))] [(.int (0 : Int32)), (.int (1 : Int32)), (.int (1 : Int32)), (.ref s1)])
      obtain ⟨T32, L32, v32, X32, ⟨rfl, rfl, q32⟩, st32⟩ := own_callS X31 hx hH (y := (⟨"com/example/halyard/halyard/engine/OperandStackDropPinLaw", "slot", "(Lcom/example/halyard/halyard/engine/OperandStack;III)Z"⟩ : MethodName)) hown (hw _ (List.mem_of_getElem? (i := 34) rfl)) (hw _ (List.mem_of_getElem? (i := 35) rfl)) (hw _ (List.mem_of_getElem? (i := 36) rfl)) (hw _ (List.mem_of_getElem? (i := 37) rfl)) (by decide) (c_slot_c1 l Z a0 hw s1 (1 : Int32) (0 : Int32) ar (.ref r0) .null .null T31.heap (by decide) (by decide) S31) rfl (argsL := [(.ref s1), (.int (1 : Int32)), (.int (1 : Int32)), (.int (0 : Int32))]) (rest := []) (g := (mkF m 105 #[.val (.int i0), .val (.int i1), .val (.int (1 : Int32)), .val (.int (1 : Int32)), .val (.ref s1), .val (.int (0 : Int32))] [(.int (0 : Int32)), (.int (1 : Int32)), (.int (1 : Int32)), (.ref s1)])) rfl (by rw [hml]; rfl) (ps := [(.object "com/example/halyard/halyard/engine/OperandStack"), .int, .int, .int]) (r := (some .boolean)) (by decide +kernel) rfl rfl (W := 0) (by show 2 * 0 + _ ≤ _; exact Nat.le_of_eq rfl) (hb hby at_105) (by decide) (by decide) (by decide) (by decide)
      have x32 := own_ext_trans x31 q32
      have S32 := own_ST_ext q32 S31
      have N32 := Fr.app N31 (Fr.nil n0)
      refine own_go st32 ?_
      show own_G p e below _ T32 (mkF m 108 #[.val (.int i0), .val (.int i1), .val (.int (1 : Int32)), .val (.int (1 : Int32)), .val (.ref s1), .val (.int (0 : Int32))] [(.int (1 : Int32))])
      refine own_go (fun t k => XS.ifNo X32.here hx rfl (hb hby at_108) rfl (by decide) k) ?_
      show own_G p e below _ T32 (mkF m 111 #[.val (.int i0), .val (.int i1), .val (.int (1 : Int32)), .val (.int (1 : Int32)), .val (.ref s1), .val (.int (0 : Int32))] [])
      refine own_go (fun t k => XS.aload X32.here hx rfl (hb hby at_111) rfl rfl k) ?_
      show own_G p e below _ T32 (mkF m 113 #[.val (.int i0), .val (.int i1), .val (.int (1 : Int32)), .val (.int (1 : Int32)), .val (.ref s1), .val (.int (0 : Int32))] [(.ref s1)])
      refine own_go (fun t k => XS.iconst X32.here hx rfl (hb hby at_113) k) ?_
      show own_G p e below _ T32 (mkF m 114 #[.val (.int i0), .val (.int i1), .val (.int (1 : Int32)), .val (.int (1 : Int32)), .val (.ref s1), .val (.int (0 : Int32))] [(.int (2 : Int32)), (.ref s1)])
      refine own_go (fun t k => XS.iloadN X32.here hx rfl (hb hby at_114) rfl k) ?_
      show own_G p e below _ T32 (mkF m 115 #[.val (.int i0), .val (.int i1), .val (.int (1 : Int32)), .val (.int (1 : Int32)), .val (.ref s1), .val (.int (0 : Int32))] [(.int (1 : Int32)), (.int (2 : Int32)), (.ref s1)])
      refine own_go (fun t k => XS.iload X32.here hx rfl (hb hby at_115) rfl k) ?_
      show own_G p e below _ T32 (mkF m 117 #[.val (.int i0), .val (.int i1), .val (.int (1 : Int32)), .val (.int (1 : Int32)), .val (.ref s1), .val (.int (0 : Int32))] [(.int (0 : Int32)), (.int (1 : Int32)), (.int (2 : Int32)), (.ref s1)])
      obtain ⟨T33, L33, v33, X33, ⟨rfl, rfl, q33⟩, st33⟩ := own_callS X32 hx hH (y := (⟨"com/example/halyard/halyard/engine/OperandStackDropPinLaw", "slot", "(Lcom/example/halyard/halyard/engine/OperandStack;III)Z"⟩ : MethodName)) hown (hw _ (List.mem_of_getElem? (i := 34) rfl)) (hw _ (List.mem_of_getElem? (i := 35) rfl)) (hw _ (List.mem_of_getElem? (i := 36) rfl)) (hw _ (List.mem_of_getElem? (i := 37) rfl)) (by decide) (c_slot_a l Z a0 hw s1 (2 : Int32) (1 : Int32) (0 : Int32) T32.heap (by decide)) rfl (argsL := [(.ref s1), (.int (2 : Int32)), (.int (1 : Int32)), (.int (0 : Int32))]) (rest := []) (g := (mkF m 117 #[.val (.int i0), .val (.int i1), .val (.int (1 : Int32)), .val (.int (1 : Int32)), .val (.ref s1), .val (.int (0 : Int32))] [(.int (0 : Int32)), (.int (1 : Int32)), (.int (2 : Int32)), (.ref s1)])) rfl (by rw [hml]; rfl) (ps := [(.object "com/example/halyard/halyard/engine/OperandStack"), .int, .int, .int]) (r := (some .boolean)) (by decide +kernel) rfl rfl (W := 0) (by show 2 * 0 + _ ≤ _; exact Nat.le_of_eq rfl) (hb hby at_117) (by decide) (by decide) (by decide) (by decide)
      have x33 := own_ext_trans x32 q33
      have S33 := own_ST_ext q33 S32
      have N33 := Fr.app N32 (Fr.nil n0)
      refine own_go st33 ?_
      show own_G p e below _ T33 (mkF m 120 #[.val (.int i0), .val (.int i1), .val (.int (1 : Int32)), .val (.int (1 : Int32)), .val (.ref s1), .val (.int (0 : Int32))] [(.int (1 : Int32))])
      refine own_go (fun t k => XS.ifNo X33.here hx rfl (hb hby at_120) rfl (by decide) k) ?_
      show own_G p e below _ T33 (mkF m 123 #[.val (.int i0), .val (.int i1), .val (.int (1 : Int32)), .val (.int (1 : Int32)), .val (.ref s1), .val (.int (0 : Int32))] [])
      refine own_go (fun t k => XS.aload X33.here hx rfl (hb hby at_123) rfl rfl k) ?_
      show own_G p e below _ T33 (mkF m 125 #[.val (.int i0), .val (.int i1), .val (.int (1 : Int32)), .val (.int (1 : Int32)), .val (.ref s1), .val (.int (0 : Int32))] [(.ref s1)])
      refine own_go (fun t k => XS.iconst X33.here hx rfl (hb hby at_125) k) ?_
      show own_G p e below _ T33 (mkF m 126 #[.val (.int i0), .val (.int i1), .val (.int (1 : Int32)), .val (.int (1 : Int32)), .val (.ref s1), .val (.int (0 : Int32))] [(.int (3 : Int32)), (.ref s1)])
      refine own_go (fun t k => XS.iloadN X33.here hx rfl (hb hby at_126) rfl k) ?_
      show own_G p e below _ T33 (mkF m 127 #[.val (.int i0), .val (.int i1), .val (.int (1 : Int32)), .val (.int (1 : Int32)), .val (.ref s1), .val (.int (0 : Int32))] [(.int (1 : Int32)), (.int (3 : Int32)), (.ref s1)])
      refine own_go (fun t k => XS.iload X33.here hx rfl (hb hby at_127) rfl k) ?_
      show own_G p e below _ T33 (mkF m 129 #[.val (.int i0), .val (.int i1), .val (.int (1 : Int32)), .val (.int (1 : Int32)), .val (.ref s1), .val (.int (0 : Int32))] [(.int (0 : Int32)), (.int (1 : Int32)), (.int (3 : Int32)), (.ref s1)])
      obtain ⟨T34, L34, v34, X34, ⟨rfl, rfl, q34⟩, st34⟩ := own_callS X33 hx hH (y := (⟨"com/example/halyard/halyard/engine/OperandStackDropPinLaw", "slot", "(Lcom/example/halyard/halyard/engine/OperandStack;III)Z"⟩ : MethodName)) hown (hw _ (List.mem_of_getElem? (i := 34) rfl)) (hw _ (List.mem_of_getElem? (i := 35) rfl)) (hw _ (List.mem_of_getElem? (i := 36) rfl)) (hw _ (List.mem_of_getElem? (i := 37) rfl)) (by decide) (c_slot_a l Z a0 hw s1 (3 : Int32) (1 : Int32) (0 : Int32) T33.heap (by decide)) rfl (argsL := [(.ref s1), (.int (3 : Int32)), (.int (1 : Int32)), (.int (0 : Int32))]) (rest := []) (g := (mkF m 129 #[.val (.int i0), .val (.int i1), .val (.int (1 : Int32)), .val (.int (1 : Int32)), .val (.ref s1), .val (.int (0 : Int32))] [(.int (0 : Int32)), (.int (1 : Int32)), (.int (3 : Int32)), (.ref s1)])) rfl (by rw [hml]; rfl) (ps := [(.object "com/example/halyard/halyard/engine/OperandStack"), .int, .int, .int]) (r := (some .boolean)) (by decide +kernel) rfl rfl (W := 0) (by show 2 * 0 + _ ≤ _; exact Nat.le_of_eq rfl) (hb hby at_129) (by decide) (by decide) (by decide) (by decide)
      have x34 := own_ext_trans x33 q34
      have S34 := own_ST_ext q34 S33
      have N34 := Fr.app N33 (Fr.nil n0)
      refine own_go st34 ?_
      show own_G p e below _ T34 (mkF m 132 #[.val (.int i0), .val (.int i1), .val (.int (1 : Int32)), .val (.int (1 : Int32)), .val (.ref s1), .val (.int (0 : Int32))] [(.int (1 : Int32))])
      refine own_go (fun t k => XS.ifNo X34.here hx rfl (hb hby at_132) rfl (by decide) k) ?_
      show own_G p e below _ T34 (mkF m 135 #[.val (.int i0), .val (.int i1), .val (.int (1 : Int32)), .val (.int (1 : Int32)), .val (.ref s1), .val (.int (0 : Int32))] [])
      refine own_go (fun t k => XS.iconst X34.here hx rfl (hb hby at_135) k) ?_
      show own_G p e below _ T34 (mkF m 136 #[.val (.int i0), .val (.int i1), .val (.int (1 : Int32)), .val (.int (1 : Int32)), .val (.ref s1), .val (.int (0 : Int32))] [(.int (1 : Int32))])
      refine own_go (fun t k => XS.goto X34.here hx rfl (pc0 := 136) (pc' := 140) rfl (hb hby at_136) (by decide) (by decide) k) ?_
      show own_G p e below _ T34 (mkF m 140 #[.val (.int i0), .val (.int i1), .val (.int (1 : Int32)), .val (.int (1 : Int32)), .val (.ref s1), .val (.int (0 : Int32))] [(.int (1 : Int32))])
      exact own_retN X34 hx hlk hret (by simp) (hb hby at_140) (by decide) (by decide) ⟨rfl, N34⟩
  · rw [hk1]
    show own_G p e below _ T0 (mkF m 6 #[.val (.int i0), .val (.int i1), .unset, .unset, .unset, .unset] [(.int (2 : Int32))])
    refine own_go (fun t k => XS.istoreN X0.here hx rfl (hb hby at_6) rfl (l' := #[.val (.int i0), .val (.int i1), .val (.int (2 : Int32)), .unset, .unset, .unset]) rfl k) ?_
    show own_G p e below _ T0 (mkF m 7 #[.val (.int i0), .val (.int i1), .val (.int (2 : Int32)), .unset, .unset, .unset] [])
    refine own_go (fun t k => XS.iloadN X0.here hx rfl (hb hby at_7) rfl k) ?_
    show own_G p e below _ T0 (mkF m 8 #[.val (.int i0), .val (.int i1), .val (.int (2 : Int32)), .unset, .unset, .unset] [(.int i1)])
    refine own_go (X0.ldcInt hx hown (mvT hZ (hw _ (List.mem_of_getElem? (i := 0) rfl))) (g := (mkF m 8 #[.val (.int i0), .val (.int i1), .val (.int (2 : Int32)), .unset, .unset, .unset] [(.int i1)])) rfl (hb hby at_8)) ?_
    show own_G p e below _ T0 (mkF m 10 #[.val (.int i0), .val (.int i1), .val (.int (2 : Int32)), .unset, .unset, .unset] [(.int (2147483647 : Int32)), (.int i1)])
    refine own_go (fun t k => XS.iand X0.here hx rfl (hb hby at_10) rfl k) ?_
    show own_G p e below _ T0 (mkF m 11 #[.val (.int i0), .val (.int i1), .val (.int (2 : Int32)), .unset, .unset, .unset] [(.int (i1 &&& (2147483647 : Int32)))])
    refine own_go (fun t k => XS.iloadN X0.here hx rfl (hb hby at_11) rfl k) ?_
    show own_G p e below _ T0 (mkF m 12 #[.val (.int i0), .val (.int i1), .val (.int (2 : Int32)), .unset, .unset, .unset] [(.int (2 : Int32)), (.int (i1 &&& (2147483647 : Int32)))])
    refine own_go (fun t k => XS.iconst X0.here hx rfl (hb hby at_12) k) ?_
    show own_G p e below _ T0 (mkF m 13 #[.val (.int i0), .val (.int i1), .val (.int (2 : Int32)), .unset, .unset, .unset] [(.int (1 : Int32)), (.int (2 : Int32)), (.int (i1 &&& (2147483647 : Int32)))])
    refine own_go (fun t k => XS.iadd X0.here hx rfl (hb hby at_13) rfl k) ?_
    show own_G p e below _ T0 (mkF m 14 #[.val (.int i0), .val (.int i1), .val (.int (2 : Int32)), .unset, .unset, .unset] [(.int (3 : Int32)), (.int (i1 &&& (2147483647 : Int32)))])
    refine own_go (fun t k => iremM X0 hx rfl (hb hby at_14) rfl (by decide) k) ?_
    show own_G p e below _ T0 (mkF m 15 #[.val (.int i0), .val (.int i1), .val (.int (2 : Int32)), .unset, .unset, .unset] [(.int ((i1 &&& (2147483647 : Int32)) % (3 : Int32)))])
    rcases (own_l3 _ (own_rem _ 3 (own_mask i1) (by decide)).1 (Int.lt_add_one_iff.mp (own_rem _ 3 (own_mask i1) (by decide)).2)) with hk35 | hk35 | hk35
    · rw [hk35]
      show own_G p e below _ T0 (mkF m 15 #[.val (.int i0), .val (.int i1), .val (.int (2 : Int32)), .unset, .unset, .unset] [(.int (0 : Int32))])
      refine own_go (fun t k => XS.istoreN X0.here hx rfl (hb hby at_15) rfl (l' := #[.val (.int i0), .val (.int i1), .val (.int (2 : Int32)), .val (.int (0 : Int32)), .unset, .unset]) rfl k) ?_
      show own_G p e below _ T0 (mkF m 16 #[.val (.int i0), .val (.int i1), .val (.int (2 : Int32)), .val (.int (0 : Int32)), .unset, .unset] [])
      obtain ⟨T36, h36, X36, e36, E36, A36, D36, -, st36⟩ := newO X0 hx hZ hown (hw _ (List.mem_of_getElem? (i := 1) rfl)) (hw _ (List.mem_of_getElem? (i := 2) rfl)) (hw _ (List.mem_of_getElem? (i := 3) rfl)) e0 (g := (mkF m 16 #[.val (.int i0), .val (.int i1), .val (.int (2 : Int32)), .val (.int (0 : Int32)), .unset, .unset] [])) rfl (hb hby at_16) (by decide) (by decide)
      obtain ⟨s1, gs⟩ : ∃ z, z = h0.size := ⟨_, rfl⟩
      rw [← gs] at A36 D36 st36
      have F1 : Fld Z h36 s1 own_K "values" "[Ljava/lang/Object;" .null := D36 (Or.inl (hw _ (List.mem_of_getElem? (i := 13) rfl))) (ty := .array (.object "java/lang/Object")) (by decide +kernel)
      have F2 : Fld Z h36 s1 own_K "size" "I" (.int (0 : Int32)) := D36 (Or.inl (hw _ (List.mem_of_getElem? (i := 27) rfl))) (ty := .int) (by decide)
      have x36 : Ext h0 h36 := E36
      have js : h0.size ≤ s1 := Nat.le_of_eq gs.symm
      have g1 : n0 ≤ s1 := Nat.le_trans Z0 js
      refine own_go st36 ?_
      show own_G p e below _ T36 (mkF m 19 #[.val (.int i0), .val (.int i1), .val (.int (2 : Int32)), .val (.int (0 : Int32)), .unset, .unset] [(.ref s1)])
      refine own_go (fun t k => XS.dup X36.here hx rfl (hb hby at_19) rfl rfl k) ?_
      show own_G p e below _ T36 (mkF m 20 #[.val (.int i0), .val (.int i1), .val (.int (2 : Int32)), .val (.int (0 : Int32)), .unset, .unset] [(.ref s1), (.ref s1)])
      obtain ⟨T37, L37, v37, X37, ⟨rfl, Nq37, Kq37, Sq37⟩, st37⟩ := own_callN X36 hx hH (y := (⟨"com/example/halyard/halyard/engine/OperandStack", "<init>", "()V"⟩ : MethodName)) rfl hown (hw _ (List.mem_of_getElem? (i := 4) rfl)) (hw _ (List.mem_of_getElem? (i := 5) rfl)) (hw _ (List.mem_of_getElem? (i := 6) rfl)) (hw _ (List.mem_of_getElem? (i := 3) rfl)) (by decide) (c_init l Z a0 hw s1 h36 n0 (Nat.le_trans Z0 x36.1) A36 F1 F2 g1) e36 (argsL := []) (rest := [(.ref s1)]) (g := (mkF m 20 #[.val (.int i0), .val (.int i1), .val (.int (2 : Int32)), .val (.int (0 : Int32)), .unset, .unset] [(.ref s1), (.ref s1)])) rfl (by rw [hml]; rfl) (ps := []) (r := none) (by decide +kernel) rfl rfl (W := 1) (by show 2 * 0 + _ ≤ _; exact Nat.le_of_eq rfl) (hb hby at_20) (by decide) (by decide) (by decide) (by decide)
      obtain ⟨ar, ga⟩ : ∃ z, z = h36.size := ⟨_, rfl⟩
      rw [← ga] at Sq37
      have ja : h0.size ≤ ar := Nat.le_trans x36.1 (Nat.le_of_eq ga.symm)
      have g2 : n0 ≤ ar := Nat.le_trans Z0 ja
      have x37 := own_ext_keep x36 Kq37 (allS js all0)
      have N37 := Fr.app N0 Nq37
      refine own_go st37 ?_
      show own_G p e below _ T37 (mkF m 23 #[.val (.int i0), .val (.int i1), .val (.int (2 : Int32)), .val (.int (0 : Int32)), .unset, .unset] [(.ref s1)])
      refine own_go (fun t k => XS.astore X37.here hx rfl (hb hby at_23) rfl rfl (l' := #[.val (.int i0), .val (.int i1), .val (.int (2 : Int32)), .val (.int (0 : Int32)), .val (.ref s1), .unset]) rfl k) ?_
      show own_G p e below _ T37 (mkF m 25 #[.val (.int i0), .val (.int i1), .val (.int (2 : Int32)), .val (.int (0 : Int32)), .val (.ref s1), .unset] [])
      refine own_go (fun t k => XS.aload X37.here hx rfl (hb hby at_25) rfl rfl k) ?_
      show own_G p e below _ T37 (mkF m 27 #[.val (.int i0), .val (.int i1), .val (.int (2 : Int32)), .val (.int (0 : Int32)), .val (.ref s1), .unset] [(.ref s1)])
      refine own_go (fun t k => XS.iconst X37.here hx rfl (hb hby at_27) k) ?_
      show own_G p e below _ T37 (mkF m 28 #[.val (.int i0), .val (.int i1), .val (.int (2 : Int32)), .val (.int (0 : Int32)), .val (.ref s1), .unset] [(.int (0 : Int32)), (.ref s1)])
      obtain ⟨T38, L38, v38, X38, ⟨rfl, rfl, q38⟩, st38⟩ := own_callS X37 hx hH (y := (⟨"java/lang/Integer", "valueOf", "(I)Ljava/lang/Integer;"⟩ : MethodName)) hown (hw _ (List.mem_of_getElem? (i := 14) rfl)) (hw _ (List.mem_of_getElem? (i := 15) rfl)) (hw _ (List.mem_of_getElem? (i := 16) rfl)) (hw _ (List.mem_of_getElem? (i := 17) rfl)) (by decide) (c_valueOf_0 l Z a0 hw ac r0 r1 r2 r3 clc T37.heap (own_B_ext x37 B)) rfl (argsL := [(.int (0 : Int32))]) (rest := [(.ref s1)]) (g := (mkF m 28 #[.val (.int i0), .val (.int i1), .val (.int (2 : Int32)), .val (.int (0 : Int32)), .val (.ref s1), .unset] [(.int (0 : Int32)), (.ref s1)])) rfl (by rw [hml]; rfl) (ps := [.int]) (r := (some (.object "java/lang/Integer"))) (by decide +kernel) rfl rfl (W := 1) (by show 2 * 0 + _ ≤ _; exact Nat.le_of_eq rfl) (hb hby at_28) (by decide) (by decide) (by decide) (by decide)
      have N38 := Fr.app N37 (Fr.nil n0)
      refine own_go st38 ?_
      show own_G p e below _ T38 (mkF m 31 #[.val (.int i0), .val (.int i1), .val (.int (2 : Int32)), .val (.int (0 : Int32)), .val (.ref s1), .unset] [(.ref r0), (.ref s1)])
      obtain ⟨T39, L39, v39, X39, ⟨rfl, Nq39, Kq39, Sq39⟩, st39⟩ := own_callV X38 hx hH (y := (⟨"com/example/halyard/halyard/engine/OperandStack", "push", "(Ljava/lang/Object;)V"⟩ : MethodName)) (z := (⟨"com/example/halyard/halyard/engine/OperandStack", "push", "(Ljava/lang/Object;)V"⟩ : MethodName)) hown (hw _ (List.mem_of_getElem? (i := 21) rfl)) (hw _ (List.mem_of_getElem? (i := 22) rfl)) (hw _ (List.mem_of_getElem? (i := 24) rfl)) (hw _ (List.mem_of_getElem? (i := 24) rfl)) (hw _ (List.mem_of_getElem? (i := 23) rfl)) (hw _ (List.mem_of_getElem? (i := 25) rfl)) (hw _ (List.mem_of_getElem? (i := 3) rfl)) (notFace_of_selects (args := #[]) (mvT hZ (hw _ (List.mem_of_getElem? (i := 24) rfl)))) (by decide) (c_push_0A l Z a0 hw s1 ar r0 .null .null .null .null T37.heap n0 (Nat.le_trans Z0 x37.1) Sq37 (own_ST_sto Sq37 (Ins.of_exa (E_0.ext x37) (hw _ (List.mem_of_getElem? (i := 28) rfl)))) g1 g2) q38 Sq37.1 (argsL := [(.ref r0)]) (rest := []) (g := (mkF m 31 #[.val (.int i0), .val (.int i1), .val (.int (2 : Int32)), .val (.int (0 : Int32)), .val (.ref s1), .unset] [(.ref r0), (.ref s1)])) rfl (by rw [hml]; rfl) (ps := [(.object "java/lang/Object")]) (r := none) (by decide +kernel) rfl rfl (W := 0) (by show 2 * 0 + _ ≤ _; exact Nat.le_of_eq rfl) (hb hby at_31) (by decide) (by decide) (by decide) (by decide)
      have x39 := own_ext_keep x37 Kq39 (allS js (allS ja all0))
      have N39 := Fr.app N38 Nq39
      refine own_go st39 ?_
      show own_G p e below _ T39 (mkF m 34 #[.val (.int i0), .val (.int i1), .val (.int (2 : Int32)), .val (.int (0 : Int32)), .val (.ref s1), .unset] [])
      refine own_go (fun t k => XS.iloadN X39.here hx rfl (hb hby at_34) rfl k) ?_
      show own_G p e below _ T39 (mkF m 35 #[.val (.int i0), .val (.int i1), .val (.int (2 : Int32)), .val (.int (0 : Int32)), .val (.ref s1), .unset] [(.int (2 : Int32))])
      refine own_go (fun t k => XS.iconst X39.here hx rfl (hb hby at_35) k) ?_
      show own_G p e below _ T39 (mkF m 36 #[.val (.int i0), .val (.int i1), .val (.int (2 : Int32)), .val (.int (0 : Int32)), .val (.ref s1), .unset] [(.int (1 : Int32)), (.int (2 : Int32))])
      refine own_go (fun t k => XS.icmpNo X39.here hx rfl (hb hby at_36) rfl (by decide) k) ?_
      show own_G p e below _ T39 (mkF m 39 #[.val (.int i0), .val (.int i1), .val (.int (2 : Int32)), .val (.int (0 : Int32)), .val (.ref s1), .unset] [])
      refine own_go (fun t k => XS.aload X39.here hx rfl (hb hby at_39) rfl rfl k) ?_
      show own_G p e below _ T39 (mkF m 41 #[.val (.int i0), .val (.int i1), .val (.int (2 : Int32)), .val (.int (0 : Int32)), .val (.ref s1), .unset] [(.ref s1)])
      refine own_go (fun t k => XS.iconst X39.here hx rfl (hb hby at_41) k) ?_
      show own_G p e below _ T39 (mkF m 42 #[.val (.int i0), .val (.int i1), .val (.int (2 : Int32)), .val (.int (0 : Int32)), .val (.ref s1), .unset] [(.int (1 : Int32)), (.ref s1)])
      obtain ⟨T40, L40, v40, X40, ⟨rfl, rfl, q40⟩, st40⟩ := own_callS X39 hx hH (y := (⟨"java/lang/Integer", "valueOf", "(I)Ljava/lang/Integer;"⟩ : MethodName)) hown (hw _ (List.mem_of_getElem? (i := 14) rfl)) (hw _ (List.mem_of_getElem? (i := 15) rfl)) (hw _ (List.mem_of_getElem? (i := 16) rfl)) (hw _ (List.mem_of_getElem? (i := 17) rfl)) (by decide) (c_valueOf_1 l Z a0 hw ac r0 r1 r2 r3 clc T39.heap (own_B_ext x39 B)) rfl (argsL := [(.int (1 : Int32))]) (rest := [(.ref s1)]) (g := (mkF m 42 #[.val (.int i0), .val (.int i1), .val (.int (2 : Int32)), .val (.int (0 : Int32)), .val (.ref s1), .unset] [(.int (1 : Int32)), (.ref s1)])) rfl (by rw [hml]; rfl) (ps := [.int]) (r := (some (.object "java/lang/Integer"))) (by decide +kernel) rfl rfl (W := 1) (by show 2 * 0 + _ ≤ _; exact Nat.le_of_eq rfl) (hb hby at_42) (by decide) (by decide) (by decide) (by decide)
      have N40 := Fr.app N39 (Fr.nil n0)
      refine own_go st40 ?_
      show own_G p e below _ T40 (mkF m 45 #[.val (.int i0), .val (.int i1), .val (.int (2 : Int32)), .val (.int (0 : Int32)), .val (.ref s1), .unset] [(.ref r1), (.ref s1)])
      obtain ⟨T41, L41, v41, X41, ⟨rfl, Nq41, Kq41, Sq41⟩, st41⟩ := own_callV X40 hx hH (y := (⟨"com/example/halyard/halyard/engine/OperandStack", "push", "(Ljava/lang/Object;)V"⟩ : MethodName)) (z := (⟨"com/example/halyard/halyard/engine/OperandStack", "push", "(Ljava/lang/Object;)V"⟩ : MethodName)) hown (hw _ (List.mem_of_getElem? (i := 21) rfl)) (hw _ (List.mem_of_getElem? (i := 22) rfl)) (hw _ (List.mem_of_getElem? (i := 24) rfl)) (hw _ (List.mem_of_getElem? (i := 24) rfl)) (hw _ (List.mem_of_getElem? (i := 23) rfl)) (hw _ (List.mem_of_getElem? (i := 25) rfl)) (hw _ (List.mem_of_getElem? (i := 3) rfl)) (notFace_of_selects (args := #[]) (mvT hZ (hw _ (List.mem_of_getElem? (i := 24) rfl)))) (by decide) (c_push_1A l Z a0 hw s1 ar r1 (.ref r0) .null .null .null T39.heap n0 (Nat.le_trans Z0 x39.1) Sq39 (own_ST_sto Sq39 (Ins.of_exa (E_1.ext x39) (hw _ (List.mem_of_getElem? (i := 28) rfl)))) g1 g2) q40 Sq39.1 (argsL := [(.ref r1)]) (rest := []) (g := (mkF m 45 #[.val (.int i0), .val (.int i1), .val (.int (2 : Int32)), .val (.int (0 : Int32)), .val (.ref s1), .unset] [(.ref r1), (.ref s1)])) rfl (by rw [hml]; rfl) (ps := [(.object "java/lang/Object")]) (r := none) (by decide +kernel) rfl rfl (W := 0) (by show 2 * 0 + _ ≤ _; exact Nat.le_of_eq rfl) (hb hby at_45) (by decide) (by decide) (by decide) (by decide)
      have x41 := own_ext_keep x39 Kq41 (allS js (allS ja all0))
      have N41 := Fr.app N40 Nq41
      refine own_go st41 ?_
      show own_G p e below _ T41 (mkF m 48 #[.val (.int i0), .val (.int i1), .val (.int (2 : Int32)), .val (.int (0 : Int32)), .val (.ref s1), .unset] [])
      refine own_go (fun t k => XS.iloadN X41.here hx rfl (hb hby at_48) rfl k) ?_
      show own_G p e below _ T41 (mkF m 49 #[.val (.int i0), .val (.int i1), .val (.int (2 : Int32)), .val (.int (0 : Int32)), .val (.ref s1), .unset] [(.int (2 : Int32))])
      refine own_go (fun t k => XS.iconst X41.here hx rfl (hb hby at_49) k) ?_
      show own_G p e below _ T41 (mkF m 50 #[.val (.int i0), .val (.int i1), .val (.int (2 : Int32)), .val (.int (0 : Int32)), .val (.ref s1), .unset] [(.int (2 : Int32)), (.int (2 : Int32))])
      refine own_go (fun t k => XS.icmpNo X41.here hx rfl (hb hby at_50) rfl (by decide) k) ?_
      show own_G p e below _ T41 (mkF m 53 #[.val (.int i0), .val (.int i1), .val (.int (2 : Int32)), .val (.int (0 : Int32)), .val (.ref s1), .unset] [])
      refine own_go (fun t k => XS.aload X41.here hx rfl (hb hby at_53) rfl rfl k) ?_
      show own_G p e below _ T41 (mkF m 55 #[.val (.int i0), .val (.int i1), .val (.int (2 : Int32)), .val (.int (0 : Int32)), .val (.ref s1), .unset] [(.ref s1)])
      refine own_go (fun t k => XS.iconst X41.here hx rfl (hb hby at_55) k) ?_
      show own_G p e below _ T41 (mkF m 56 #[.val (.int i0), .val (.int i1), .val (.int (2 : Int32)), .val (.int (0 : Int32)), .val (.ref s1), .unset] [(.int (2 : Int32)), (.ref s1)])
      obtain ⟨T42, L42, v42, X42, ⟨rfl, rfl, q42⟩, st42⟩ := own_callS X41 hx hH (y := (⟨"java/lang/Integer", "valueOf", "(I)Ljava/lang/Integer;"⟩ : MethodName)) hown (hw _ (List.mem_of_getElem? (i := 14) rfl)) (hw _ (List.mem_of_getElem? (i := 15) rfl)) (hw _ (List.mem_of_getElem? (i := 16) rfl)) (hw _ (List.mem_of_getElem? (i := 17) rfl)) (by decide) (c_valueOf_2 l Z a0 hw ac r0 r1 r2 r3 clc T41.heap (own_B_ext x41 B)) rfl (argsL := [(.int (2 : Int32))]) (rest := [(.ref s1)]) (g := (mkF m 56 #[.val (.int i0), .val (.int i1), .val (.int (2 : Int32)), .val (.int (0 : Int32)), .val (.ref s1), .unset] [(.int (2 : Int32)), (.ref s1)])) rfl (by rw [hml]; rfl) (ps := [.int]) (r := (some (.object "java/lang/Integer"))) (by decide +kernel) rfl rfl (W := 1) (by show 2 * 0 + _ ≤ _; exact Nat.le_of_eq rfl) (hb hby at_56) (by decide) (by decide) (by decide) (by decide)
      have N42 := Fr.app N41 (Fr.nil n0)
      refine own_go st42 ?_
      show own_G p e below _ T42 (mkF m 59 #[.val (.int i0), .val (.int i1), .val (.int (2 : Int32)), .val (.int (0 : Int32)), .val (.ref s1), .unset] [(.ref r2), (.ref s1)])
      obtain ⟨T43, L43, v43, X43, ⟨rfl, Nq43, Kq43, Sq43⟩, st43⟩ := own_callV X42 hx hH (y := (⟨"com/example/halyard/halyard/engine/OperandStack", "push", "(Ljava/lang/Object;)V"⟩ : MethodName)) (z := (⟨"com/example/halyard/halyard/engine/OperandStack", "push", "(Ljava/lang/Object;)V"⟩ : MethodName)) hown (hw _ (List.mem_of_getElem? (i := 21) rfl)) (hw _ (List.mem_of_getElem? (i := 22) rfl)) (hw _ (List.mem_of_getElem? (i := 24) rfl)) (hw _ (List.mem_of_getElem? (i := 24) rfl)) (hw _ (List.mem_of_getElem? (i := 23) rfl)) (hw _ (List.mem_of_getElem? (i := 25) rfl)) (hw _ (List.mem_of_getElem? (i := 3) rfl)) (notFace_of_selects (args := #[]) (mvT hZ (hw _ (List.mem_of_getElem? (i := 24) rfl)))) (by decide) (c_push_2A l Z a0 hw s1 ar r2 (.ref r0) (.ref r1) .null .null T41.heap n0 (Nat.le_trans Z0 x41.1) Sq41 (own_ST_sto Sq41 (Ins.of_exa (E_2.ext x41) (hw _ (List.mem_of_getElem? (i := 28) rfl)))) g1 g2) q42 Sq41.1 (argsL := [(.ref r2)]) (rest := []) (g := (mkF m 59 #[.val (.int i0), .val (.int i1), .val (.int (2 : Int32)), .val (.int (0 : Int32)), .val (.ref s1), .unset] [(.ref r2), (.ref s1)])) rfl (by rw [hml]; rfl) (ps := [(.object "java/lang/Object")]) (r := none) (by decide +kernel) rfl rfl (W := 0) (by show 2 * 0 + _ ≤ _; exact Nat.le_of_eq rfl) (hb hby at_59) (by decide) (by decide) (by decide) (by decide)
      have x43 := own_ext_keep x41 Kq43 (allS js (allS ja all0))
      have N43 := Fr.app N42 Nq43
      refine own_go st43 ?_
      show own_G p e below _ T43 (mkF m 62 #[.val (.int i0), .val (.int i1), .val (.int (2 : Int32)), .val (.int (0 : Int32)), .val (.ref s1), .unset] [])
      refine own_go (fun t k => XS.iloadN X43.here hx rfl (hb hby at_62) rfl k) ?_
      show own_G p e below _ T43 (mkF m 63 #[.val (.int i0), .val (.int i1), .val (.int (2 : Int32)), .val (.int (0 : Int32)), .val (.ref s1), .unset] [(.int (2 : Int32))])
      refine own_go (fun t k => XS.iconst X43.here hx rfl (hb hby at_63) k) ?_
      show own_G p e below _ T43 (mkF m 64 #[.val (.int i0), .val (.int i1), .val (.int (2 : Int32)), .val (.int (0 : Int32)), .val (.ref s1), .unset] [(.int (3 : Int32)), (.int (2 : Int32))])
      refine own_go (fun t k => XS.icmpYes X43.here hx rfl (pc0 := 64) (pc' := 76) rfl (hb hby at_64) rfl (by decide) (by decide) (by decide) k) ?_
      show own_G p e below _ T43 (mkF m 76 #[.val (.int i0), .val (.int i1), .val (.int (2 : Int32)), .val (.int (0 : Int32)), .val (.ref s1), .unset] [])
      refine own_go (fun t k => XS.aload X43.here hx rfl (hb hby at_76) rfl rfl k) ?_
      show own_G p e below _ T43 (mkF m 78 #[.val (.int i0), .val (.int i1), .val (.int (2 : Int32)), .val (.int (0 : Int32)), .val (.ref s1), .unset] [(.ref s1)])
      refine own_go (fun t k => XS.iloadN X43.here hx rfl (hb hby at_78) rfl k) ?_
      show own_G p e below _ T43 (mkF m 79 #[.val (.int i0), .val (.int i1), .val (.int (2 : Int32)), .val (.int (0 : Int32)), .val (.ref s1), .unset] [(.int (0 : Int32)), (.ref s1)])
      obtain ⟨T44, L44, v44, X44, ⟨rfl, Nq44, Kq44, Sq44⟩, st44⟩ := own_callV X43 hx hH (y := (⟨"com/example/halyard/halyard/engine/OperandStack", "drop", "(I)V"⟩ : MethodName)) (z := (⟨"com/example/halyard/halyard/engine/OperandStack", "drop", "(I)V"⟩ : MethodName)) hown (hw _ (List.mem_of_getElem? (i := 29) rfl)) (hw _ (List.mem_of_getElem? (i := 30) rfl)) (hw _ (List.mem_of_getElem? (i := 32) rfl)) (hw _ (List.mem_of_getElem? (i := 32) rfl)) (hw _ (List.mem_of_getElem? (i := 31) rfl)) (hw _ (List.mem_of_getElem? (i := 33) rfl)) (hw _ (List.mem_of_getElem? (i := 3) rfl)) (notFace_of_selects (args := #[]) (mvT hZ (hw _ (List.mem_of_getElem? (i := 32) rfl)))) (by decide) (c_drop_3_0 l Z a0 hw s1 ar (.ref r0) (.ref r1) (.ref r2) .null T43.heap n0 (Nat.le_trans Z0 x43.1) Sq43 g1 g2) rfl Sq43.1 (argsL := [(.int (0 : Int32))]) (rest := []) (g := (mkF m 79 #[.val (.int i0), .val (.int i1), .val (.int (2 : Int32)), .val (.int (0 : Int32)), .val (.ref s1), .unset] [(.int (0 : Int32)), (.ref s1)])) rfl (by rw [hml]; rfl) (ps := [.int]) (r := none) (by decide +kernel) rfl rfl (W := 0) (by show 2 * 0 + _ ≤ _; exact Nat.le_of_eq rfl) (hb hby at_79) (by decide) (by decide) (by decide) (by decide)
      have x44 := own_ext_keep x43 Kq44 (allS js (allS ja all0))
      have N44 := Fr.app N43 Nq44
      refine own_go st44 ?_
      show own_G p e below _ T44 (mkF m 82 #[.val (.int i0), .val (.int i1), .val (.int (2 : Int32)), .val (.int (0 : Int32)), .val (.ref s1), .unset] [])
      refine own_go (fun t k => XS.iloadN X44.here hx rfl (hb hby at_82) rfl k) ?_
      show own_G p e below _ T44 (mkF m 83 #[.val (.int i0), .val (.int i1), .val (.int (2 : Int32)), .val (.int (0 : Int32)), .val (.ref s1), .unset] [(.int (2 : Int32))])
      refine own_go (fun t k => XS.iloadN X44.here hx rfl (hb hby at_83) rfl k) ?_
      show own_G p e below _ T44 (mkF m 84 #[.val (.int i0), .val (.int i1), .val (.int (2 : Int32)), .val (.int (0 : Int32)), .val (.ref s1), .unset] [(.int (0 : Int32)), (.int (2 : Int32))])
      refine own_go (fun t k => XS.isub X44.here hx rfl (hb hby at_84) rfl k) ?_
      show own_G p e below _ T44 (mkF m 85 #[.val (.int i0), .val (.int i1), .val (.int (2 : Int32)), .val (.int (0 : Int32)), .val (.ref s1), .unset] [(.int (2 : Int32))])
      refine own_go (fun t k => XS.istore X44.here hx rfl (hb hby at_85) rfl (l' := #[.val (.int i0), .val (.int i1), .val (.int (2 : Int32)), .val (.int (0 : Int32)), .val (.ref s1), .val (.int (2 : Int32))]) rfl k) ?_
      show own_G p e below _ T44 (mkF m 87 #[.val (.int i0), .val (.int i1), .val (.int (2 : Int32)), .val (.int (0 : Int32)), .val (.ref s1), .val (.int (2 : Int32))] [])
      refine own_go (fun t k => XS.aload X44.here hx rfl (hb hby at_87) rfl rfl k) ?_
      show own_G p e below _ T44 (mkF m 89 #[.val (.int i0), .val (.int i1), .val (.int (2 : Int32)), .val (.int (0 : Int32)), .val (.ref s1), .val (.int (2 : Int32))] [(.ref s1)])
      refine own_go (fun t k => XS.iconst X44.here hx rfl (hb hby at_89) k) ?_
      show own_G p e below _ T44 (mkF m 90 #[.val (.int i0), .val (.int i1), .val (.int (2 : Int32)), .val (.int (0 : Int32)), .val (.ref s1), .val (.int (2 : Int32))] [(.int (0 : Int32)), (.ref s1)])
      refine own_go (fun t k => XS.iloadN X44.here hx rfl (hb hby at_90) rfl k) ?_
      show own_G p e below _ T44 (mkF m 91 #[.val (.int i0), .val (.int i1), .val (.int (2 : Int32)), .val (.int (0 : Int32)), .val (.ref s1), .val (.int (2 : Int32))] [(.int (2 : Int32)), (.int (0 : Int32)), (.ref s1)])
      refine own_go (fun t k => XS.iload X44.here hx rfl (hb hby at_91) rfl k) ?_
      show own_G p e below _ T44 (mkF m 93 #[.val (.int i0), .val (.int i1), .val (.int (2 : Int32)), .val (.int (0 : Int32)), .val (.ref s1), .val (.int (2 : Int32))] [(.int (2 : Int32)), (.int (2 : Int32)), (.int (0 : Int32)), (.ref s1)])
      obtain ⟨T45, L45, v45, X45, ⟨rfl, rfl, q45⟩, st45⟩ := own_callS X44 hx hH (y := (⟨"com/example/halyard/halyard/engine/OperandStackDropPinLaw", "slot", "(Lcom/example/halyard/halyard/engine/OperandStack;III)Z"⟩ : MethodName)) hown (hw _ (List.mem_of_getElem? (i := 34) rfl)) (hw _ (List.mem_of_getElem? (i := 35) rfl)) (hw _ (List.mem_of_getElem? (i := 36) rfl)) (hw _ (List.mem_of_getElem? (i := 37) rfl)) (by decide) (c_slot_b0 l Z a0 hw s1 (2 : Int32) (2 : Int32) ar r0 (.ref r1) (.ref r2) .null T44.heap (by decide) (by decide) Sq44 (E_0.ext x44) (F_0.ext x44)) rfl (argsL := [(.ref s1), (.int (0 : Int32)), (.int (2 : Int32)), (.int (2 : Int32))]) (rest := []) (g := (mkF m 93 #[.val (.int i0), .val (.int i1), .val (.int (2 : Int32)), .val (.int (0 : Int32)), .val (.ref s1), .val (.int (2 : Int32))] [(.int (2 : Int32)), (.int (2 : Int32)), (.int (0 : Int32)), (.ref s1)])) rfl (by rw [hml]; rfl) (ps := [(.object "com/example/halyard/halyard/engine/OperandStack"), .int, .int, .int]) (r := (some .boolean)) (by decide +kernel) rfl rfl (W := 0) (by show 2 * 0 + _ ≤ _; exact Nat.le_of_eq rfl) (hb hby at_93) (by decide) (by decide) (by decide) (by decide)
      have x45 := own_ext_trans x44 q45
      have S45 := own_ST_ext q45 Sq44
      have N45 := Fr.app N44 (Fr.nil n0)
      refine own_go st45 ?_
      show own_G p e below _ T45 (mkF m 96 #[.val (.int i0), .val (.int i1), .val (.int (2 : Int32)), .val (.int (0 : Int32)), .val (.ref s1), .val (.int (2 : Int32))] [(.int (1 : Int32))])
      refine own_go (fun t k => XS.ifNo X45.here hx rfl (hb hby at_96) rfl (by decide) k) ?_
      show own_G p e below _ T45 (mkF m 99 #[.val (.int i0), .val (.int i1), .val (.int (2 : Int32)), .val (.int (0 : Int32)), .val (.ref s1), .val (.int (2 : Int32))] [])
      refine own_go (fun t k => XS.aload X45.here hx rfl (hb hby at_99) rfl rfl k) ?_
      show own_G p e below _ T45 (mkF m 101 #[.val (.int i0), .val (.int i1), .val (.int (2 : Int32)), .val (.int (0 : Int32)), .val (.ref s1), .val (.int (2 : Int32))] [(.ref s1)])
      refine own_go (fun t k => XS.iconst X45.here hx rfl (hb hby at_101) k) ?_
      show own_G p e below _ T45 (mkF m 102 #[.val (.int i0), .val (.int i1), .val (.int (2 : Int32)), .val (.int (0 : Int32)), .val (.ref s1), .val (.int (2 : Int32))] [(.int (1 : Int32)), (.ref s1)])
      refine own_go (fun t k => XS.iloadN X45.here hx rfl (hb hby at_102) rfl k) ?_
      show own_G p e below _ T45 (mkF m 103 #[.val (.int i0), .val (.int i1), .val (.int (2 : Int32)), .val (.int (0 : Int32)), .val (.ref s1), .val (.int (2 : Int32))] [(.int (2 : Int32)), (.int (1 : Int32)), (.ref s1)])
      refine own_go (fun t k => XS.iload X45.here hx rfl (hb hby at_103) rfl k) ?_
      show own_G p e below _ T45 (mkF m 105 #[.val (.int i0), .val (.int i1), .val (.int (2 : Int32)), .val (.int (0 : Int32)), .val (.ref s1), .val (.int (2 : Int32))] [(.int (2 : Int32)), (.int (2 : Int32)), (.int (1 : Int32)), (.ref s1)])
      obtain ⟨T46, L46, v46, X46, ⟨rfl, rfl, q46⟩, st46⟩ := own_callS X45 hx hH (y := (⟨"com/example/halyard/halyard/engine/OperandStackDropPinLaw", "slot", "(Lcom/example/halyard/halyard/engine/OperandStack;III)Z"⟩ : MethodName)) hown (hw _ (List.mem_of_getElem? (i := 34) rfl)) (hw _ (List.mem_of_getElem? (i := 35) rfl)) (hw _ (List.mem_of_getElem? (i := 36) rfl)) (hw _ (List.mem_of_getElem? (i := 37) rfl)) (by decide) (c_slot_b1 l Z a0 hw s1 (2 : Int32) (2 : Int32) ar r1 (.ref r0) (.ref r2) .null T45.heap (by decide) (by decide) S45 (E_1.ext x45) (F_1.ext x45)) rfl (argsL := [(.ref s1), (.int (1 : Int32)), (.int (2 : Int32)), (.int (2 : Int32))]) (rest := []) (g := (mkF m 105 #[.val (.int i0), .val (.int i1), .val (.int (2 : Int32)), .val (.int (0 : Int32)), .val (.ref s1), .val (.int (2 : Int32))] [(.int (2 : Int32)), (.int (2 : Int32)), (.int (1 : Int32)), (.ref s1)])) rfl (by rw [hml]; rfl) (ps := [(.object "com/example/halyard/halyard/engine/OperandStack"), .int, .int, .int]) (r := (some .boolean)) (by decide +kernel) rfl rfl (W := 0) (by show 2 * 0 + _ ≤ _; exact Nat.le_of_eq rfl) (hb hby at_105) (by decide) (by decide) (by decide) (by decide)
      have x46 := own_ext_trans x45 q46
      have S46 := own_ST_ext q46 S45
      have N46 := Fr.app N45 (Fr.nil n0)
      refine own_go st46 ?_
      show own_G p e below _ T46 (mkF m 108 #[.val (.int i0), .val (.int i1), .val (.int (2 : Int32)), .val (.int (0 : Int32)), .val (.ref s1), .val (.int (2 : Int32))] [(.int (1 : Int32))])
      refine own_go (fun t k => XS.ifNo X46.here hx rfl (hb hby at_108) rfl (by decide) k) ?_
      show own_G p e below _ T46 (mkF m 111 #[.val (.int i0), .val (.int i1), .val (.int (2 : Int32)), .val (.int (0 : Int32)), .val (.ref s1), .val (.int (2 : Int32))] [])
      refine own_go (fun t k => XS.aload X46.here hx rfl (hb hby at_111) rfl rfl k) ?_
      show own_G p e below _ T46 (mkF m 113 #[.val (.int i0), .val (.int i1), .val (.int (2 : Int32)), .val (.int (0 : Int32)), .val (.ref s1), .val (.int (2 : Int32))] [(.ref s1)])
      refine own_go (fun t k => XS.iconst X46.here hx rfl (hb hby at_113) k) ?_
      show own_G p e below _ T46 (mkF m 114 #[.val (.int i0), .val (.int i1), .val (.int (2 : Int32)), .val (.int (0 : Int32)), .val (.ref s1), .val (.int (2 : Int32))] [(.int (2 : Int32)), (.ref s1)])
      refine own_go (fun t k => XS.iloadN X46.here hx rfl (hb hby at_114) rfl k) ?_
      show own_G p e below _ T46 (mkF m 115 #[.val (.int i0), .val (.int i1), .val (.int (2 : Int32)), .val (.int (0 : Int32)), .val (.ref s1), .val (.int (2 : Int32))] [(.int (2 : Int32)), (.int (2 : Int32)), (.ref s1)])
      refine own_go (fun t k => XS.iload X46.here hx rfl (hb hby at_115) rfl k) ?_
      show own_G p e below _ T46 (mkF m 117 #[.val (.int i0), .val (.int i1), .val (.int (2 : Int32)), .val (.int (0 : Int32)), .val (.ref s1), .val (.int (2 : Int32))] [(.int (2 : Int32)), (.int (2 : Int32)), (.int (2 : Int32)), (.ref s1)])
      obtain ⟨T47, L47, v47, X47, ⟨rfl, rfl, q47⟩, st47⟩ := own_callS X46 hx hH (y := (⟨"com/example/halyard/halyard/engine/OperandStackDropPinLaw", "slot", "(Lcom/example/halyard/halyard/engine/OperandStack;III)Z"⟩ : MethodName)) hown (hw _ (List.mem_of_getElem? (i := 34) rfl)) (hw _ (List.mem_of_getElem? (i := 35) rfl)) (hw _ (List.mem_of_getElem? (i := 36) rfl)) (hw _ (List.mem_of_getElem? (i := 37) rfl)) (by decide) (c_slot_b2 l Z a0 hw s1 (2 : Int32) (2 : Int32) ar r2 (.ref r0) (.ref r1) .null T46.heap (by decide) (by decide) S46 (E_2.ext x46) (F_2.ext x46)) rfl (argsL := [(.ref s1), (.int (2 : Int32)), (.int (2 : Int32)), (.int (2 : Int32))]) (rest := []) (g := (mkF m 117 #[.val (.int i0), .val (.int i1), .val (.int (2 : Int32)), .val (.int (0 : Int32)), .val (.ref s1), .val (.int (2 : Int32))] [(.int (2 : Int32)), (.int (2 : Int32)), (.int (2 : Int32)), (.ref s1)])) rfl (by rw [hml]; rfl) (ps := [(.object "com/example/halyard/halyard/engine/OperandStack"), .int, .int, .int]) (r := (some .boolean)) (by decide +kernel) rfl rfl (W := 0) (by show 2 * 0 + _ ≤ _; exact Nat.le_of_eq rfl) (hb hby at_117) (by decide) (by decide) (by decide) (by decide)
      have x47 := own_ext_trans x46 q47
      have S47 := own_ST_ext q47 S46
      have N47 := Fr.app N46 (Fr.nil n0)
      refine own_go st47 ?_
      show own_G p e below _ T47 (mkF m 120 #[.val (.int i0), .val (.int i1), .val (.int (2 : Int32)), .val (.int (0 : Int32)), .val (.ref s1), .val (.int (2 : Int32))] [(.int (1 : Int32))])
      refine own_go (fun t k => XS.ifNo X47.here hx rfl (hb hby at_120) rfl (by decide) k) ?_
      show own_G p e below _ T47 (mkF m 123 #[.val (.int i0), .val (.int i1), .val (.int (2 : Int32)), .val (.int (0 : Int32)), .val (.ref s1), .val (.int (2 : Int32))] [])
      refine own_go (fun t k => XS.aload X47.here hx rfl (hb hby at_123) rfl rfl k) ?_
      show own_G p e below _ T47 (mkF m 125 #[.val (.int i0), .val (.int i1), .val (.int (2 : Int32)), .val (.int (0 : Int32)), .val (.ref s1), .val (.int (2 : Int32))] [(.ref s1)])
      refine own_go (fun t k => XS.iconst X47.here hx rfl (hb hby at_125) k) ?_
      show own_G p e below _ T47 (mkF m 126 #[.val (.int i0), .val (.int i1), .val (.int (2 : Int32)), .val (.int (0 : Int32)), .val (.ref s1), .val (.int (2 : Int32))] [(.int (3 : Int32)), (.ref s1)])
      refine own_go (fun t k => XS.iloadN X47.here hx rfl (hb hby at_126) rfl k) ?_
      show own_G p e below _ T47 (mkF m 127 #[.val (.int i0), .val (.int i1), .val (.int (2 : Int32)), .val (.int (0 : Int32)), .val (.ref s1), .val (.int (2 : Int32))] [(.int (2 : Int32)), (.int (3 : Int32)), (.ref s1)])
      refine own_go (fun t k => XS.iload X47.here hx rfl (hb hby at_127) rfl k) ?_
      show own_G p e below _ T47 (mkF m 129 #[.val (.int i0), .val (.int i1), .val (.int (2 : Int32)), .val (.int (0 : Int32)), .val (.ref s1), .val (.int (2 : Int32))] [(.int (2 : Int32)), (.int (2 : Int32)), (.int (3 : Int32)), (.ref s1)])
      obtain ⟨T48, L48, v48, X48, ⟨rfl, rfl, q48⟩, st48⟩ := own_callS X47 hx hH (y := (⟨"com/example/halyard/halyard/engine/OperandStackDropPinLaw", "slot", "(Lcom/example/halyard/halyard/engine/OperandStack;III)Z"⟩ : MethodName)) hown (hw _ (List.mem_of_getElem? (i := 34) rfl)) (hw _ (List.mem_of_getElem? (i := 35) rfl)) (hw _ (List.mem_of_getElem? (i := 36) rfl)) (hw _ (List.mem_of_getElem? (i := 37) rfl)) (by decide) (c_slot_a l Z a0 hw s1 (3 : Int32) (2 : Int32) (2 : Int32) T47.heap (by decide)) rfl (argsL := [(.ref s1), (.int (3 : Int32)), (.int (2 : Int32)), (.int (2 : Int32))]) (rest := []) (g := (mkF m 129 #[.val (.int i0), .val (.int i1), .val (.int (2 : Int32)), .val (.int (0 : Int32)), .val (.ref s1), .val (.int (2 : Int32))] [(.int (2 : Int32)), (.int (2 : Int32)), (.int (3 : Int32)), (.ref s1)])) rfl (by rw [hml]; rfl) (ps := [(.object "com/example/halyard/halyard/engine/OperandStack"), .int, .int, .int]) (r := (some .boolean)) (by decide +kernel) rfl rfl (W := 0) (by show 2 * 0 + _ ≤ _; exact Nat.le_of_eq rfl) (hb hby at_129) (by decide) (by decide) (by decide) (by decide)
      have x48 := own_ext_trans x47 q48
      have S48 := own_ST_ext q48 S47
      have N48 := Fr.app N47 (Fr.nil n0)
      refine own_go st48 ?_
      show own_G p e below _ T48 (mkF m 132 #[.val (.int i0), .val (.int i1), .val (.int (2 : Int32)), .val (.int (0 : Int32)), .val (.ref s1), .val (.int (2 : Int32))] [(.int (1 : Int32))])
      refine own_go (fun t k => XS.ifNo X48.here hx rfl (hb hby at_132) rfl (by decide) k) ?_
      show own_G p e below _ T48 (mkF m 135 #[.val (.int i0), .val (.int i1), .val (.int (2 : Int32)), .val (.int (0 : Int32)), .val (.ref s1), .val (.int (2 : Int32))] [])
      refine own_go (fun t k => XS.iconst X48.here hx rfl (hb hby at_135) k) ?_
      show own_G p e below _ T48 (mkF m 136 #[.val (.int i0), .val (.int i1), .val (.int (2 : Int32)), .val (.int (0 : Int32)), .val (.ref s1), .val (.int (2 : Int32))] [(.int (1 : Int32))])
      refine own_go (fun t k => XS.goto X48.here hx rfl (pc0 := 136) (pc' := 140) rfl (hb hby at_136) (by decide) (by decide) k) ?_
      show own_G p e below _ T48 (mkF m 140 #[.val (.int i0), .val (.int i1), .val (.int (2 : Int32)), .val (.int (0 : Int32)), .val (.ref s1), .val (.int (2 : Int32))] [(.int (1 : Int32))])
      exact own_retN X48 hx hlk hret (by simp) (hb hby at_140) (by decide) (by decide) ⟨rfl, N48⟩
    · rw [hk35]
      show own_G p e below _ T0 (mkF m 15 #[.val (.int i0), .val (.int i1), .val (.int (2 : Int32)), .unset, .unset, .unset] [(.int (1 : Int32))])
      refine own_go (fun t k => XS.istoreN X0.here hx rfl (hb hby at_15) rfl (l' := #[.val (.int i0), .val (.int i1), .val (.int (2 : Int32)), .val (.int (1 : Int32)), .unset, .unset]) rfl k) ?_
      show own_G p e below _ T0 (mkF m 16 #[.val (.int i0), .val (.int i1), .val (.int (2 : Int32)), .val (.int (1 : Int32)), .unset, .unset] [])
      obtain ⟨T49, h49, X49, e49, E49, A49, D49, -, st49⟩ := newO X0 hx hZ hown (hw _ (List.mem_of_getElem? (i := 1) rfl)) (hw _ (List.mem_of_getElem? (i := 2) rfl)) (hw _ (List.mem_of_getElem? (i := 3) rfl)) e0 (g := (mkF m 16 #[.val (.int i0), .val (.int i1), .val (.int (2 : Int32)), .val (.int (1 : Int32)), .unset, .unset] [])) rfl (hb hby at_16) (by decide) (by decide)
      obtain ⟨s1, gs⟩ : ∃ z, z = h0.size := ⟨_, rfl⟩
      rw [← gs] at A49 D49 st49
      have F1 : Fld Z h49 s1 own_K "values" "[Ljava/lang/Object;" .null := D49 (Or.inl (hw _ (List.mem_of_getElem? (i := 13) rfl))) (ty := .array (.object "java/lang/Object")) (by decide +kernel)
      have F2 : Fld Z h49 s1 own_K "size" "I" (.int (0 : Int32)) := D49 (Or.inl (hw _ (List.mem_of_getElem? (i := 27) rfl))) (ty := .int) (by decide)
      have x49 : Ext h0 h49 := E49
      have js : h0.size ≤ s1 := Nat.le_of_eq gs.symm
      have g1 : n0 ≤ s1 := Nat.le_trans Z0 js
      refine own_go st49 ?_
      show own_G p e below _ T49 (mkF m 19 #[.val (.int i0), .val (.int i1), .val (.int (2 : Int32)), .val (.int (1 : Int32)), .unset, .unset] [(.ref s1)])
      refine own_go (fun t k => XS.dup X49.here hx rfl (hb hby at_19) rfl rfl k) ?_
      show own_G p e below _ T49 (mkF m 20 #[.val (.int i0), .val (.int i1), .val (.int (2 : Int32)), .val (.int (1 : Int32)), .unset, .unset] [(.ref s1), (.ref s1)])
      obtain ⟨T50, L50, v50, X50, ⟨rfl, Nq50, Kq50, Sq50⟩, st50⟩ := own_callN X49 hx hH (y := (⟨"com/example/halyard/halyard/engine/OperandStack", "<init>", "()V"⟩ : MethodName)) rfl hown (hw _ (List.mem_of_getElem? (i := 4) rfl)) (hw _ (List.mem_of_getElem? (i := 5) rfl)) (hw _ (List.mem_of_getElem? (i := 6) rfl)) (hw _ (List.mem_of_getElem? (i := 3) rfl)) (by decide) (c_init l Z a0 hw s1 h49 n0 (Nat.le_trans Z0 x49.1) A49 F1 F2 g1) e49 (argsL := []) (rest := [(.ref s1)]) (g := (mkF m 20 #[.val (.int i0), .val (.int i1), .val (.int (2 : Int32)), .val (.int (1 : Int32)), .unset, .unset] [(.ref s1), (.ref s1)])) rfl (by rw [hml]; rfl) (ps := []) (r := none) (by decide +kernel) rfl rfl (W := 1) (by show 2 * 0 + _ ≤ _; exact Nat.le_of_eq rfl) (hb hby at_20) (by decide) (by decide) (by decide) (by decide)
      obtain ⟨ar, ga⟩ : ∃ z, z = h49.size := ⟨_, rfl⟩
      rw [← ga] at Sq50
      have ja : h0.size ≤ ar := Nat.le_trans x49.1 (Nat.le_of_eq ga.symm)
      have g2 : n0 ≤ ar := Nat.le_trans Z0 ja
      have x50 := own_ext_keep x49 Kq50 (allS js all0)
      have N50 := Fr.app N0 Nq50
      refine own_go st50 ?_
      show own_G p e below _ T50 (mkF m 23 #[.val (.int i0), .val (.int i1), .val (.int (2 : Int32)), .val (.int (1 : Int32)), .unset, .unset] [(.ref s1)])
      refine own_go (fun t k => XS.astore X50.here hx rfl (hb hby at_23) rfl rfl (l' := #[.val (.int i0), .val (.int i1), .val (.int (2 : Int32)), .val (.int (1 : Int32)), .val (.ref s1), .unset]) rfl k) ?_
      show own_G p e below _ T50 (mkF m 25 #[.val (.int i0), .val (.int i1), .val (.int (2 : Int32)), .val (.int (1 : Int32)), .val (.ref s1), .unset] [])
      refine own_go (fun t k => XS.aload X50.here hx rfl (hb hby at_25) rfl rfl k) ?_
      show own_G p e below _ T50 (mkF m 27 #[.val (.int i0), .val (.int i1), .val (.int (2 : Int32)), .val (.int (1 : Int32)), .val (.ref s1), .unset] [(.ref s1)])
      refine own_go (fun t k => XS.iconst X50.here hx rfl (hb hby at_27) k) ?_
      show own_G p e below _ T50 (mkF m 28 #[.val (.int i0), .val (.int i1), .val (.int (2 : Int32)), .val (.int (1 : Int32)), .val (.ref s1), .unset] [(.int (0 : Int32)), (.ref s1)])
      obtain ⟨T51, L51, v51, X51, ⟨rfl, rfl, q51⟩, st51⟩ := own_callS X50 hx hH (y := (⟨"java/lang/Integer", "valueOf", "(I)Ljava/lang/Integer;"⟩ : MethodName)) hown (hw _ (List.mem_of_getElem? (i := 14) rfl)) (hw _ (List.mem_of_getElem? (i := 15) rfl)) (hw _ (List.mem_of_getElem? (i := 16) rfl)) (hw _ (List.mem_of_getElem? (i := 17) rfl)) (by decide) (c_valueOf_0 l Z a0 hw ac r0 r1 r2 r3 clc T50.heap (own_B_ext x50 B)) rfl (argsL := [(.int (0 : Int32))]) (rest := [(.ref s1)]) (g := (mkF m 28 #[.val (.int i0), .val (.int i1), .val (.int (2 : Int32)), .val (.int (1 : Int32)), .val (.ref s1), .unset] [(.int (0 : Int32)), (.ref s1)])) rfl (by rw [hml]; rfl) (ps := [.int]) (r := (some (.object "java/lang/Integer"))) (by decide +kernel) rfl rfl (W := 1) (by show 2 * 0 + _ ≤ _; exact Nat.le_of_eq rfl) (hb hby at_28) (by decide) (by decide) (by decide) (by decide)
      have N51 := Fr.app N50 (Fr.nil n0)
      refine own_go st51 ?_
      show own_G p e below _ T51 (mkF m 31 #[.val (.int i0), .val (.int i1), .val (.int (2 : Int32)), .val (.int (1 : Int32)), .val (.ref s1), .unset] [(.ref r0), (.ref s1)])
      obtain ⟨T52, L52, v52, X52, ⟨rfl, Nq52, Kq52, Sq52⟩, st52⟩ := own_callV X51 hx hH (y := (⟨"com/example/halyard/halyard/engine/OperandStack", "push", "(Ljava/lang/Object;)V"⟩ : MethodName)) (z := (⟨"com/example/halyard/halyard/engine/OperandStack", "push", "(Ljava/lang/Object;)V"⟩ : MethodName)) hown (hw _ (List.mem_of_getElem? (i := 21) rfl)) (hw _ (List.mem_of_getElem? (i := 22) rfl)) (hw _ (List.mem_of_getElem? (i := 24) rfl)) (hw _ (List.mem_of_getElem? (i := 24) rfl)) (hw _ (List.mem_of_getElem? (i := 23) rfl)) (hw _ (List.mem_of_getElem? (i := 25) rfl)) (hw _ (List.mem_of_getElem? (i := 3) rfl)) (notFace_of_selects (args := #[]) (mvT hZ (hw _ (List.mem_of_getElem? (i := 24) rfl)))) (by decide) (c_push_0A l Z a0 hw s1 ar r0 .null .null .null .null T50.heap n0 (Nat.le_trans Z0 x50.1) Sq50 (own_ST_sto Sq50 (Ins.of_exa (E_0.ext x50) (hw _ (List.mem_of_getElem? (i := 28) rfl)))) g1 g2) q51 Sq50.1 (argsL := [(.ref r0)]) (rest := []) (g := (mkF m 31 #[.val (.int i0), .val (.int i1), .val (.int (2 : Int32)), .val (.int (1 : Int32)), .val (.ref s1), .unset] [(.ref r0), (.ref s1)])) rfl (by rw [hml]; rfl) (ps := [(.object "java/lang/Object")]) (r := none) (by decide +kernel) rfl rfl (W := 0) (by show 2 * 0 + _ ≤ _; exact Nat.le_of_eq rfl) (hb hby at_31) (by decide) (by decide) (by decide) (by decide)
      have x52 := own_ext_keep x50 Kq52 (allS js (allS ja all0))
      have N52 := Fr.app N51 Nq52
      refine own_go st52 ?_
      show own_G p e below _ T52 (mkF m 34 #[.val (.int i0), .val (.int i1), .val (.int (2 : Int32)), .val (.int (1 : Int32)), .val (.ref s1), .unset] [])
      refine own_go (fun t k => XS.iloadN X52.here hx rfl (hb hby at_34) rfl k) ?_
      show own_G p e below _ T52 (mkF m 35 #[.val (.int i0), .val (.int i1), .val (.int (2 : Int32)), .val (.int (1 : Int32)), .val (.ref s1), .unset] [(.int (2 : Int32))])
      refine own_go (fun t k => XS.iconst X52.here hx rfl (hb hby at_35) k) ?_
      show own_G p e below _ T52 (mkF m 36 #[.val (.int i0), .val (.int i1), .val (.int (2 : Int32)), .val (.int (1 : Int32)), .val (.ref s1), .unset] [(.int (1 : Int32)), (.int (2 : Int32))])
      refine own_go (fun t k => XS.icmpNo X52.here hx rfl (hb hby at_36) rfl (by decide) k) ?_
      show own_G p e below _ T52 (mkF m 39 #[.val (.int i0), .val (.int i1), .val (.int (2 : Int32)), .val (.int (1 : Int32)), .val (.ref s1), .unset] [])
      refine own_go (fun t k => XS.aload X52.here hx rfl (hb hby at_39) rfl rfl k) ?_
      show own_G p e below _ T52 (mkF m 41 #[.val (.int i0), .val (.int i1), .val (.int (2 : Int32)), .val (.int (1 : Int32)), .val (.ref s1), .unset] [(.ref s1)])
      refine own_go (fun t k => XS.iconst X52.here hx rfl (hb hby at_41) k) ?_
      show own_G p e below _ T52 (mkF m 42 #[.val (.int i0), .val (.int i1), .val (.int (2 : Int32)), .val (.int (1 : Int32)), .val (.ref s1), .unset] [(.int (1 : Int32)), (.ref s1)])
      obtain ⟨T53, L53, v53, X53, ⟨rfl, rfl, q53⟩, st53⟩ := own_callS X52 hx hH (y := (⟨"java/lang/Integer", "valueOf", "(I)Ljava/lang/Integer;"⟩ : MethodName)) hown (hw _ (List.mem_of_getElem? (i := 14) rfl)) (hw _ (List.mem_of_getElem? (i := 15) rfl)) (hw _ (List.mem_of_getElem? (i := 16) rfl)) (hw _ (List.mem_of_getElem? (i := 17) rfl)) (by decide) (c_valueOf_1 l Z a0 hw ac r0 r1 r2 r3 clc T52.heap (own_B_ext x52 B)) rfl (argsL := [(.int (1 : Int32))]) (rest := [(.ref s1)]) (g := (mkF m 42 #[.val (.int i0), .val (.int i1), .val (.int (2 : Int32)), .val (.int (1 : Int32)), .val (.ref s1), .unset] [(.int (1 : Int32)), (.ref s1)])) rfl (by rw [hml]; rfl) (ps := [.int]) (r := (some (.object "java/lang/Integer"))) (by decide +kernel) rfl rfl (W := 1) (by show 2 * 0 + _ ≤ _; exact Nat.le_of_eq rfl) (hb hby at_42) (by decide) (by decide) (by decide) (by decide)
      have N53 := Fr.app N52 (Fr.nil n0)
      refine own_go st53 ?_
      show own_G p e below _ T53 (mkF m 45 #[.val (.int i0), .val (.int i1), .val (.int (2 : Int32)), .val (.int (1 : Int32)), .val (.ref s1), .unset] [(.ref r1), (.ref s1)])
      obtain ⟨T54, L54, v54, X54, ⟨rfl, Nq54, Kq54, Sq54⟩, st54⟩ := own_callV X53 hx hH (y := (⟨"com/example/halyard/halyard/engine/OperandStack", "push", "(Ljava/lang/Object;)V"⟩ : MethodName)) (z := (⟨"com/example/halyard/halyard/engine/OperandStack", "push", "(Ljava/lang/Object;)V"⟩ : MethodName)) hown (hw _ (List.mem_of_getElem? (i := 21) rfl)) (hw _ (List.mem_of_getElem? (i := 22) rfl)) (hw _ (List.mem_of_getElem? (i := 24) rfl)) (hw _ (List.mem_of_getElem? (i := 24) rfl)) (hw _ (List.mem_of_getElem? (i := 23) rfl)) (hw _ (List.mem_of_getElem? (i := 25) rfl)) (hw _ (List.mem_of_getElem? (i := 3) rfl)) (notFace_of_selects (args := #[]) (mvT hZ (hw _ (List.mem_of_getElem? (i := 24) rfl)))) (by decide) (c_push_1A l Z a0 hw s1 ar r1 (.ref r0) .null .null .null T52.heap n0 (Nat.le_trans Z0 x52.1) Sq52 (own_ST_sto Sq52 (Ins.of_exa (E_1.ext x52) (hw _ (List.mem_of_getElem? (i := 28) rfl)))) g1 g2) q53 Sq52.1 (argsL := [(.ref r1)]) (rest := []) (g := (mkF m 45 #[.val (.int i0), .val (.int i1), .val (.int (2 : Int32)), .val (.int (1 : Int32)), .val (.ref s1), .unset] [(.ref r1), (.ref s1)])) rfl (by rw [hml]; rfl) (ps := [(.object "java/lang/Object")]) (r := none) (by decide +kernel) rfl rfl (W := 0) (by show 2 * 0 + _ ≤ _; exact Nat.le_of_eq rfl) (hb hby at_45) (by decide) (by decide) (by decide) (by decide)
      have x54 := own_ext_keep x52 Kq54 (allS js (allS ja all0))
      have N54 := Fr.app N53 Nq54
      refine own_go st54 ?_
      show own_G p e below _ T54 (mkF m 48 #[.val (.int i0), .val (.int i1), .val (.int (2 : Int32)), .val (.int (1 : Int32)), .val (.ref s1), .unset] [])
      refine own_go (fun t k => XS.iloadN X54.here hx rfl (hb hby at_48) rfl k) ?_
      show own_G p e below _ T54 (mkF m 49 #[.val (.int i0), .val (.int i1), .val (.int (2 : Int32)), .val (.int (1 : Int32)), .val (.ref s1), .unset] [(.int (2 : Int32))])
      refine own_go (fun t k => XS.iconst X54.here hx rfl (hb hby at_49) k) ?_
      show own_G p e below _ T54 (mkF m 50 #[.val (.int i0), .val (.int i1), .val (.int (2 : Int32)), .val (.int (1 : Int32)), .val (.ref s1), .unset] [(.int (2 : Int32)), (.int (2 : Int32))])
      refine own_go (fun t k => XS.icmpNo X54.here hx rfl (hb hby at_50) rfl (by decide) k) ?_
      show own_G p e below _ T54 (mkF m 53 #[.val (.int i0), .val (.int i1), .val (.int (2 : Int32)), .val (.int (1 : Int32)), .val (.ref s1), .unset] [])
      refine own_go (fun t k => XS.aload X54.here hx rfl (hb hby at_53) rfl rfl k) ?_
      show own_G p e below _ T54 (mkF m 55 #[.val (.int i0), .val (.int i1), .val (.int (2 : Int32)), .val (.int (1 : Int32)), .val (.ref s1), .unset] [(.ref s1)])
      refine own_go (fun t k => XS.iconst X54.here hx rfl (hb hby at_55) k) ?_
      show own_G p e below _ T54 (mkF m 56 #[.val (.int i0), .val (.int i1), .val (.int (2 : Int32)), .val (.int (1 : Int32)), .val (.ref s1), .unset] [(.int (2 : Int32)), (.ref s1)])
      obtain ⟨T55, L55, v55, X55, ⟨rfl, rfl, q55⟩, st55⟩ := own_callS X54 hx hH (y := (⟨"java/lang/Integer", "valueOf", "(I)Ljava/lang/Integer;"⟩ : MethodName)) hown (hw _ (List.mem_of_getElem? (i := 14) rfl)) (hw _ (List.mem_of_getElem? (i := 15) rfl)) (hw _ (List.mem_of_getElem? (i := 16) rfl)) (hw _ (List.mem_of_getElem? (i := 17) rfl)) (by decide) (c_valueOf_2 l Z a0 hw ac r0 r1 r2 r3 clc T54.heap (own_B_ext x54 B)) rfl (argsL := [(.int (2 : Int32))]) (rest := [(.ref s1)]) (g := (mkF m 56 #[.val (.int i0), .val (.int i1), .val (.int (2 : Int32)), .val (.int (1 : Int32)), .val (.ref s1), .unset] [(.int (2 : Int32)), (.ref s1)])) rfl (by rw [hml]; rfl) (ps := [.int]) (r := (some (.object "java/lang/Integer"))) (by decide +kernel) rfl rfl (W := 1) (by show 2 * 0 + _ ≤ _; exact Nat.le_of_eq rfl) (hb hby at_56) (by decide) (by decide) (by decide) (by decide)
      have N55 := Fr.app N54 (Fr.nil n0)
      refine own_go st55 ?_
      show own_G p e below _ T55 (mkF m 59 #[.val (.int i0), .val (.int i1), .val (.int (2 : Int32)), .val (.int (1 : Int32)), .val (.ref s1), .unset] [(.ref r2), (.ref s1)])
      obtain ⟨T56, L56, v56, X56, ⟨rfl, Nq56, Kq56, Sq56⟩, st56⟩ := own_callV X55 hx hH (y := (⟨"com/example/halyard/halyard/engine/OperandStack", "push", "(Ljava/lang/Object;)V"⟩ : MethodName)) (z := (⟨"com/example/halyard/halyard/engine/OperandStack", "push", "(Ljava/lang/Object;)V"⟩ : MethodName)) hown (hw _ (List.mem_of_getElem? (i := 21) rfl)) (hw _ (List.mem_of_getElem? (i := 22) rfl)) (hw _ (List.mem_of_getElem? (i := 24) rfl)) (hw _ (List.mem_of_getElem? (i := 24) rfl)) (hw _ (List.mem_of_getElem? (i := 23) rfl)) (hw _ (List.mem_of_getElem? (i := 25) rfl)) (hw _ (List.mem_of_getElem? (i := 3) rfl)) (notFace_of_selects (args := #[]) (mvT hZ (hw _ (List.mem_of_getElem? (i := 24) rfl)))) (by decide) (c_push_2A l Z a0 hw s1 ar r2 (.ref r0) (.ref r1) .null .null T54.heap n0 (Nat.le_trans Z0 x54.1) Sq54 (own_ST_sto Sq54 (Ins.of_exa (E_2.ext x54) (hw _ (List.mem_of_getElem? (i := 28) rfl)))) g1 g2) q55 Sq54.1 (argsL := [(.ref r2)]) (rest := []) (g := (mkF m 59 #[.val (.int i0), .val (.int i1), .val (.int (2 : Int32)), .val (.int (1 : Int32)), .val (.ref s1), .unset] [(.ref r2), (.ref s1)])) rfl (by rw [hml]; rfl) (ps := [(.object "java/lang/Object")]) (r := none) (by decide +kernel) rfl rfl (W := 0) (by show 2 * 0 + _ ≤ _; exact Nat.le_of_eq rfl) (hb hby at_59) (by decide) (by decide) (by decide) (by decide)
      have x56 := own_ext_keep x54 Kq56 (allS js (allS ja all0))
      have N56 := Fr.app N55 Nq56
      refine own_go st56 ?_
      show own_G p e below _ T56 (mkF m 62 #[.val (.int i0), .val (.int i1), .val (.int (2 : Int32)), .val (.int (1 : Int32)), .val (.ref s1), .unset] [])
      refine own_go (fun t k => XS.iloadN X56.here hx rfl (hb hby at_62) rfl k) ?_
      show own_G p e below _ T56 (mkF m 63 #[.val (.int i0), .val (.int i1), .val (.int (2 : Int32)), .val (.int (1 : Int32)), .val (.ref s1), .unset] [(.int (2 : Int32))])
      refine own_go (fun t k => XS.iconst X56.here hx rfl (hb hby at_63) k) ?_
      show own_G p e below _ T56 (mkF m 64 #[.val (.int i0), .val (.int i1), .val (.int (2 : Int32)), .val (.int (1 : Int32)), .val (.ref s1), .unset] [(.int (3 : Int32)), (.int (2 : Int32))])
      refine own_go (fun t k => XS.icmpYes X56.here hx rfl (pc0 := 64) (pc' := 76) rfl (hb hby at_64) rfl (by decide) (by decide) (by decide) k) ?_
      show own_G p e below _ T56 (mkF m 76 #[.val (.int i0), .val (.int i1), .val (.int (2 : Int32)), .val (.int (1 : Int32)), .val (.ref s1), .unset] [])
      refine own_go (fun t k => XS.aload X56.here hx rfl (hb hby at_76) rfl rfl k) ?_
      show own_G p e below _ T56 (mkF m 78 #[.val (.int i0), .val (.int i1), .val (.int (2 : Int32)), .val (.int (1 : Int32)), .val (.ref s1), .unset] [(.ref s1)])
      refine own_go (fun t k => XS.iloadN X56.here hx rfl (hb hby at_78) rfl k) ?_
      show own_G p e below _ T56 (mkF m 79 #[.val (.int i0), .val (.int i1), .val (.int (2 : Int32)), .val (.int (1 : Int32)), .val (.ref s1), .unset] [(.int (1 : Int32)), (.ref s1)])
      obtain ⟨T57, L57, v57, X57, ⟨rfl, Nq57, Kq57, Sq57⟩, st57⟩ := own_callV X56 hx hH (y := (⟨"com/example/halyard/halyard/engine/OperandStack", "drop", "(I)V"⟩ : MethodName)) (z := (⟨"com/example/halyard/halyard/engine/OperandStack", "drop", "(I)V"⟩ : MethodName)) hown (hw _ (List.mem_of_getElem? (i := 29) rfl)) (hw _ (List.mem_of_getElem? (i := 30) rfl)) (hw _ (List.mem_of_getElem? (i := 32) rfl)) (hw _ (List.mem_of_getElem? (i := 32) rfl)) (hw _ (List.mem_of_getElem? (i := 31) rfl)) (hw _ (List.mem_of_getElem? (i := 33) rfl)) (hw _ (List.mem_of_getElem? (i := 3) rfl)) (notFace_of_selects (args := #[]) (mvT hZ (hw _ (List.mem_of_getElem? (i := 32) rfl)))) (by decide) (c_drop_3_1 l Z a0 hw s1 ar (.ref r0) (.ref r1) (.ref r2) .null T56.heap n0 (Nat.le_trans Z0 x56.1) Sq56 g1 g2) rfl Sq56.1 (argsL := [(.int (1 : Int32))]) (rest := []) (g := (mkF m 79 #[.val (.int i0), .val (.int i1), .val (.int (2 : Int32)), .val (.int (1 : Int32)), .val (.ref s1), .unset] [(.int (1 : Int32)), (.ref s1)])) rfl (by rw [hml]; rfl) (ps := [.int]) (r := none) (by decide +kernel) rfl rfl (W := 0) (by show 2 * 0 + _ ≤ _; exact Nat.le_of_eq rfl) (hb hby at_79) (by decide) (by decide) (by decide) (by decide)
      have x57 := own_ext_keep x56 Kq57 (allS js (allS ja all0))
      have N57 := Fr.app N56 Nq57
      refine own_go st57 ?_
      show own_G p e below _ T57 (mkF m 82 #[.val (.int i0), .val (.int i1), .val (.int (2 : Int32)), .val (.int (1 : Int32)), .val (.ref s1), .unset] [])
      refine own_go (fun t k => XS.iloadN X57.here hx rfl (hb hby at_82) rfl k) ?_
      show own_G p e below _ T57 (mkF m 83 #[.val (.int i0), .val (.int i1), .val (.int (2 : Int32)), .val (.int (1 : Int32)), .val (.ref s1), .unset] [(.int (2 : Int32))])
      refine own_go (fun t k => XS.iloadN X57.here hx rfl (hb hby at_83) rfl k) ?_
      show own_G p e below _ T57 (mkF m 84 #[.val (.int i0), .val (.int i1), .val (.int (2 : Int32)), .val (.int (1 : Int32)), .val (.ref s1), .unset] [(.int (1 : Int32)), (.int (2 : Int32))])
      refine own_go (fun t k => XS.isub X57.here hx rfl (hb hby at_84) rfl k) ?_
      show own_G p e below _ T57 (mkF m 85 #[.val (.int i0), .val (.int i1), .val (.int (2 : Int32)), .val (.int (1 : Int32)), .val (.ref s1), .unset] [(.int (1 : Int32))])
      refine own_go (fun t k => XS.istore X57.here hx rfl (hb hby at_85) rfl (l' := #[.val (.int i0), .val (.int i1), .val (.int (2 : Int32)), .val (.int (1 : Int32)), .val (.ref s1), .val (.int (1 : Int32))]) rfl k) ?_
      show own_G p e below _ T57 (mkF m 87 #[.val (.int i0), .val (.int i1), .val (.int (2 : Int32)), .val (.int (1 : Int32)), .val (.ref s1), .val (.int (1 : Int32))] [])
      refine own_go (fun t k => XS.aload X57.here hx rfl (hb hby at_87) rfl rfl k) ?_
      show own_G p e below _ T57 (mkF m 89 #[.val (.int i0), .val (.int i1), .val (.int (2 : Int32)), .val (.int (1 : Int32)), .val (.ref s1), .val (.int (1 : Int32))] [(.ref s1)])
      refine own_go (fun t k => XS.iconst X57.here hx rfl (hb hby at_89) k) ?_
      show own_G p e below _ T57 (mkF m 90 #[.val (.int i0), .val (.int i1), .val (.int (2 : Int32)), .val (.int (1 : Int32)), .val (.ref s1), .val (.int (1 : Int32))] [(.int (0 : Int32)), (.ref s1)])
      refine own_go (fun t k => XS.iloadN X57.here hx rfl (hb hby at_90) rfl k) ?_
      show own_G p e below _ T57 (mkF m 91 #[.val (.int i0), .val (.int i1), .val (.int (2 : Int32)), .val (.int (1 : Int32)), .val (.ref s1), .val (.int (1 : Int32))] [(.int (2 : Int32)), (.int (0 : Int32)), (.ref s1)])
      refine own_go (fun t k => XS.iload X57.here hx rfl (hb hby at_91) rfl k) ?_
      show own_G p e below _ T57 (mkF m 93 #[.val (.int i0), .val (.int i1), .val (.int (2 : Int32)), .val (.int (1 : Int32)), .val (.ref s1), .val (.int (1 : Int32))] [(.int (1 : Int32)), (.int (2 : Int32)), (.int (0 : Int32)), (.ref s1)])
      obtain ⟨T58, L58, v58, X58, ⟨rfl, rfl, q58⟩, st58⟩ := own_callS X57 hx hH (y := (⟨"com/example/halyard/halyard/engine/OperandStackDropPinLaw", "slot", "(Lcom/example/halyard/halyard/engine/OperandStack;III)Z"⟩ : MethodName)) hown (hw _ (List.mem_of_getElem? (i := 34) rfl)) (hw _ (List.mem_of_getElem? (i := 35) rfl)) (hw _ (List.mem_of_getElem? (i := 36) rfl)) (hw _ (List.mem_of_getElem? (i := 37) rfl)) (by decide) (c_slot_b0 l Z a0 hw s1 (2 : Int32) (1 : Int32) ar r0 (.ref r1) .null .null T57.heap (by decide) (by decide) Sq57 (E_0.ext x57) (F_0.ext x57)) rfl (argsL := [(.ref s1), (.int (0 : Int32)), (.int (2 : Int32)), (.int (1 : Int32))]) (rest := []) (g := (mkF m 93 #[.val (.int i0), .val (.int i1), .val (.int (2 : Int32)), .val (.int (1 : Int32)), .val (.ref s1), .val (.int (1 : Int32))] [(.int (1 : Int32)), (.int (2 : Int32)), (.int (0 : Int32)), (.ref s1)])) rfl (by rw [hml]; rfl) (ps := [(.object "com/example/halyard/halyard/engine/OperandStack"), .int, .int, .int]) (r := (some .boolean)) (by decide +kernel) rfl rfl (W := 0) (by show 2 * 0 + _ ≤ _; exact Nat.le_of_eq rfl) (hb hby at_93) (by decide) (by decide) (by decide) (by decide)
      have x58 := own_ext_trans x57 q58
      have S58 := own_ST_ext q58 Sq57
      have N58 := Fr.app N57 (Fr.nil n0)
      refine own_go st58 ?_
      show own_G p e below _ T58 (mkF m 96 #[.val (.int i0), .val (.int i1), .val (.int (2 : Int32)), .val (.int (1 : Int32)), .val (.ref s1), .val (.int (1 : Int32))] [(.int (1 : Int32))])
      refine own_go (fun t k => XS.ifNo X58.here hx rfl (hb hby at_96) rfl (by decide) k) ?_
      show own_G p e below _ T58 (mkF m 99 #[.val (.int i0), .val (.int i1), .val (.int (2 : Int32)), .val (.int (1 : Int32)), .val (.ref s1), .val (.int (1 : Int32))] [])
      refine own_go (fun t k => XS.aload X58.here hx rfl (hb hby at_99) rfl rfl k) ?_
      show own_G p e below _ T58 (mkF m 101 #[.val (.int i0), .val (.int i1), .val (.int (2 : Int32)), .val (.int (1 : Int32)), .val (.ref s1), .val (.int (1 : Int32))] [(.ref s1)])
      refine own_go (fun t k => XS.iconst X58.here hx rfl (hb hby at_101) k) ?_
      show own_G p e below _ T58 (mkF m 102 #[.val (.int i0), .val (.int i1), .val (.int (2 : Int32)), .val (.int (1 : Int32)), .val (.ref s1), .val (.int (1 : Int32))] [(.int (1 : Int32)), (.ref s1)])
      refine own_go (fun t k => XS.iloadN X58.here hx rfl (hb hby at_102) rfl k) ?_
      show own_G p e below _ T58 (mkF m 103 #[.val (.int i0), .val (.int i1), .val (.int (2 : Int32)), .val (.int (1 : Int32)), .val (.ref s1), .val (.int (1 : Int32))] [(.int (2 : Int32)), (.int (1 : Int32)), (.ref s1)])
      refine own_go (fun t k => XS.iload X58.here hx rfl (hb hby at_103) rfl k) ?_
      show own_G p e below _ T58 (mkF m 105 #[.val (.int i0), .val (.int i1), .val (.int (2 : Int32)), .val (.int (1 : Int32)), .val (.ref s1), .val (.int (1 : Int32))] [(.int (1 : Int32)), (.int (2 : Int32)), (.int (1 : Int32)), (.ref s1)])
      obtain ⟨T59, L59, v59, X59, ⟨rfl, rfl, q59⟩, st59⟩ := own_callS X58 hx hH (y := (⟨"com/example/halyard/halyard/engine/OperandStackDropPinLaw", "slot", "(Lcom/example/halyard/halyard/engine/OperandStack;III)Z"⟩ : MethodName)) hown (hw _ (List.mem_of_getElem? (i := 34) rfl)) (hw _ (List.mem_of_getElem? (i := 35) rfl)) (hw _ (List.mem_of_getElem? (i := 36) rfl)) (hw _ (List.mem_of_getElem? (i := 37) rfl)) (by decide) (c_slot_b1 l Z a0 hw s1 (2 : Int32) (1 : Int32) ar r1 (.ref r0) .null .null T58.heap (by decide) (by decide) S58 (E_1.ext x58) (F_1.ext x58)) rfl (argsL := [(.ref s1), (.int (1 : Int32)), (.int (2 : Int32)), (.int (1 : Int32))]) (rest := []) (g := (mkF m 105 #[.val (.int i0), .val (.int i1), .val (.int (2 : Int32)), .val (.int (1 : Int32)), .val (.ref s1), .val (.int (1 : Int32))] [(.int (1 : Int32)), (.int (2 : Int32)), (.int (1 : Int32)), (.ref s1)])) rfl (by rw [hml]; rfl) (ps := [(.object "com/example/halyard/halyard/engine/OperandStack"), .int, .int, .int]) (r := (some .boolean)) (by decide +kernel) rfl rfl (W := 0) (by show 2 * 0 + _ ≤ _; exact Nat.le_of_eq rfl) (hb hby at_105) (by decide) (by decide) (by decide) (by decide)
      have x59 := own_ext_trans x58 q59
      have S59 := own_ST_ext q59 S58
      have N59 := Fr.app N58 (Fr.nil n0)
      refine own_go st59 ?_
      show own_G p e below _ T59 (mkF m 108 #[.val (.int i0), .val (.int i1), .val (.int (2 : Int32)), .val (.int (1 : Int32)), .val (.ref s1), .val (.int (1 : Int32))] [(.int (1 : Int32))])
      refine own_go (fun t k => XS.ifNo X59.here hx rfl (hb hby at_108) rfl (by decide) k) ?_
      show own_G p e below _ T59 (mkF m 111 #[.val (.int i0), .val (.int i1), .val (.int (2 : Int32)), .val (.int (1 : Int32)), .val (.ref s1), .val (.int (1 : Int32))] [])
      refine own_go (fun t k => XS.aload X59.here hx rfl (hb hby at_111) rfl rfl k) ?_
      show own_G p e below _ T59 (mkF m 113 #[.val (.int i0), .val (.int i1), .val (.int (2 : Int32)), .val (.int (1 : Int32)), .val (.ref s1), .val (.int (1 : Int32))] [(.ref s1)])
      refine own_go (fun t k => XS.iconst X59.here hx rfl (hb hby at_113) k) ?_
      show own_G p e below _ T59 (mkF m 114 #[.val (.int i0), .val (.int i1), .val (.int (2 : Int32)), .val (.int (1 : Int32)), .val (.ref s1), .val (.int (1 : Int32))] [(.int (2 : Int32)), (.ref s1)])
      refine own_go (fun t k => XS.iloadN X59.here hx rfl (hb hby at_114) rfl k) ?_
      show own_G p e below _ T59 (mkF m 115 #[.val (.int i0), .val (.int i1), .val (.int (2 : Int32)), .val (.int (1 : Int32)), .val (.ref s1), .val (.int (1 : Int32))] [(.int (2 : Int32)), (.int (2 : Int32)), (.ref s1)])
      refine own_go (fun t k => XS.iload X59.here hx rfl (hb hby at_115) rfl k) ?_
      show own_G p e below _ T59 (mkF m 117 #[.val (.int i0), .val (.int i1), .val (.int (2 : Int32)), .val (.int (1 : Int32)), .val (.ref s1), .val (.int (1 : Int32))] [(.int (1 : Int32)), (.int (2 : Int32)), (.int (2 : Int32)), (.ref s1)])
      obtain ⟨T60, L60, v60, X60, ⟨rfl, rfl, q60⟩, st60⟩ := own_callS X59 hx hH (y := (⟨"com/example/halyard/halyard/engine/OperandStackDropPinLaw", "slot", "(Lcom/example/halyard/halyard/engine/OperandStack;III)Z"⟩ : MethodName)) hown (hw _ (List.mem_of_getElem? (i := 34) rfl)) (hw _ (List.mem_of_getElem? (i := 35) rfl)) (hw _ (List.mem_of_getElem? (i := 36) rfl)) (hw _ (List.mem_of_getElem? (i := 37) rfl)) (by decide) (c_slot_c2 l Z a0 hw s1 (2 : Int32) (1 : Int32) ar (.ref r0) (.ref r1) .null T59.heap (by decide) (by decide) S59) rfl (argsL := [(.ref s1), (.int (2 : Int32)), (.int (2 : Int32)), (.int (1 : Int32))]) (rest := []) (g := (mkF m 117 #[.val (.int i0), .val (.int i1), .val (.int (2 : Int32)), .val (.int (1 : Int32)), .val (.ref s1), .val (.int (1 : Int32))] [(.int (1 : Int32)), (.int (2 : Int32)), (.int (2 : Int32)), (.ref s1)])) rfl (by rw [hml]; rfl) (ps := [(.object "com/example/halyard/halyard/engine/OperandStack"), .int, .int, .int]) (r := (some .boolean)) (by decide +kernel) rfl rfl (W := 0) (by show 2 * 0 + _ ≤ _; exact Nat.le_of_eq rfl) (hb hby at_117) (by decide) (by decide) (by decide) (by decide)
      have x60 := own_ext_trans x59 q60
      have S60 := own_ST_ext q60 S59
      have N60 := Fr.app N59 (Fr.nil n0)
      refine own_go st60 ?_
      show own_G p e below _ T60 (mkF m 120 #[.val (.int i0), .val (.int i1), .val (.int (2 : Int32)), .val (.int (1 : Int32)), .val (.ref s1), .val (.int (1 : Int32))] [(.int (1 : Int32))])
      refine own_go (fun t k => XS.ifNo X60.here hx rfl (hb hby at_120) rfl (by decide) k) ?_
      show own_G p e below _ T60 (mkF m 123 #[.val (.int i0), .val (.int i1), .val (.int (2 : Int32)), .val (.int (1 : Int32)), .val (.ref s1), .val (.int (1 : Int32))] [])
      refine own_go (fun t k => XS.aload X60.here hx rfl (hb hby at_123) rfl rfl k) ?_
      show own_G p e below _ T60 (mkF m 125 #[.val (.int i0), .val (.int i1), .val (.int (2 : Int32)), .val (.int (1 : Int32)), .val (.ref s1), .val (.int (1 : Int32))] [(.ref s1)])
      refine own_go (fun t k => XS.iconst X60.here hx rfl (hb hby at_125) k) ?_
      show own_G p e below _ T60 (mkF m 126 #[.val (.int i0), .val (.int i1), .val (.int (2 : Int32)), .val (.int (1 : Int32)), .val (.ref s1), .val (.int (1 : Int32))] [(.int (3 : Int32)), (.ref s1)])
      refine own_go (fun t k => XS.iloadN X60.here hx rfl (hb hby at_126) rfl k) ?_
      show own_G p e below _ T60 (mkF m 127 #[.val (.int i0), .val (.int i1), .val (.int (2 : Int32)), .val (.int (1 : Int32)), .val (.ref s1), .val (.int (1 : Int32))] [(.int (2 : Int32)), (.int (3 : Int32)), (.ref s1)])
      refine own_go (fun t k => XS.iload X60.here hx rfl (hb hby at_127) rfl k) ?_
      show own_G p e below _ T60 (mkF m 129 #[.val (.int i0), .val (.int i1), .val (.int (2 : Int32)), .val (.int (1 : Int32)), .val (.ref s1), .val (.int (1 : Int32))] [(.int (1 : Int32)), (.int (2 : Int32)), (.int (3 : Int32)), (.ref s1)])
      obtain ⟨T61, L61, v61, X61, ⟨rfl, rfl, q61⟩, st61⟩ := own_callS X60 hx hH (y := (⟨"com/example/halyard/halyard/engine/OperandStackDropPinLaw", "slot", "(Lcom/example/halyard/halyard/engine/OperandStack;III)Z"⟩ : MethodName)) hown (hw _ (List.mem_of_getElem? (i := 34) rfl)) (hw _ (List.mem_of_getElem? (i := 35) rfl)) (hw _ (List.mem_of_getElem? (i := 36) rfl)) (hw _ (List.mem_of_getElem? (i := 37) rfl)) (by decide) (c_slot_a l Z a0 hw s1 (3 : Int32) (2 : Int32) (1 : Int32) T60.heap (by decide)) rfl (argsL := [(.ref s1), (.int (3 : Int32)), (.int (2 : Int32)), (.int (1 : Int32))]) (rest := []) (g := (mkF m 129 #[.val (.int i0), .val (.int i1), .val (.int (2 : Int32)), .val (.int (1 : Int32)), .val (.ref s1), .val (.int (1 : Int32))] [(.int (1 : Int32)), (.int (2 : Int32)), (.int (3 : Int32)), (.ref s1)])) rfl (by rw [hml]; rfl) (ps := [(.object "com/example/halyard/halyard/engine/OperandStack"), .int, .int, .int]) (r := (some .boolean)) (by decide +kernel) rfl rfl (W := 0) (by show 2 * 0 + _ ≤ _; exact Nat.le_of_eq rfl) (hb hby at_129) (by decide) (by decide) (by decide) (by decide)
      have x61 := own_ext_trans x60 q61
      have S61 := own_ST_ext q61 S60
      have N61 := Fr.app N60 (Fr.nil n0)
      refine own_go st61 ?_
      show own_G p e below _ T61 (mkF m 132 #[.val (.int i0), .val (.int i1), .val (.int (2 : Int32)), .val (.int (1 : Int32)), .val (.ref s1), .val (.int (1 : Int32))] [(.int (1 : Int32))])
      refine own_go (fun t k => XS.ifNo X61.here hx rfl (hb hby at_132) rfl (by decide) k) ?_
      show own_G p e below _ T61 (mkF m 135 #[.val (.int i0), .val (.int i1), .val (.int (2 : Int32)), .val (.int (1 : Int32)), .val (.ref s1), .val (.int (1 : Int32))] [])
      refine own_go (fun t k => XS.iconst X61.here hx rfl (hb hby at_135) k) ?_
      show own_G p e below _ T61 (mkF m 136 #[.val (.int i0), .val (.int i1), .val (.int (2 : Int32)), .val (.int (1 : Int32)), .val (.ref s1), .val (.int (1 : Int32))] [(.int (1 : Int32))])
      refine own_go (fun t k => XS.goto X61.here hx rfl (pc0 := 136) (pc' := 140) rfl (hb hby at_136) (by decide) (by decide) k) ?_
      show own_G p e below _ T61 (mkF m 140 #[.val (.int i0), .val (.int i1), .val (.int (2 : Int32)), .val (.int (1 : Int32)), .val (.ref s1), .val (.int (1 : Int32))] [(.int (1 : Int32))])
      exact own_retN X61 hx hlk hret (by simp) (hb hby at_140) (by decide) (by decide) ⟨rfl, N61⟩
    · rw [hk35]
      show own_G p e below _ T0 (mkF m 15 #[.val (.int i0), .val (.int i1), .val (.int (2 : Int32)), .unset, .unset, .unset] [(.int (2 : Int32))])
      refine own_go (fun t k => XS.istoreN X0.here hx rfl (hb hby at_15) rfl (l' := #[.val (.int i0), .val (.int i1), .val (.int (2 : Int32)), .val (.int (2 : Int32)), .unset, .unset]) rfl k) ?_
      show own_G p e below _ T0 (mkF m 16 #[.val (.int i0), .val (.int i1), .val (.int (2 : Int32)), .val (.int (2 : Int32)), .unset, .unset] [])
      obtain ⟨T62, h62, X62, e62, E62, A62, D62, -, st62⟩ := newO X0 hx hZ hown (hw _ (List.mem_of_getElem? (i := 1) rfl)) (hw _ (List.mem_of_getElem? (i := 2) rfl)) (hw _ (List.mem_of_getElem? (i := 3) rfl)) e0 (g := (mkF m 16 #[.val (.int i0), .val (.int i1), .val (.int (2 : Int32)), .val (.int (2 : Int32)), .unset, .unset] [])) rfl (hb hby at_16) (by decide) (by decide)
      obtain ⟨s1, gs⟩ : ∃ z, z = h0.size := ⟨_, rfl⟩
      rw [← gs] at A62 D62 st62
      have F1 : Fld Z h62 s1 own_K "values" "[Ljava/lang/Object;" .null := D62 (Or.inl (hw _ (List.mem_of_getElem? (i := 13) rfl))) (ty := .array (.object "java/lang/Object")) (by decide +kernel)
      have F2 : Fld Z h62 s1 own_K "size" "I" (.int (0 : Int32)) := D62 (Or.inl (hw _ (List.mem_of_getElem? (i := 27) rfl))) (ty := .int) (by decide)
      have x62 : Ext h0 h62 := E62
      have js : h0.size ≤ s1 := Nat.le_of_eq gs.symm
      have g1 : n0 ≤ s1 := Nat.le_trans Z0 js
      refine own_go st62 ?_
      show own_G p e below _ T62 (mkF m 19 #[.val (.int i0), .val (.int i1), .val (.int (2 : Int32)), .val (.int (2 : Int32)), .unset, .unset] [(.ref s1)])
      refine own_go (fun t k => XS.dup X62.here hx rfl (hb hby at_19) rfl rfl k) ?_
      show own_G p e below _ T62 (mkF m 20 #[.val (.int i0), .val (.int i1), .val (.int (2 : Int32)), .val (.int (2 : Int32)), .unset, .unset] [(.ref s1), (.ref s1)])
      obtain ⟨T63, L63, v63, X63, ⟨rfl, Nq63, Kq63, Sq63⟩, st63⟩ := own_callN X62 hx hH (y := (⟨"com/example/halyard/halyard/engine/OperandStack", "<init>", "()V"⟩ : MethodName)) rfl hown (hw _ (List.mem_of_getElem? (i := 4) rfl)) (hw _ (List.mem_of_getElem? (i := 5) rfl)) (hw _ (List.mem_of_getElem? (i := 6) rfl)) (hw _ (List.mem_of_getElem? (i := 3) rfl)) (by decide) (c_init l Z a0 hw s1 h62 n0 (Nat.le_trans Z0 x62.1) A62 F1 F2 g1) e62 (argsL := []) (rest := [(.ref s1)]) (g := (mkF m 20 #[.val (.int i0), .val (.int i1), .val (.int (2 : Int32)), .val (.int (2 : Int32)), .unset, .unset] [(.ref s1), (.ref s1)])) rfl (by rw [hml]; rfl) (ps := []) (r := none) (by decide +kernel) rfl rfl (W := 1) (by show 2 * 0 + _ ≤ _; exact Nat.le_of_eq rfl) (hb hby at_20) (by decide) (by decide) (by decide) (by decide)
      obtain ⟨ar, ga⟩ : ∃ z, z = h62.size := ⟨_, rfl⟩
      rw [← ga] at Sq63
      have ja : h0.size ≤ ar := Nat.le_trans x62.1 (Nat.le_of_eq ga.symm)
      have g2 : n0 ≤ ar := Nat.le_trans Z0 ja
      have x63 := own_ext_keep x62 Kq63 (allS js all0)
      have N63 := Fr.app N0 Nq63
      refine own_go st63 ?_
      show own_G p e below _ T63 (mkF m 23 #[.val (.int i0), .val (.int i1), .val (.int (2 : Int32)), .val (.int (2 : Int32)), .unset, .unset] [(.ref s1)])
      refine own_go (fun t k => XS.astore X63.here hx rfl (hb hby at_23) rfl rfl (l' := #[.val (.int i0), .val (.int i1), .val (.int (2 : Int32)), .val (.int (2 : Int32)), .val (.ref s1), .unset]) rfl k) ?_
      show own_G p e below _ T63 (mkF m 25 #[.val (.int i0), .val (.int i1), .val (.int (2 : Int32)), .val (.int (2 : Int32)), .val (.ref s1), .unset] [])
      refine own_go (fun t k => XS.aload X63.here hx rfl (hb hby at_25) rfl rfl k) ?_
      show own_G p e below _ T63 (mkF m 27 #[.val (.int i0), .val (.int i1), .val (.int (2 : Int32)), .val (.int (2 : Int32)), .val (.ref s1), .unset] [(.ref s1)])
      refine own_go (fun t k => XS.iconst X63.here hx rfl (hb hby at_27) k) ?_
      show own_G p e below _ T63 (mkF m 28 #[.val (.int i0), .val (.int i1), .val (.int (2 : Int32)), .val (.int (2 : Int32)), .val (.ref s1), .unset] [(.int (0 : Int32)), (.ref s1)])
      obtain ⟨T64, L64, v64, X64, ⟨rfl, rfl, q64⟩, st64⟩ := own_callS X63 hx hH (y := (⟨"java/lang/Integer", "valueOf", "(I)Ljava/lang/Integer;"⟩ : MethodName)) hown (hw _ (List.mem_of_getElem? (i := 14) rfl)) (hw _ (List.mem_of_getElem? (i := 15) rfl)) (hw _ (List.mem_of_getElem? (i := 16) rfl)) (hw _ (List.mem_of_getElem? (i := 17) rfl)) (by decide) (c_valueOf_0 l Z a0 hw ac r0 r1 r2 r3 clc T63.heap (own_B_ext x63 B)) rfl (argsL := [(.int (0 : Int32))]) (rest := [(.ref s1)]) (g := (mkF m 28 #[.val (.int i0), .val (.int i1), .val (.int (2 : Int32)), .val (.int (2 : Int32)), .val (.ref s1), .unset] [(.int (0 : Int32)), (.ref s1)])) rfl (by rw [hml]; rfl) (ps := [.int]) (r := (some (.object "java/lang/Integer"))) (by decide +kernel) rfl rfl (W := 1) (by show 2 * 0 + _ ≤ _; exact Nat.le_of_eq rfl) (hb hby at_28) (by decide) (by decide) (by decide) (by decide)
      have N64 := Fr.app N63 (Fr.nil n0)
      refine own_go st64 ?_
      show own_G p e below _ T64 (mkF m 31 #[.val (.int i0), .val (.int i1), .val (.int (2 : Int32)), .val (.int (2 : Int32)), .val (.ref s1), .unset] [(.ref r0), (.ref s1)])
      obtain ⟨T65, L65, v65, X65, ⟨rfl, Nq65, Kq65, Sq65⟩, st65⟩ := own_callV X64 hx hH (y := (⟨"com/example/halyard/halyard/engine/OperandStack", "push", "(Ljava/lang/Object;)V"⟩ : MethodName)) (z := (⟨"com/example/halyard/halyard/engine/OperandStack", "push", "(Ljava/lang/Object;)V"⟩ : MethodName)) hown (hw _ (List.mem_of_getElem? (i := 21) rfl)) (hw _ (List.mem_of_getElem? (i := 22) rfl)) (hw _ (List.mem_of_getElem? (i := 24) rfl)) (hw _ (List.mem_of_getElem? (i := 24) rfl)) (hw _ (List.mem_of_getElem? (i := 23) rfl)) (hw _ (List.mem_of_getElem? (i := 25) rfl)) (hw _ (List.mem_of_getElem? (i := 3) rfl)) (notFace_of_selects (args := #[]) (mvT hZ (hw _ (List.mem_of_getElem? (i := 24) rfl)))) (by decide) (c_push_0A l Z a0 hw s1 ar r0 .null .null .null .null T63.heap n0 (Nat.le_trans Z0 x63.1) Sq63 (own_ST_sto Sq63 (Ins.of_exa (E_0.ext x63) (hw _ (List.mem_of_getElem? (i := 28) rfl)))) g1 g2) q64 Sq63.1 (argsL := [(.ref r0)]) (rest := []) (g := (mkF m 31 #[.val (.int i0), .val (.int i1), .val (.int (2 : Int32)), .val (.int (2 : Int32)), .val (.ref s1), .unset] [(.ref r0), (.ref s1)])) rfl (by rw [hml]; rfl) (ps := [(.object "java/lang/Object")]) (r := none) (by decide +kernel) rfl rfl (W := 0) (by show 2 * 0 + _ ≤ _; exact Nat.le_of_eq rfl) (hb hby at_31) (by decide) (by decide) (by decide) (by decide)
      have x65 := own_ext_keep x63 Kq65 (allS js (allS ja all0))
      have N65 := Fr.app N64 Nq65
      refine own_go st65 ?_
      show own_G p e below _ T65 (mkF m 34 #[.val (.int i0), .val (.int i1), .val (.int (2 : Int32)), .val (.int (2 : Int32)), .val (.ref s1), .unset] [])
      refine own_go (fun t k => XS.iloadN X65.here hx rfl (hb hby at_34) rfl k) ?_
      show own_G p e below _ T65 (mkF m 35 #[.val (.int i0), .val (.int i1), .val (.int (2 : Int32)), .val (.int (2 : Int32)), .val (.ref s1), .unset] [(.int (2 : Int32))])
      refine own_go (fun t k => XS.iconst X65.here hx rfl (hb hby at_35) k) ?_
      show own_G p e below _ T65 (mkF m 36 #[.val (.int i0), .val (.int i1), .val (.int (2 : Int32)), .val (.int (2 : Int32)), .val (.ref s1), .unset] [(.int (1 : Int32)), (.int (2 : Int32))])
      refine own_go (fun t k => XS.icmpNo X65.here hx rfl (hb hby at_36) rfl (by decide) k) ?_
      show own_G p e below _ T65 (mkF m 39 #[.val (.int i0), .val (.int i1), .val (.int (2 : Int32)), .val (.int (2 : Int32)), .val (.ref s1), .unset] [])
      refine own_go (fun t k => XS.aload X65.here hx rfl (hb hby at_39) rfl rfl k) ?_
      show own_G p e below _ T65 (mkF m 41 #[.val (.int i0), .val (.int i1), .val (.int (2 : Int32)), .val (.int (2 : Int32)), .val (.ref s1), .unset] [(.ref s1)])
      refine own_go (fun t k => XS.iconst X65.here hx rfl (hb hby at_41) k) ?_
      show own_G p e below _ T65 (mkF m 42 #[.val (.int i0), .val (.int i1), .val (.int (2 : Int32)), .val (.int (2 : Int32)), .val (.ref s1), .unset] [(.int (1 : Int32)), (.ref s1)])
      obtain ⟨T66, L66, v66, X66, ⟨rfl, rfl, q66⟩, st66⟩ := own_callS X65 hx hH (y := (⟨"java/lang/Integer", "valueOf", "(I)Ljava/lang/Integer;"⟩ : MethodName)) hown (hw _ (List.mem_of_getElem? (i := 14) rfl)) (hw _ (List.mem_of_getElem? (i := 15) rfl)) (hw _ (List.mem_of_getElem? (i := 16) rfl)) (hw _ (List.mem_of_getElem? (i := 17) rfl)) (by decide) (c_valueOf_1 l Z a0 hw ac r0 r1 r2 r3 clc T65.heap (own_B_ext x65 B)) rfl (argsL := [(.int (1 : Int32))]) (rest := [(.ref s1)]) (g := (mkF m 42 #[.val (.int i0), .val (.int i1), .val (.int (2 : Int32)), .val (.int (2 : Int32)), .val (.ref s1), .unset] [(.int (1 : Int32)), (.ref s1)])) rfl (by rw [hml]; rfl) (ps := [.int]) (r := (some (.object "java/lang/Integer"))) (by decide +kernel) rfl rfl (W := 1) (by show 2 * 0 + _ ≤ _; exact Nat.le_of_eq rfl) (hb hby at_42) (by decide) (by decide) (by decide) (by decide)
      have N66 := Fr.app N65 (Fr.nil n0)
      refine own_go st66 ?_
      show own_G p e below _ T66 (mkF m 45 #[.val (.int i0), .val (.int i1), .val (.int (2 : Int32)), .val (.int (2 : Int32)), .val (.ref s1), .unset] [(.ref r1), (.ref s1)])
      obtain ⟨T67, L67, v67, X67, ⟨rfl, Nq67, Kq67, Sq67⟩, st67⟩ := own_callV X66 hx hH (y := (⟨"com/example/halyard/halyard/engine/OperandStack", "push", "(Ljava/lang/Object;)V"⟩ : MethodName)) (z := (⟨"com/example/halyard/halyard/engine/OperandStack", "push", "(Ljava/lang/Object;)V"⟩ : MethodName)) hown (hw _ (List.mem_of_getElem? (i := 21) rfl)) (hw _ (List.mem_of_getElem? (i := 22) rfl)) (hw _ (List.mem_of_getElem? (i := 24) rfl)) (hw _ (List.mem_of_getElem? (i := 24) rfl)) (hw _ (List.mem_of_getElem? (i := 23) rfl)) (hw _ (List.mem_of_getElem? (i := 25) rfl)) (hw _ (List.mem_of_getElem? (i := 3) rfl)) (notFace_of_selects (args := #[]) (mvT hZ (hw _ (List.mem_of_getElem? (i := 24) rfl)))) (by decide) (c_push_1A l Z a0 hw s1 ar r1 (.ref r0) .null .null .null T65.heap n0 (Nat.le_trans Z0 x65.1) Sq65 (own_ST_sto Sq65 (Ins.of_exa (E_1.ext x65) (hw _ (List.mem_of_getElem? (i := 28) rfl)))) g1 g2) q66 Sq65.1 (argsL := [(.ref r1)]) (rest := []) (g := (mkF m 45 #[.val (.int i0), .val (.int i1), .val (.int (2 : Int32)), .val (.int (2 : Int32)), .val (.ref s1), .unset] [(.ref r1), (.ref s1)])) rfl (by rw [hml]; rfl) (ps := [(.object "java/lang/Object")]) (r := none) (by decide +kernel) rfl rfl (W := 0) (by show 2 * 0 + _ ≤ _; exact Nat.le_of_eq rfl) (hb hby at_45) (by decide) (by decide) (by decide) (by decide)
      have x67 := own_ext_keep x65 Kq67 (allS js (allS ja all0))
      have N67 := Fr.app N66 Nq67
      refine own_go st67 ?_
      show own_G p e below _ T67 (mkF m 48 #[.val (.int i0), .val (.int i1), .val (.int (2 : Int32)), .val (.int (2 : Int32)), .val (.ref s1), .unset] [])
      refine own_go (fun t k => XS.iloadN X67.here hx rfl (hb hby at_48) rfl k) ?_
      show own_G p e below _ T67 (mkF m 49 #[.val (.int i0), .val (.int i1), .val (.int (2 : Int32)), .val (.int (2 : Int32)), .val (.ref s1), .unset] [(.int (2 : Int32))])
      refine own_go (fun t k => XS.iconst X67.here hx rfl (hb hby at_49) k) ?_
      show own_G p e below _ T67 (mkF m 50 #[.val (.int i0), .val (.int i1), .val (.int (2 : Int32)), .val (.int (2 : Int32)), .val (.ref s1), .unset] [(.int (2 : Int32)), (.int (2 : Int32))])
      refine own_go (fun t k => XS.icmpNo X67.here hx rfl (hb hby at_50) rfl (by decide) k) ?_
      show own_G p e below _ T67 (mkF m 53 #[.val (.int i0), .val (.int i1), .val (.int (2 : Int32)), .val (.int (2 : Int32)), .val (.ref s1), .unset] [])
      refine own_go (fun t k => XS.aload X67.here hx rfl (hb hby at_53) rfl rfl k) ?_
      show own_G p e below _ T67 (mkF m 55 #[.val (.int i0), .val (.int i1), .val (.int (2 : Int32)), .val (.int (2 : Int32)), .val (.ref s1), .unset] [(.ref s1)])
      refine own_go (fun t k => XS.iconst X67.here hx rfl (hb hby at_55) k) ?_
      show own_G p e below _ T67 (mkF m 56 #[.val (.int i0), .val (.int i1), .val (.int (2 : Int32)), .val (.int (2 : Int32)), .val (.ref s1), .unset] [(.int (2 : Int32)), (.ref s1)])
      obtain ⟨T68, L68, v68, X68, ⟨rfl, rfl, q68⟩, st68⟩ := own_callS X67 hx hH (y := (⟨"java/lang/Integer", "valueOf", "(I)Ljava/lang/Integer;"⟩ : MethodName)) hown (hw _ (List.mem_of_getElem? (i := 14) rfl)) (hw _ (List.mem_of_getElem? (i := 15) rfl)) (hw _ (List.mem_of_getElem? (i := 16) rfl)) (hw _ (List.mem_of_getElem? (i := 17) rfl)) (by decide) (c_valueOf_2 l Z a0 hw ac r0 r1 r2 r3 clc T67.heap (own_B_ext x67 B)) rfl (argsL := [(.int (2 : Int32))]) (rest := [(.ref s1)]) (g := (mkF m 56 #[.val (.int i0), .val (.int i1), .val (.int (2 : Int32)), .val (.int (2 : Int32)), .val (.ref s1), .unset] [(.int (2 : Int32)), (.ref s1)])) rfl (by rw [hml]; rfl) (ps := [.int]) (r := (some (.object "java/lang/Integer"))) (by decide +kernel) rfl rfl (W := 1) (by show 2 * 0 + _ ≤ _; exact Nat.le_of_eq rfl) (hb hby at_56) (by decide) (by decide) (by decide) (by decide)
      have N68 := Fr.app N67 (Fr.nil n0)
      refine own_go st68 ?_
      show own_G p e below _ T68 (mkF m 59 #[.val (.int i0), .val (.int i1), .val (.int (2 : Int32)), .val (.int (2 : Int32)), .val (.ref s1), .unset] [(.ref r2), (.ref s1)])
      obtain ⟨T69, L69, v69, X69, ⟨rfl, Nq69, Kq69, Sq69⟩, st69⟩ := own_callV X68 hx hH (y := (⟨"com/example/halyard/halyard/engine/OperandStack", "push", "(Ljava/lang/Object;)V"⟩ : MethodName)) (z := (⟨"com/example/halyard/halyard/engine/OperandStack", "push", "(Ljava/lang/Object;)V"⟩ : MethodName)) hown (hw _ (List.mem_of_getElem? (i := 21) rfl)) (hw _ (List.mem_of_getElem? (i := 22) rfl)) (hw _ (List.mem_of_getElem? (i := 24) rfl)) (hw _ (List.mem_of_getElem? (i := 24) rfl)) (hw _ (List.mem_of_getElem? (i := 23) rfl)) (hw _ (List.mem_of_getElem? (i := 25) rfl)) (hw _ (List.mem_of_getElem? (i := 3) rfl)) (notFace_of_selects (args := #[]) (mvT hZ (hw _ (List.mem_of_getElem? (i := 24) rfl)))) (by decide) (c_push_2A l Z a0 hw s1 ar r2 (.ref r0) (.ref r1) .null .null T67.heap n0 (Nat.le_trans Z0 x67.1) Sq67 (own_ST_sto Sq67 (Ins.of_exa (E_2.ext x67) (hw _ (List.mem_of_getElem? (i := 28) rfl)))) g1 g2) q68 Sq67.1 (argsL := [(.ref r2)]) (rest := []) (g := (mkF m 59 #[.val (.int i0), .val (.int i1), .val (.int (2 : Int32)), .val (.int (2 : Int32)), .val (.ref s1), .unset] [(.ref r2), (.ref s1)])) rfl (by rw [hml]; rfl) (ps := [(.object "java/lang/Object")]) (r := none) (by decide +kernel) rfl rfl (W := 0) (by show 2 * 0 + _ ≤ _; exact Nat.le_of_eq rfl) (hb hby at_59) (by decide) (by decide) (by decide) (by decide)
      have x69 := own_ext_keep x67 Kq69 (allS js (allS ja all0))
      have N69 := Fr.app N68 Nq69
      refine own_go st69 ?_
      show own_G p e below _ T69 (mkF m 62 #[.val (.int i0), .val (.int i1), .val (.int (2 : Int32)), .val (.int (2 : Int32)), .val (.ref s1), .unset] [])
      refine own_go (fun t k => XS.iloadN X69.here hx rfl (hb hby at_62) rfl k) ?_
      show own_G p e below _ T69 (mkF m 63 #[.val (.int i0), .val (.int i1), .val (.int (2 : Int32)), .val (.int (2 : Int32)), .val (.ref s1), .unset] [(.int (2 : Int32))])
      refine own_go (fun t k => XS.iconst X69.here hx rfl (hb hby at_63) k) ?_
      show own_G p e below _ T69 (mkF m 64 #[.val (.int i0), .val (.int i1), .val (.int (2 : Int32)), .val (.int (2 : Int32)), .val (.ref s1), .unset] [(.int (3 : Int32)), (.int (2 : Int32))])
      refine own_go (fun t k => XS.icmpYes X69.here hx rfl (pc0 := 64) (pc' := 76) rfl (hb hby at_64) rfl (by decide) (by decide) (by decide) k) ?_
      show own_G p e below _ T69 (mkF m 76 #[.val (.int i0), .val (.int i1), .val (.int (2 : Int32)), .val (.int (2 : Int32)), .val (.ref s1), .unset] [])
      refine own_go (fun t k => XS.aload X69.here hx rfl (hb hby at_76) rfl rfl k) ?_
      show own_G p e below _ T69 (mkF m 78 #[.val (.int i0), .val (.int i1), .val (.int (2 : Int32)), .val (.int (2 : Int32)), .val (.ref s1), .unset] [(.ref s1)])
      refine own_go (fun t k => XS.iloadN X69.here hx rfl (hb hby at_78) rfl k) ?_
      show own_G p e below _ T69 (mkF m 79 #[.val (.int i0), .val (.int i1), .val (.int (2 : Int32)), .val (.int (2 : Int32)), .val (.ref s1), .unset] [(.int (2 : Int32)), (.ref s1)])
      obtain ⟨T70, L70, v70, X70, ⟨rfl, Nq70, Kq70, Sq70⟩, st70⟩ := own_callV X69 hx hH (y := (⟨"com/example/halyard/halyard/engine/OperandStack", "drop", "(I)V"⟩ : MethodName)) (z := (⟨"com/example/halyard/halyard/engine/OperandStack", "drop", "(I)V"⟩ : MethodName)) hown (hw _ (List.mem_of_getElem? (i := 29) rfl)) (hw _ (List.mem_of_getElem? (i := 30) rfl)) (hw _ (List.mem_of_getElem? (i := 32) rfl)) (hw _ (List.mem_of_getElem? (i := 32) rfl)) (hw _ (List.mem_of_getElem? (i := 31) rfl)) (hw _ (List.mem_of_getElem? (i := 33) rfl)) (hw _ (List.mem_of_getElem? (i := 3) rfl)) (notFace_of_selects (args := #[]) (mvT hZ (hw _ (List.mem_of_getElem? (i := 32) rfl)))) (by decide) (c_drop_3_2 l Z a0 hw s1 ar (.ref r0) (.ref r1) (.ref r2) .null T69.heap n0 (Nat.le_trans Z0 x69.1) Sq69 g1 g2) rfl Sq69.1 (argsL := [(.int (2 : Int32))]) (rest := []) (g := (mkF m 79 #[.val (.int i0), .val (.int i1), .val (.int (2 : Int32)), .val (.int (2 : Int32)), .val (.ref s1), .unset] [(.int (2 : Int32)), (.ref s1)])) rfl (by rw [hml]; rfl) (ps := [.int]) (r := none) (by decide +kernel) rfl rfl (W := 0) (by show 2 * 0 + _ ≤ _; exact Nat.le_of_eq rfl) (hb hby at_79) (by decide) (by decide) (by decide) (by decide)
      have x70 := own_ext_keep x69 Kq70 (allS js (allS ja all0))
      have N70 := Fr.app N69 Nq70
      refine own_go st70 ?_
      show own_G p e below _ T70 (mkF m 82 #[.val (.int i0), .val (.int i1), .val (.int (2 : Int32)), .val (.int (2 : Int32)), .val (.ref s1), .unset] [])
      refine own_go (fun t k => XS.iloadN X70.here hx rfl (hb hby at_82) rfl k) ?_
      show own_G p e below _ T70 (mkF m 83 #[.val (.int i0), .val (.int i1), .val (.int (2 : Int32)), .val (.int (2 : Int32)), .val (.ref s1), .unset] [(.int (2 : Int32))])
      refine own_go (fun t k => XS.iloadN X70.here hx rfl (hb hby at_83) rfl k) ?_
      show own_G p e below _ T70 (mkF m 84 #[.val (.int i0), .val (.int i1), .val (.int (2 : Int32)), .val (.int (2 : Int32)), .val (.ref s1), .unset] [(.int (2 : Int32)), (.int (2 : Int32))])
      refine own_go (fun t k => XS.isub X70.here hx rfl (hb hby at_84) rfl k) ?_
      show own_G p e below _ T70 (mkF m 85 #[.val (.int i0), .val (.int i1), .val (.int (2 : Int32)), .val (.int (2 : Int32)), .val (.ref s1), .unset] [(.int (0 : Int32))])
      refine own_go (fun t k => XS.istore X70.here hx rfl (hb hby at_85) rfl (l' := #[.val (.int i0), .val (.int i1), .val (.int (2 : Int32)), .val (.int (2 : Int32)), .val (.ref s1), .val (.int (0 : Int32))]) rfl k) ?_
      show own_G p e below _ T70 (mkF m 87 #[.val (.int i0), .val (.int i1), .val (.int (2 : Int32)), .val (.int (2 : Int32)), .val (.ref s1), .val (.int (0 : Int32))] [])
      refine own_go (fun t k => XS.aload X70.here hx rfl (hb hby at_87) rfl rfl k) ?_
      show own_G p e below _ T70 (mkF m 89 #[.val (.int i0), .val (.int i1), .val (.int (2 : Int32)), .val (.int (2 : Int32)), .val (.ref s1), .val (.int (0 : Int32))] [(.ref s1)])
      refine own_go (fun t k => XS.iconst X70.here hx rfl (hb hby at_89) k) ?_
      show own_G p e below _ T70 (mkF m 90 #[.val (.int i0), .val (.int i1), .val (.int (2 : Int32)), .val (.int (2 : Int32)), .val (.ref s1), .val (.int (0 : Int32))] [(.int (0 : Int32)), (.ref s1)])
      refine own_go (fun t k => XS.iloadN X70.here hx rfl (hb hby at_90) rfl k) ?_
      show own_G p e below _ T70 (mkF m 91 #[.val (.int i0), .val (.int i1), .val (.int (2 : Int32)), .val (.int (2 : Int32)), .val (.ref s1), .val (.int (0 : Int32))] [(.int (2 : Int32)), (.int (0 : Int32)), (.ref s1)])
      refine own_go (fun t k => XS.iload X70.here hx rfl (hb hby at_91) rfl k) ?_
      show own_G p e below _ T70 (mkF m 93 #[.val (.int i0), .val (.int i1), .val (.int (2 : Int32)), .val (.int (2 : Int32)), .val (.ref s1), .val (.int (0 : Int32))] [(.int (0 : Int32)), (.int (2 : Int32)), (.int (0 : Int32)), (.ref s1)])
      obtain ⟨T71, L71, v71, X71, ⟨rfl, rfl, q71⟩, st71⟩ := own_callS X70 hx hH (y := (⟨"com/example/halyard/halyard/engine/OperandStackDropPinLaw", "slot", "(Lcom/example/halyard/halyard/engine/OperandStack;III)Z"⟩ : MethodName)) hown (hw _ (List.mem_of_getElem? (i := 34) rfl)) (hw _ (List.mem_of_getElem? (i := 35) rfl)) (hw _ (List.mem_of_getElem? (i := 36) rfl)) (hw _ (List.mem_of_getElem? (i := 37) rfl)) (by decide) (c_slot_b0 l Z a0 hw s1 (2 : Int32) (0 : Int32) ar r0 .null .null .null T70.heap (by decide) (by decide) Sq70 (E_0.ext x70) (F_0.ext x70)) rfl (argsL := [(.ref s1), (.int (0 : Int32)), (.int (2 : Int32)), (.int (0 : Int32))]) (rest := []) (g := (mkF m 93 #[.val (.int i0), .val (.int i1), .val (.int (2 : Int32)), .val (.int (2 : Int32)), .val (.ref s1), .val (.int (0 : Int32))] [(.int (0 : Int32)), (.int (2 : Int32)), (.int (0 : Int32)), (.ref s1)])) rfl (by rw [hml]; rfl) (ps := [(.object "com/example/halyard/halyard/engine/OperandStack"), .int, .int, .int]) (r := (some .boolean)) (by decide +kernel) rfl rfl (W := 0) (by show 2 * 0 + _ ≤ _; exact Nat.le_of_eq rfl) (hb hby at_93) (by decide) (by decide) (by decide) (by decide)
      have x71 := own_ext_trans x70 q71
      have S71 := own_ST_ext q71 Sq70
      have N71 := Fr.app N70 (Fr.nil n0)
      refine own_go st71 ?_
      show own_G p e below _ T71 (mkF m 96 #[.val (.int i0), .val (.int i1), .val (.int (2 : Int32)), .val (.int (2 : Int32)), .val (.ref s1), .val (.int (0 : Int32))] [(.int (1 : Int32))])
      refine own_go (fun t k => XS.ifNo X71.here hx rfl (hb hby at_96) rfl (by decide) k) ?_
      show own_G p e below _ T71 (mkF m 99 #[.val (.int i0), .val (.int i1), .val (.int (2 : Int32)), .val (.int (2 : Int32)), .val (.ref s1), .val (.int (0 : Int32))] [])
      refine own_go (fun t k => XS.aload X71.here hx rfl (hb hby at_99) rfl rfl k) ?_
      show own_G p e below _ T71 (mkF m 101 #[.val (.int i0), .val (.int i1), .val (.int (2 : Int32)), .val (.int (2 : Int32)), .val (.ref s1), .val (.int (0 : Int32))] [(.ref s1)])
      refine own_go (fun t k => XS.iconst X71.here hx rfl (hb hby at_101) k) ?_
      show own_G p e below _ T71 (mkF m 102 #[.val (.int i0), .val (.int i1), .val (.int (2 : Int32)), .val (.int (2 : Int32)), .val (.ref s1), .val (.int (0 : Int32))] [(.int (1 : Int32)), (.ref s1)])
      refine own_go (fun t k => XS.iloadN X71.here hx rfl (hb hby at_102) rfl k) ?_
      show own_G p e below _ T71 (mkF m 103 #[.val (.int i0), .val (.int i1), .val (.int (2 : Int32)), .val (.int (2 : Int32)), .val (.ref s1), .val (.int (0 : Int32))] [(.int (2 : Int32)), (.int (1 : Int32)), (.ref s1)])
      refine own_go (fun t k => XS.iload X71.here hx rfl (hb hby at_103) rfl k) ?_
      show own_G p e below _ T71 (mkF m 105 #[.val (.int i0), .val (.int i1), .val (.int (2 : Int32)), .val (.int (2 : Int32)), .val (.ref s1), .val (.int (0 : Int32))] [(.int (0 : Int32)), (.int (2 : Int32)), (.int (1 : Int32)), (.ref s1)])
      obtain ⟨T72, L72, v72, X72, ⟨rfl, rfl, q72⟩, st72⟩ := own_callS X71 hx hH (y := (⟨"com/example/halyard/halyard/engine/OperandStackDropPinLaw", "slot", "(Lcom/example/halyard/halyard/engine/OperandStack;III)Z"⟩ : MethodName)) hown (hw _ (List.mem_of_getElem? (i := 34) rfl)) (hw _ (List.mem_of_getElem? (i := 35) rfl)) (hw _ (List.mem_of_getElem? (i := 36) rfl)) (hw _ (List.mem_of_getElem? (i := 37) rfl)) (by decide) (c_slot_c1 l Z a0 hw s1 (2 : Int32) (0 : Int32) ar (.ref r0) .null .null T71.heap (by decide) (by decide) S71) rfl (argsL := [(.ref s1), (.int (1 : Int32)), (.int (2 : Int32)), (.int (0 : Int32))]) (rest := []) (g := (mkF m 105 #[.val (.int i0), .val (.int i1), .val (.int (2 : Int32)), .val (.int (2 : Int32)), .val (.ref s1), .val (.int (0 : Int32))] [(.int (0 : Int32)), (.int (2 : Int32)), (.int (1 : Int32)), (.ref s1)])) rfl (by rw [hml]; rfl) (ps := [(.object "com/example/halyard/halyard/engine/OperandStack"), .int, .int, .int]) (r := (some .boolean)) (by decide +kernel) rfl rfl (W := 0) (by show 2 * 0 + _ ≤ _; exact Nat.le_of_eq rfl) (hb hby at_105) (by decide) (by decide) (by decide) (by decide)
      have x72 := own_ext_trans x71 q72
      have S72 := own_ST_ext q72 S71
      have N72 := Fr.app N71 (Fr.nil n0)
      refine own_go st72 ?_
      show own_G p e below _ T72 (mkF m 108 #[.val (.int i0), .val (.int i1), .val (.int (2 : Int32)), .val (.int (2 : Int32)), .val (.ref s1), .val (.int (0 : Int32))] [(.int (1 : Int32))])
      refine own_go (fun t k => XS.ifNo X72.here hx rfl (hb hby at_108) rfl (by decide) k) ?_
      show own_G p e below _ T72 (mkF m 111 #[.val (.int i0), .val (.int i1), .val (.int (2 : Int32)), .val (.int (2 : Int32)), .val (.ref s1), .val (.int (0 : Int32))] [])
      refine own_go (fun t k => XS.aload X72.here hx rfl (hb hby at_111) rfl rfl k) ?_
      show own_G p e below _ T72 (mkF m 113 #[.val (.int i0), .val (.int i1), .val (.int (2 : Int32)), .val (.int (2 : Int32)), .val (.ref s1), .val (.int (0 : Int32))] [(.ref s1)])
      refine own_go (fun t k => XS.iconst X72.here hx rfl (hb hby at_113) k) ?_
      show own_G p e below _ T72 (mkF m 114 #[.val (.int i0), .val (.int i1), .val (.int (2 : Int32)), .val (.int (2 : Int32)), .val (.ref s1), .val (.int (0 : Int32))] [(.int (2 : Int32)), (.ref s1)])
      refine own_go (fun t k => XS.iloadN X72.here hx rfl (hb hby at_114) rfl k) ?_
      show own_G p e below _ T72 (mkF m 115 #[.val (.int i0), .val (.int i1), .val (.int (2 : Int32)), .val (.int (2 : Int32)), .val (.ref s1), .val (.int (0 : Int32))] [(.int (2 : Int32)), (.int (2 : Int32)), (.ref s1)])
      refine own_go (fun t k => XS.iload X72.here hx rfl (hb hby at_115) rfl k) ?_
      show own_G p e below _ T72 (mkF m 117 #[.val (.int i0), .val (.int i1), .val (.int (2 : Int32)), .val (.int (2 : Int32)), .val (.ref s1), .val (.int (0 : Int32))] [(.int (0 : Int32)), (.int (2 : Int32)), (.int (2 : Int32)), (.ref s1)])
      obtain ⟨T73, L73, v73, X73, ⟨rfl, rfl, q73⟩, st73⟩ := own_callS X72 hx hH (y := (⟨"com/example/halyard/halyard/engine/OperandStackDropPinLaw", "slot", "(Lcom/example/halyard/halyard/engine/OperandStack;III)Z"⟩ : MethodName)) hown (hw _ (List.mem_of_getElem? (i := 34) rfl)) (hw _ (List.mem_of_getElem? (i := 35) rfl)) (hw _ (List.mem_of_getElem? (i := 36) rfl)) (hw _ (List.mem_of_getElem? (i := 37) rfl)) (by decide) (c_slot_c2 l Z a0 hw s1 (2 : Int32) (0 : Int32) ar (.ref r0) .null .null T72.heap (by decide) (by decide) S72) rfl (argsL := [(.ref s1), (.int (2 : Int32)), (.int (2 : Int32)), (.int (0 : Int32))]) (rest := []) (g := (mkF m 117 #[.val (.int i0), .val (.int i1), .val (.int (2 : Int32)), .val (.int (2 : Int32)), .val (.ref s1), .val (.int (0 : Int32))] [(.int (0 : Int32)), (.int (2 : Int32)), (.int (2 : Int32)), (.ref s1)])) rfl (by rw [hml]; rfl) (ps := [(.object "com/example/halyard/halyard/engine/OperandStack"), .int, .int, .int]) (r := (some .boolean)) (by decide +kernel) rfl rfl (W := 0) (by show 2 * 0 + _ ≤ _; exact Nat.le_of_eq rfl) (hb hby at_117) (by decide) (by decide) (by decide) (by decide)
      have x73 := own_ext_trans x72 q73
      have S73 := own_ST_ext q73 S72
      have N73 := Fr.app N72 (Fr.nil n0)
      refine own_go st73 ?_
      show own_G p e below _ T73 (mkF m 120 #[.val (.int i0), .val (.int i1), .val (.int (2 : Int32)), .val (.int (2 : Int32)), .val (.ref s1), .val (.int (0 : Int32))] [(.int (1 : Int32))])
      refine own_go (fun t k => XS.ifNo X73.here hx rfl (hb hby at_120) rfl (by decide) k) ?_
      show own_G p e below _ T73 (mkF m 123 #[.val (.int i0), .val (.int i1), .val (.int (2 : Int32)), .val (.int (2 : Int32)), .val (.ref s1), .val (.int (0 : Int32))] [])
      refine own_go (fun t k => XS.aload X73.here hx rfl (hb hby at_123) rfl rfl k) ?_
      show own_G p e below _ T73 (mkF m 125 #[.val (.int i0), .val (.int i1), .val (.int (2 : Int32)), .val (.int (2 : Int32)), .val (.ref s1), .val (.int (0 : Int32))] [(.ref s1)])
      refine own_go (fun t k => XS.iconst X73.here hx rfl (hb hby at_125) k) ?_
      show own_G p e below _ T73 (mkF m 126 #[.val (.int i0), .val (.int i1), .val (.int (2 : Int32)), .val (.int (2 : Int32)), .val (.ref s1), .val (.int (0 : Int32))] [(.int (3 : Int32)), (.ref s1)])
      refine own_go (fun t k => XS.iloadN X73.here hx rfl (hb hby at_126) rfl k) ?_
      show own_G p e below _ T73 (mkF m 127 #[.val (.int i0), .val (.int i1), .val (.int (2 : Int32)), .val (.int (2 : Int32)), .val (.ref s1), .val (.int (0 : Int32))] [(.int (2 : Int32)), (.int (3 : Int32)), (.ref s1)])
      refine own_go (fun t k => XS.iload X73.here hx rfl (hb hby at_127) rfl k) ?_
      show own_G p e below _ T73 (mkF m 129 #[.val (.int i0), .val (.int i1), .val (.int (2 : Int32)), .val (.int (2 : Int32)), .val (.ref s1), .val (.int (0 : Int32))] [(.int (0 : Int32)), (.int (2 : Int32)), (.int (3 : Int32)), (.ref s1)])
      obtain ⟨T74, L74, v74, X74, ⟨rfl, rfl, q74⟩, st74⟩ := own_callS X73 hx hH (y := (⟨"com/example/halyard/halyard/engine/OperandStackDropPinLaw", "slot", "(Lcom/example/halyard/halyard/engine/OperandStack;III)Z"⟩ : MethodName)) hown (hw _ (List.mem_of_getElem? (i := 34) rfl)) (hw _ (List.mem_of_getElem? (i := 35) rfl)) (hw _ (List.mem_of_getElem? (i := 36) rfl)) (hw _ (List.mem_of_getElem? (i := 37) rfl)) (by decide) (c_slot_a l Z a0 hw s1 (3 : Int32) (2 : Int32) (0 : Int32) T73.heap (by decide)) rfl (argsL := [(.ref s1), (.int (3 : Int32)), (.int (2 : Int32)), (.int (0 : Int32))]) (rest := []) (g := (mkF m 129 #[.val (.int i0), .val (.int i1), .val (.int (2 : Int32)), .val (.int (2 : Int32)), .val (.ref s1), .val (.int (0 : Int32))] [(.int (0 : Int32)), (.int (2 : Int32)), (.int (3 : Int32)), (.ref s1)])) rfl (by rw [hml]; rfl) (ps := [(.object "com/example/halyard/halyard/engine/OperandStack"), .int, .int, .int]) (r := (some .boolean)) (by decide +kernel) rfl rfl (W := 0) (by show 2 * 0 + _ ≤ _; exact Nat.le_of_eq rfl) (hb hby at_129) (by decide) (by decide) (by decide) (by decide)
      have x74 := own_ext_trans x73 q74
      have S74 := own_ST_ext q74 S73
      have N74 := Fr.app N73 (Fr.nil n0)
      refine own_go st74 ?_
      show own_G p e below _ T74 (mkF m 132 #[.val (.int i0), .val (.int i1), .val (.int (2 : Int32)), .val (.int (2 : Int32)), .val (.ref s1), .val (.int (0 : Int32))] [(.int (1 : Int32))])
      refine own_go (fun t k => XS.ifNo X74.here hx rfl (hb hby at_132) rfl (by decide) k) ?_
      show own_G p e below _ T74 (mkF m 135 #[.val (.int i0), .val (.int i1), .val (.int (2 : Int32)), .val (.int (2 : Int32)), .val (.ref s1), .val (.int (0 : Int32))] [])
      refine own_go (fun t k => XS.iconst X74.here hx rfl (hb hby at_135) k) ?_
      show own_G p e below _ T74 (mkF m 136 #[.val (.int i0), .val (.int i1), .val (.int (2 : Int32)), .val (.int (2 : Int32)), .val (.ref s1), .val (.int (0 : Int32))] [(.int (1 : Int32))])
      refine own_go (fun t k => XS.goto X74.here hx rfl (pc0 := 136) (pc' := 140) rfl (hb hby at_136) (by decide) (by decide) k) ?_
      show own_G p e below _ T74 (mkF m 140 #[.val (.int i0), .val (.int i1), .val (.int (2 : Int32)), .val (.int (2 : Int32)), .val (.ref s1), .val (.int (0 : Int32))] [(.int (1 : Int32))])
      exact own_retN X74 hx hlk hret (by simp) (hb hby at_140) (by decide) (by decide) ⟨rfl, N74⟩
  · rw [hk1]
    show own_G p e below _ T0 (mkF m 6 #[.val (.int i0), .val (.int i1), .unset, .unset, .unset, .unset] [(.int (3 : Int32))])
    refine own_go (fun t k => XS.istoreN X0.here hx rfl (hb hby at_6) rfl (l' := #[.val (.int i0), .val (.int i1), .val (.int (3 : Int32)), .unset, .unset, .unset]) rfl k) ?_
    show own_G p e below _ T0 (mkF m 7 #[.val (.int i0), .val (.int i1), .val (.int (3 : Int32)), .unset, .unset, .unset] [])
    refine own_go (fun t k => XS.iloadN X0.here hx rfl (hb hby at_7) rfl k) ?_
    show own_G p e below _ T0 (mkF m 8 #[.val (.int i0), .val (.int i1), .val (.int (3 : Int32)), .unset, .unset, .unset] [(.int i1)])
    refine own_go (X0.ldcInt hx hown (mvT hZ (hw _ (List.mem_of_getElem? (i := 0) rfl))) (g := (mkF m 8 #[.val (.int i0), .val (.int i1), .val (.int (3 : Int32)), .unset, .unset, .unset] [(.int i1)])) rfl (hb hby at_8)) ?_
    show own_G p e below _ T0 (mkF m 10 #[.val (.int i0), .val (.int i1), .val (.int (3 : Int32)), .unset, .unset, .unset] [(.int (2147483647 : Int32)), (.int i1)])
    refine own_go (fun t k => XS.iand X0.here hx rfl (hb hby at_10) rfl k) ?_
    show own_G p e below _ T0 (mkF m 11 #[.val (.int i0), .val (.int i1), .val (.int (3 : Int32)), .unset, .unset, .unset] [(.int (i1 &&& (2147483647 : Int32)))])
    refine own_go (fun t k => XS.iloadN X0.here hx rfl (hb hby at_11) rfl k) ?_
    show own_G p e below _ T0 (mkF m 12 #[.val (.int i0), .val (.int i1), .val (.int (3 : Int32)), .unset, .unset, .unset] [(.int (3 : Int32)), (.int (i1 &&& (2147483647 : Int32)))])
    refine own_go (fun t k => XS.iconst X0.here hx rfl (hb hby at_12) k) ?_
    show own_G p e below _ T0 (mkF m 13 #[.val (.int i0), .val (.int i1), .val (.int (3 : Int32)), .unset, .unset, .unset] [(.int (1 : Int32)), (.int (3 : Int32)), (.int (i1 &&& (2147483647 : Int32)))])
    refine own_go (fun t k => XS.iadd X0.here hx rfl (hb hby at_13) rfl k) ?_
    show own_G p e below _ T0 (mkF m 14 #[.val (.int i0), .val (.int i1), .val (.int (3 : Int32)), .unset, .unset, .unset] [(.int (4 : Int32)), (.int (i1 &&& (2147483647 : Int32)))])
    refine own_go (fun t k => iremM X0 hx rfl (hb hby at_14) rfl (by decide) k) ?_
    show own_G p e below _ T0 (mkF m 15 #[.val (.int i0), .val (.int i1), .val (.int (3 : Int32)), .unset, .unset, .unset] [(.int ((i1 &&& (2147483647 : Int32)) % (4 : Int32)))])
    rcases (own_l4 _ (own_rem _ 4 (own_mask i1) (by decide)).1 (Int.lt_add_one_iff.mp (own_rem _ 4 (own_mask i1) (by decide)).2)) with hk75 | hk75 | hk75 | hk75
    · rw [hk75]
      show own_G p e below _ T0 (mkF m 15 #[.val (.int i0), .val (.int i1), .val (.int (3 : Int32)), .unset, .unset, .unset] [(.int (0 : Int32))])
      refine own_go (fun t k => XS.istoreN X0.here hx rfl (hb hby at_15) rfl (l' := #[.val (.int i0), .val (.int i1), .val (.int (3 : Int32)), .val (.int (0 : Int32)), .unset, .unset]) rfl k) ?_
      show own_G p e below _ T0 (mkF m 16 #[.val (.int i0), .val (.int i1), .val (.int (3 : Int32)), .val (.int (0 : Int32)), .unset, .unset] [])
      obtain ⟨T76, h76, X76, e76, E76, A76, D76, -, st76⟩ := newO X0 hx hZ hown (hw _ (List.mem_of_getElem? (i := 1) rfl)) (hw _ (List.mem_of_getElem? (i := 2) rfl)) (hw _ (List.mem_of_getElem? (i := 3) rfl)) e0 (g := (mkF m 16 #[.val (.int i0), .val (.int i1), .val (.int (3 : Int32)), .val (.int (0 : Int32)), .unset, .unset] [])) rfl (hb hby at_16) (by decide) (by decide)
      obtain ⟨s1, gs⟩ : ∃ z, z = h0.size := ⟨_, rfl⟩
      rw [← gs] at A76 D76 st76
      have F1 : Fld Z h76 s1 own_K "values" "[Ljava/lang/Object;" .null := D76 (Or.inl (hw _ (List.mem_of_getElem? (i := 13) rfl))) (ty := .array (.object "java/lang/Object")) (by decide +kernel)
      have F2 : Fld Z h76 s1 own_K "size" "I" (.int (0 : Int32)) := D76 (Or.inl (hw _ (List.mem_of_getElem? (i := 27) rfl))) (ty := .int) (by decide)
      have x76 : Ext h0 h76 := E76
      have js : h0.size ≤ s1 := Nat.le_of_eq gs.symm
      have g1 : n0 ≤ s1 := Nat.le_trans Z0 js
      refine own_go st76 ?_
      show own_G p e below _ T76 (mkF m 19 #[.val (.int i0), .val (.int i1), .val (.int (3 : Int32)), .val (.int (0 : Int32)), .unset, .unset] [(.ref s1)])
      refine own_go (fun t k => XS.dup X76.here hx rfl (hb hby at_19) rfl rfl k) ?_
      show own_G p e below _ T76 (mkF m 20 #[.val (.int i0), .val (.int i1), .val (.int (3 : Int32)), .val (.int (0 : Int32)), .unset, .unset] [(.ref s1), (.ref s1)])
      obtain ⟨T77, L77, v77, X77, ⟨rfl, Nq77, Kq77, Sq77⟩, st77⟩ := own_callN X76 hx hH (y := (⟨"com/example/halyard/halyard/engine/OperandStack", "<init>", "()V"⟩ : MethodName)) rfl hown (hw _ (List.mem_of_getElem? (i := 4) rfl)) (hw _ (List.mem_of_getElem? (i := 5) rfl)) (hw _ (List.mem_of_getElem? (i := 6) rfl)) (hw _ (List.mem_of_getElem? (i := 3) rfl)) (by decide) (c_init l Z a0 hw s1 h76 n0 (Nat.le_trans Z0 x76.1) A76 F1 F2 g1) e76 (argsL := []) (rest := [(.ref s1)]) (g := (mkF m 20 #[.val (.int i0), .val (.int i1), .val (.int (3 : Int32)), .val (.int (0 : Int32)), .unset, .unset] [(.ref s1), (.ref s1)])) rfl (by rw [hml]; rfl) (ps := []) (r := none) (by decide +kernel) rfl rfl (W := 1) (by show 2 * 0 + _ ≤ _; exact Nat.le_of_eq rfl) (hb hby at_20) (by decide) (by decide) (by decide) (by decide)
      obtain ⟨ar, ga⟩ : ∃ z, z = h76.size := ⟨_, rfl⟩
      rw [← ga] at Sq77
      have ja : h0.size ≤ ar := Nat.le_trans x76.1 (Nat.le_of_eq ga.symm)
      have g2 : n0 ≤ ar := Nat.le_trans Z0 ja
      have x77 := own_ext_keep x76 Kq77 (allS js all0)
      have N77 := Fr.app N0 Nq77
      refine own_go st77 ?_
      show own_G p e below _ T77 (mkF m 23 #[.val (.int i0), .val (.int i1), .val (.int (3 : Int32)), .val (.int (0 : Int32)), .unset, .unset] [(.ref s1)])
      refine own_go (fun t k => XS.astore X77.here hx rfl (hb hby at_23) rfl rfl (l' := #[.val (.int i0), .val (.int i1), .val (.int (3 : Int32)), .val (.int (0 : Int32)), .val (.ref s1), .unset]) rfl k) ?_
      show own_G p e below _ T77 (mkF m 25 #[.val (.int i0), .val (.int i1), .val (.int (3 : Int32)), .val (.int (0 : Int32)), .val (.ref s1), .unset] [])
      refine own_go (fun t k => XS.aload X77.here hx rfl (hb hby at_25) rfl rfl k) ?_
      show own_G p e below _ T77 (mkF m 27 #[.val (.int i0), .val (.int i1), .val (.int (3 : Int32)), .val (.int (0 : Int32)), .val (.ref s1), .unset] [(.ref s1)])
      refine own_go (fun t k => XS.iconst X77.here hx rfl (hb hby at_27) k) ?_
      show own_G p e below _ T77 (mkF m 28 #[.val (.int i0), .val (.int i1), .val (.int (3 : Int32)), .val (.int (0 : Int32)), .val (.ref s1), .unset] [(.int (0 : Int32)), (.ref s1)])
      obtain ⟨T78, L78, v78, X78, ⟨rfl, rfl, q78⟩, st78⟩ := own_callS X77 hx hH (y := (⟨"java/lang/Integer", "valueOf", "(I)Ljava/lang/Integer;"⟩ : MethodName)) hown (hw _ (List.mem_of_getElem? (i := 14) rfl)) (hw _ (List.mem_of_getElem? (i := 15) rfl)) (hw _ (List.mem_of_getElem? (i := 16) rfl)) (hw _ (List.mem_of_getElem? (i := 17) rfl)) (by decide) (c_valueOf_0 l Z a0 hw ac r0 r1 r2 r3 clc T77.heap (own_B_ext x77 B)) rfl (argsL := [(.int (0 : Int32))]) (rest := [(.ref s1)]) (g := (mkF m 28 #[.val (.int i0), .val (.int i1), .val (.int (3 : Int32)), .val (.int (0 : Int32)), .val (.ref s1), .unset] [(.int (0 : Int32)), (.ref s1)])) rfl (by rw [hml]; rfl) (ps := [.int]) (r := (some (.object "java/lang/Integer"))) (by decide +kernel) rfl rfl (W := 1) (by show 2 * 0 + _ ≤ _; exact Nat.le_of_eq rfl) (hb hby at_28) (by decide) (by decide) (by decide) (by decide)
      have N78 := Fr.app N77 (Fr.nil n0)
      refine own_go st78 ?_
      show own_G p e below _ T78 (mkF m 31 #[.val (.int i0), .val (.int i1), .val (.int (3 : Int32)), .val (.int (0 : Int32)), .val (.ref s1), .unset] [(.ref r0), (.ref s1)])
      obtain ⟨T79, L79, v79, X79, ⟨rfl, Nq79, Kq79, Sq79⟩, st79⟩ := own_callV X78 hx hH (y := (⟨"com/example/halyard/halyard/engine/OperandStack", "push", "(Ljava/lang/Object;)V"⟩ : MethodName)) (z := (⟨"com/example/halyard/halyard/engine/OperandStack", "push", "(Ljava/lang/Object;)V"⟩ : MethodName)) hown (hw _ (List.mem_of_getElem? (i := 21) rfl)) (hw _ (List.mem_of_getElem? (i := 22) rfl)) (hw _ (List.mem_of_getElem? (i := 24) rfl)) (hw _ (List.mem_of_getElem? (i := 24) rfl)) (hw _ (List.mem_of_getElem? (i := 23) rfl)) (hw _ (List.mem_of_getElem? (i := 25) rfl)) (hw _ (List.mem_of_getElem? (i := 3) rfl)) (notFace_of_selects (args := #[]) (mvT hZ (hw _ (List.mem_of_getElem? (i := 24) rfl)))) (by decide) (c_push_0A l Z a0 hw s1 ar r0 .null .null .null .null T77.heap n0 (Nat.le_trans Z0 x77.1) Sq77 (own_ST_sto Sq77 (Ins.of_exa (E_0.ext x77) (hw _ (List.mem_of_getElem? (i := 28) rfl)))) g1 g2) q78 Sq77.1 (argsL := [(.ref r0)]) (rest := []) (g := (mkF m 31 #[.val (.int i0), .val (.int i1), .val (.int (3 : Int32)), .val (.int (0 : Int32)), .val (.ref s1), .unset] [(.ref r0), (.ref s1)])) rfl (by rw [hml]; rfl) (ps := [(.object "java/lang/Object")]) (r := none) (by decide +kernel) rfl rfl (W := 0) (by show 2 * 0 + _ ≤ _; exact Nat.le_of_eq rfl) (hb hby at_31) (by decide) (by decide) (by decide) (by decide)
      have x79 := own_ext_keep x77 Kq79 (allS js (allS ja all0))
      have N79 := Fr.app N78 Nq79
      refine own_go st79 ?_
      show own_G p e below _ T79 (mkF m 34 #[.val (.int i0), .val (.int i1), .val (.int (3 : Int32)), .val (.int (0 : Int32)), .val (.ref s1), .unset] [])
      refine own_go (fun t k => XS.iloadN X79.here hx rfl (hb hby at_34) rfl k) ?_
      show own_G p e below _ T79 (mkF m 35 #[.val (.int i0), .val (.int i1), .val (.int (3 : Int32)), .val (.int (0 : Int32)), .val (.ref s1), .unset] [(.int (3 : Int32))])
      refine own_go (fun t k => XS.iconst X79.here hx rfl (hb hby at_35) k) ?_
      show own_G p e below _ T79 (mkF m 36 #[.val (.int i0), .val (.int i1), .val (.int (3 : Int32)), .val (.int (0 : Int32)), .val (.ref s1), .unset] [(.int (1 : Int32)), (.int (3 : Int32))])
      refine own_go (fun t k => XS.icmpNo X79.here hx rfl (hb hby at_36) rfl (by decide) k) ?_
      show own_G p e below _ T79 (mkF m 39 #[.val (.int i0), .val (.int i1), .val (.int (3 : Int32)), .val (.int (0 : Int32)), .val (.ref s1), .unset] [])
      refine own_go (fun t k => XS.aload X79.here hx rfl (hb hby at_39) rfl rfl k) ?_
      show own_G p e below _ T79 (mkF m 41 #[.val (.int i0), .val (.int i1), .val (.int (3 : Int32)), .val (.int (0 : Int32)), .val (.ref s1), .unset] [(.ref s1)])
      refine own_go (fun t k => XS.iconst X79.here hx rfl (hb hby at_41) k) ?_
      show own_G p e below _ T79 (mkF m 42 #[.val (.int i0), .val (.int i1), .val (.int (3 : Int32)), .val (.int (0 : Int32)), .val (.ref s1), .unset] [(.int (1 : Int32)), (.ref s1)])
      obtain ⟨T80, L80, v80, X80, ⟨rfl, rfl, q80⟩, st80⟩ := own_callS X79 hx hH (y := (⟨"java/lang/Integer", "valueOf", "(I)Ljava/lang/Integer;"⟩ : MethodName)) hown (hw _ (List.mem_of_getElem? (i := 14) rfl)) (hw _ (List.mem_of_getElem? (i := 15) rfl)) (hw _ (List.mem_of_getElem? (i := 16) rfl)) (hw _ (List.mem_of_getElem? (i := 17) rfl)) (by decide) (c_valueOf_1 l Z a0 hw ac r0 r1 r2 r3 clc T79.heap (own_B_ext x79 B)) rfl (argsL := [(.int (1 : Int32))]) (rest := [(.ref s1)]) (g := (mkF m 42 #[.val (.int i0), .val (.int i1), .val (.int (3 : Int32)), .val (.int (0 : Int32)), .val (.ref s1), .unset] [(.int (1 : Int32)), (.ref s1)])) rfl (by rw [hml]; rfl) (ps := [.int]) (r := (some (.object "java/lang/Integer"))) (by decide +kernel) rfl rfl (W := 1) (by show 2 * 0 + _ ≤ _; exact Nat.le_of_eq rfl) (hb hby at_42) (by decide) (by decide) (by decide) (by decide)
      have N80 := Fr.app N79 (Fr.nil n0)
      refine own_go st80 ?_
      show own_G p e below _ T80 (mkF m 45 #[.val (.int i0), .val (.int i1), .val (.int (3 : Int32)), .val (.int (0 : Int32)), .val (.ref s1), .unset] [(.ref r1), (.ref s1)])
      obtain ⟨T81, L81, v81, X81, ⟨rfl, Nq81, Kq81, Sq81⟩, st81⟩ := own_callV X80 hx hH (y := (⟨"com/example/halyard/halyard/engine/OperandStack", "push", "(Ljava/lang/Object;)V"⟩ : MethodName)) (z := (⟨"com/example/halyard/halyard/engine/OperandStack", "push", "(Ljava/lang/Object;)V"⟩ : MethodName)) hown (hw _ (List.mem_of_getElem? (i := 21) rfl)) (hw _ (List.mem_of_getElem? (i := 22) rfl)) (hw _ (List.mem_of_getElem? (i := 24) rfl)) (hw _ (List.mem_of_getElem? (i := 24) rfl)) (hw _ (List.mem_of_getElem? (i := 23) rfl)) (hw _ (List.mem_of_getElem? (i := 25) rfl)) (hw _ (List.mem_of_getElem? (i := 3) rfl)) (notFace_of_selects (args := #[]) (mvT hZ (hw _ (List.mem_of_getElem? (i := 24) rfl)))) (by decide) (c_push_1A l Z a0 hw s1 ar r1 (.ref r0) .null .null .null T79.heap n0 (Nat.le_trans Z0 x79.1) Sq79 (own_ST_sto Sq79 (Ins.of_exa (E_1.ext x79) (hw _ (List.mem_of_getElem? (i := 28) rfl)))) g1 g2) q80 Sq79.1 (argsL := [(.ref r1)]) (rest := []) (g := (mkF m 45 #[.val (.int i0), .val (.int i1), .val (.int (3 : Int32)), .val (.int (0 : Int32)), .val (.ref s1), .unset] [(.ref r1), (.ref s1)])) rfl (by rw [hml]; rfl) (ps := [(.object "java/lang/Object")]) (r := none) (by decide +kernel) rfl rfl (W := 0) (by show 2 * 0 + _ ≤ _; exact Nat.le_of_eq rfl) (hb hby at_45) (by decide) (by decide) (by decide) (by decide)
      have x81 := own_ext_keep x79 Kq81 (allS js (allS ja all0))
      have N81 := Fr.app N80 Nq81
      refine own_go st81 ?_
      show own_G p e below _ T81 (mkF m 48 #[.val (.int i0), .val (.int i1), .val (.int (3 : Int32)), .val (.int (0 : Int32)), .val (.ref s1), .unset] [])
      refine own_go (fun t k => XS.iloadN X81.here hx rfl (hb hby at_48) rfl k) ?_
      show own_G p e below _ T81 (mkF m 49 #[.val (.int i0), .val (.int i1), .val (.int (3 : Int32)), .val (.int (0 : Int32)), .val (.ref s1), .unset] [(.int (3 : Int32))])
      refine own_go (fun t k => XS.iconst X81.here hx rfl (hb hby at_49) k) ?_
      show own_G p e below _ T81 (mkF m 50 #[.val (.int i0), .val (.int i1), .val (.int (3 : Int32)), .val (.int (0 : Int32)), .val (.ref s1), .unset] [(.int (2 : Int32)), (.int (3 : Int32))])
      refine own_go (fun t k => XS.icmpNo X81.here hx rfl (hb hby at_50) rfl (by decide) k) ?_
      show own_G p e below _ T81 (mkF m 53 #[.val (.int i0), .val (.int i1), .val (.int (3 : Int32)), .val (.int (0 : Int32)), .val (.ref s1), .unset] [])
      refine own_go (fun t k => XS.aload X81.here hx rfl (hb hby at_53) rfl rfl k) ?_
      show own_G p e below _ T81 (mkF m 55 #[.val (.int i0), .val (.int i1), .val (.int (3 : Int32)), .val (.int (0 : Int32)), .val (.ref s1), .unset] [(.ref s1)])
      refine own_go (fun t k => XS.iconst X81.here hx rfl (hb hby at_55) k) ?_
      show own_G p e below _ T81 (mkF m 56 #[.val (.int i0), .val (.int i1), .val (.int (3 : Int32)), .val (.int (0 : Int32)), .val (.ref s1), .unset] [(.int (2 : Int32)), (.ref s1)])
      obtain ⟨T82, L82, v82, X82, ⟨rfl, rfl, q82⟩, st82⟩ := own_callS X81 hx hH (y := (⟨"java/lang/Integer", "valueOf", "(I)Ljava/lang/Integer;"⟩ : MethodName)) hown (hw _ (List.mem_of_getElem? (i := 14) rfl)) (hw _ (List.mem_of_getElem? (i := 15) rfl)) (hw _ (List.mem_of_getElem? (i := 16) rfl)) (hw _ (List.mem_of_getElem? (i := 17) rfl)) (by decide) (c_valueOf_2 l Z a0 hw ac r0 r1 r2 r3 clc T81.heap (own_B_ext x81 B)) rfl (argsL := [(.int (2 : Int32))]) (rest := [(.ref s1)]) (g := (mkF m 56 #[.val (.int i0), .val (.int i1), .val (.int (3 : Int32)), .val (.int (0 : Int32)), .val (.ref s1), .unset] [(.int (2 : Int32)), (.ref s1)])) rfl (by rw [hml]; rfl) (ps := [.int]) (r := (some (.object "java/lang/Integer"))) (by decide +kernel) rfl rfl (W := 1) (by show 2 * 0 + _ ≤ _; exact Nat.le_of_eq rfl) (hb hby at_56) (by decide) (by decide) (by decide) (by decide)
      have N82 := Fr.app N81 (Fr.nil n0)
      refine own_go st82 ?_
      show own_G p e below _ T82 (mkF m 59 #[.val (.int i0), .val (.int i1), .val (.int (3 : Int32)), .val (.int (0 : Int32)), .val (.ref s1), .unset] [(.ref r2), (.ref s1)])
      obtain ⟨T83, L83, v83, X83, ⟨rfl, Nq83, Kq83, Sq83⟩, st83⟩ := own_callV X82 hx hH (y := (⟨"com/example/halyard/halyard/engine/OperandStack", "push", "(Ljava/lang/Object;)V"⟩ : MethodName)) (z := (⟨"com/example/halyard/halyard/engine/OperandStack", "push", "(Ljava/lang/Object;)V"⟩ : MethodName)) hown (hw _ (List.mem_of_getElem? (i := 21) rfl)) (hw _ (List.mem_of_getElem? (i := 22) rfl)) (hw _ (List.mem_of_getElem? (i := 24) rfl)) (hw _ (List.mem_of_getElem? (i := 24) rfl)) (hw _ (List.mem_of_getElem? (i := 23) rfl)) (hw _ (List.mem_of_getElem? (i := 25) rfl)) (hw _ (List.mem_of_getElem? (i := 3) rfl)) (notFace_of_selects (args := #[]) (mvT hZ (hw _ (List.mem_of_getElem? (i := 24) rfl)))) (by decide) (c_push_2A l Z a0 hw s1 ar r2 (.ref r0) (.ref r1) .null .null T81.heap n0 (Nat.le_trans Z0 x81.1) Sq81 (own_ST_sto Sq81 (Ins.of_exa (E_2.ext x81) (hw _ (List.mem_of_getElem? (i := 28) rfl)))) g1 g2) q82 Sq81.1 (argsL := [(.ref r2)]) (rest := []) (g := (mkF m 59 #[.val (.int i0), .val (.int i1), .val (.int (3 : Int32)), .val (.int (0 : Int32)), .val (.ref s1), .unset] [(.ref r2), (.ref s1)])) rfl (by rw [hml]; rfl) (ps := [(.object "java/lang/Object")]) (r := none) (by decide +kernel) rfl rfl (W := 0) (by show 2 * 0 + _ ≤ _; exact Nat.le_of_eq rfl) (hb hby at_59) (by decide) (by decide) (by decide) (by decide)
      have x83 := own_ext_keep x81 Kq83 (allS js (allS ja all0))
      have N83 := Fr.app N82 Nq83
      refine own_go st83 ?_
      show own_G p e below _ T83 (mkF m 62 #[.val (.int i0), .val (.int i1), .val (.int (3 : Int32)), .val (.int (0 : Int32)), .val (.ref s1), .unset] [])
      refine own_go (fun t k => XS.iloadN X83.here hx rfl (hb hby at_62) rfl k) ?_
      show own_G p e below _ T83 (mkF m 63 #[.val (.int i0), .val (.int i1), .val (.int (3 : Int32)), .val (.int (0 : Int32)), .val (.ref s1), .unset] [(.int (3 : Int32))])
      refine own_go (fun t k => XS.iconst X83.here hx rfl (hb hby at_63) k) ?_
      show own_G p e below _ T83 (mkF m 64 #[.val (.int i0), .val (.int i1), .val (.int (3 : Int32)), .val (.int (0 : Int32)), .val (.ref s1), .unset] [(.int (3 : Int32)), (.int (3 : Int32))])
      refine own_go (fun t k => XS.icmpNo X83.here hx rfl (hb hby at_64) rfl (by decide) k) ?_
      show own_G p e below _ T83 (mkF m 67 #[.val (.int i0), .val (.int i1), .val (.int (3 : Int32)), .val (.int (0 : Int32)), .val (.ref s1), .unset] [])
      refine own_go (fun t k => XS.aload X83.here hx rfl (hb hby at_67) rfl rfl k) ?_
      show own_G p e below _ T83 (mkF m 69 #[.val (.int i0), .val (.int i1), .val (.int (3 : Int32)), .val (.int (0 : Int32)), .val (.ref s1), .unset] [(.ref s1)])
      refine own_go (fun t k => XS.iconst X83.here hx rfl (hb hby at_69) k) ?_
      show own_G p e below _ T83 (mkF m 70 #[.val (.int i0), .val (.int i1), .val (.int (3 : Int32)), .val (.int (0 : Int32)), .val (.ref s1), .unset] [(.int (3 : Int32)), (.ref s1)])
      obtain ⟨T84, L84, v84, X84, ⟨rfl, rfl, q84⟩, st84⟩ := own_callS X83 hx hH (y := (⟨"java/lang/Integer", "valueOf", "(I)Ljava/lang/Integer;"⟩ : MethodName)) hown (hw _ (List.mem_of_getElem? (i := 14) rfl)) (hw _ (List.mem_of_getElem? (i := 15) rfl)) (hw _ (List.mem_of_getElem? (i := 16) rfl)) (hw _ (List.mem_of_getElem? (i := 17) rfl)) (by decide) (c_valueOf_3 l Z a0 hw ac r0 r1 r2 r3 clc T83.heap (own_B_ext x83 B)) rfl (argsL := [(.int (3 : Int32))]) (rest := [(.ref s1)]) (g := (mkF m 70 #[.val (.int i0), .val (.int i1), .val (.int (3 : Int32)), .val (.int (0 : Int32)), .val (.ref s1), .unset] [(.int (3 : Int32)), (.ref s1)])) rfl (by rw [hml]; rfl) (ps := [.int]) (r := (some (.object "java/lang/Integer"))) (by decide +kernel) rfl rfl (W := 1) (by show 2 * 0 + _ ≤ _; exact Nat.le_of_eq rfl) (hb hby at_70) (by decide) (by decide) (by decide) (by decide)
      have N84 := Fr.app N83 (Fr.nil n0)
      refine own_go st84 ?_
      show own_G p e below _ T84 (mkF m 73 #[.val (.int i0), .val (.int i1), .val (.int (3 : Int32)), .val (.int (0 : Int32)), .val (.ref s1), .unset] [(.ref r3), (.ref s1)])
      obtain ⟨T85, L85, v85, X85, ⟨rfl, Nq85, Kq85, Sq85⟩, st85⟩ := own_callV X84 hx hH (y := (⟨"com/example/halyard/halyard/engine/OperandStack", "push", "(Ljava/lang/Object;)V"⟩ : MethodName)) (z := (⟨"com/example/halyard/halyard/engine/OperandStack", "push", "(Ljava/lang/Object;)V"⟩ : MethodName)) hown (hw _ (List.mem_of_getElem? (i := 21) rfl)) (hw _ (List.mem_of_getElem? (i := 22) rfl)) (hw _ (List.mem_of_getElem? (i := 24) rfl)) (hw _ (List.mem_of_getElem? (i := 24) rfl)) (hw _ (List.mem_of_getElem? (i := 23) rfl)) (hw _ (List.mem_of_getElem? (i := 25) rfl)) (hw _ (List.mem_of_getElem? (i := 3) rfl)) (notFace_of_selects (args := #[]) (mvT hZ (hw _ (List.mem_of_getElem? (i := 24) rfl)))) (by decide) (c_push_3A l Z a0 hw s1 ar r3 (.ref r0) (.ref r1) (.ref r2) .null T83.heap n0 (Nat.le_trans Z0 x83.1) Sq83 (own_ST_sto Sq83 (Ins.of_exa (E_3.ext x83) (hw _ (List.mem_of_getElem? (i := 28) rfl)))) g1 g2) q84 Sq83.1 (argsL := [(.ref r3)]) (rest := []) (g := (mkF m 73 #[.val (.int i0), .val (.int i1), .val (.int (3 : Int32)), .val (.int (0 : Int32)), .val (.ref s1), .unset] [(.ref r3), (.ref s1)])) rfl (by rw [hml]; rfl) (ps := [(.object "java/lang/Object")]) (r := none) (by decide +kernel) rfl rfl (W := 0) (by show 2 * 0 + _ ≤ _; exact Nat.le_of_eq rfl) (hb hby at_73) (by decide) (by decide) (by decide) (by decide)
      have x85 := own_ext_keep x83 Kq85 (allS js (allS ja all0))
      have N85 := Fr.app N84 Nq85
      refine own_go st85 ?_
      show own_G p e below _ T85 (mkF m 76 #[.val (.int i0), .val (.int i1), .val (.int (3 : Int32)), .val (.int (0 : Int32)), .val (.ref s1), .unset] [])
      refine own_go (fun t k => XS.aload X85.here hx rfl (hb hby at_76) rfl rfl k) ?_
      show own_G p e below _ T85 (mkF m 78 #[.val (.int i0), .val (.int i1), .val (.int (3 : Int32)), .val (.int (0 : Int32)), .val (.ref s1), .unset] [(.ref s1)])
      refine own_go (fun t k => XS.iloadN X85.here hx rfl (hb hby at_78) rfl k) ?_
      show own_G p e below _ T85 (mkF m 79 #[.val (.int i0), .val (.int i1), .val (.int (3 : Int32)), .val (.int (0 : Int32)), .val (.ref s1), .unset] [(.int (0 : Int32)), (.ref s1)])
      obtain ⟨T86, L86, v86, X86, ⟨rfl, Nq86, Kq86, Sq86⟩, st86⟩ := own_callV X85 hx hH (y := (⟨"com/example/halyard/halyard/engine/OperandStack", "drop", "(I)V"⟩ : MethodName)) (z := (⟨"com/example/halyard/halyard/engine/OperandStack", "drop", "(I)V"⟩ : MethodName)) hown (hw _ (List.mem_of_getElem? (i := 29) rfl)) (hw _ (List.mem_of_getElem? (i := 30) rfl)) (hw _ (List.mem_of_getElem? (i := 32) rfl)) (hw _ (List.mem_of_getElem? (i := 32) rfl)) (hw _ (List.mem_of_getElem? (i := 31) rfl)) (hw _ (List.mem_of_getElem? (i := 33) rfl)) (hw _ (List.mem_of_getElem? (i := 3) rfl)) (notFace_of_selects (args := #[]) (mvT hZ (hw _ (List.mem_of_getElem? (i := 32) rfl)))) (by decide) (c_drop_4_0 l Z a0 hw s1 ar (.ref r0) (.ref r1) (.ref r2) (.ref r3) T85.heap n0 (Nat.le_trans Z0 x85.1) Sq85 g1 g2) rfl Sq85.1 (argsL := [(.int (0 : Int32))]) (rest := []) (g := (mkF m 79 #[.val (.int i0), .val (.int i1), .val (.int (3 : Int32)), .val (.int (0 : Int32)), .val (.ref s1), .unset] [(.int (0 : Int32)), (.ref s1)])) rfl (by rw [hml]; rfl) (ps := [.int]) (r := none) (by decide +kernel) rfl rfl (W := 0) (by show 2 * 0 + _ ≤ _; exact Nat.le_of_eq rfl) (hb hby at_79) (by decide) (by decide) (by decide) (by decide)
      have x86 := own_ext_keep x85 Kq86 (allS js (allS ja all0))
      have N86 := Fr.app N85 Nq86
      refine own_go st86 ?_
      show own_G p e below _ T86 (mkF m 82 #[.val (.int i0), .val (.int i1), .val (.int (3 : Int32)), .val (.int (0 : Int32)), .val (.ref s1), .unset] [])
      refine own_go (fun t k => XS.iloadN X86.here hx rfl (hb hby at_82) rfl k) ?_
      show own_G p e below _ T86 (mkF m 83 #[.val (.int i0), .val (.int i1), .val (.int (3 : Int32)), .val (.int (0 : Int32)), .val (.ref s1), .unset] [(.int (3 : Int32))])
      refine own_go (fun t k => XS.iloadN X86.here hx rfl (hb hby at_83) rfl k) ?_
      show own_G p e below _ T86 (mkF m 84 #[.val (.int i0), .val (.int i1), .val (.int (3 : Int32)), .val (.int (0 : Int32)), .val (.ref s1), .unset] [(.int (0 : Int32)), (.int (3 : Int32))])
      refine own_go (fun t k => XS.isub X86.here hx rfl (hb hby at_84) rfl k) ?_
      show own_G p e below _ T86 (mkF m 85 #[.val (.int i0), .val (.int i1), .val (.int (3 : Int32)), .val (.int (0 : Int32)), .val (.ref s1), .unset] [(.int (3 : Int32))])
      refine own_go (fun t k => XS.istore X86.here hx rfl (hb hby at_85) rfl (l' := #[.val (.int i0), .val (.int i1), .val (.int (3 : Int32)), .val (.int (0 : Int32)), .val (.ref s1), .val (.int (3 : Int32))]) rfl k) ?_
      show own_G p e below _ T86 (mkF m 87 #[.val (.int i0), .val (.int i1), .val (.int (3 : Int32)), .val (.int (0 : Int32)), .val (.ref s1), .val (.int (3 : Int32))] [])
      refine own_go (fun t k => XS.aload X86.here hx rfl (hb hby at_87) rfl rfl k) ?_
      show own_G p e below _ T86 (mkF m 89 #[.val (.int i0), .val (.int i1), .val (.int (3 : Int32)), .val (.int (0 : Int32)), .val (.ref s1), .val (.int (3 : Int32))] [(.ref s1)])
      refine own_go (fun t k => XS.iconst X86.here hx rfl (hb hby at_89) k) ?_
      show own_G p e below _ T86 (mkF m 90 #[.val (.int i0), .val (.int i1), .val (.int (3 : Int32)), .val (.int (0 : Int32)), .val (.ref s1), .val (.int (3 : Int32))] [(.int (0 : Int32)), (.ref s1)])
      refine own_go (fun t k => XS.iloadN X86.here hx rfl (hb hby at_90) rfl k) ?_
      show own_G p e below _ T86 (mkF m 91 #[.val (.int i0), .val (.int i1), .val (.int (3 : Int32)), .val (.int (0 : Int32)), .val (.ref s1), .val (.int (3 : Int32))] [(.int (3 : Int32)), (.int (0 : Int32)), (.ref s1)])
      refine own_go (fun t k => XS.iload X86.here hx rfl (hb hby at_91) rfl k) ?_
      show own_G p e below _ T86 (mkF m 93 #[.val (.int i0), .val (.int i1), .val (.int (3 : Int32)), .val (.int (0 : Int32)), .val (.ref s1), .val (.int (3 : Int32))] [(.int (3 : Int32)), (.int (3 : Int32)), (.int (0 : Int32)), (.ref s1)])
      obtain ⟨T87, L87, v87, X87, ⟨rfl, rfl, q87⟩, st87⟩ := own_callS X86 hx hH (y := (⟨"com/example/halyard/halyard/engine/OperandStackDropPinLaw", "slot", "(Lcom/example/halyard/halyard/engine/OperandStack;III)Z"⟩ : MethodName)) hown (hw _ (List.mem_of_getElem? (i := 34) rfl)) (hw _ (List.mem_of_getElem? (i := 35) rfl)) (hw _ (List.mem_of_getElem? (i := 36) rfl)) (hw _ (List.mem_of_getElem? (i := 37) rfl)) (by decide) (c_slot_b0 l Z a0 hw s1 (3 : Int32) (3 : Int32) ar r0 (.ref r1) (.ref r2) (.ref r3) T86.heap (by decide) (by decide) Sq86 (E_0.ext x86) (F_0.ext x86)) rfl (argsL := [(.ref s1), (.int (0 : Int32)), (.int (3 : Int32)), (.int (3 : Int32))]) (rest := []) (g := (mkF m 93 #[.val (.int i0), .val (.int i1), .val (.int (3 : Int32)), .val (.int (0 : Int32)), .val (.ref s1), .val (.int (3 : Int32))] [(.int (3 : Int32)), (.int (3 : Int32)), (.int (0 : Int32)), (.ref s1)])) rfl (by rw [hml]; rfl) (ps := [(.object "com/example/halyard/halyard/engine/OperandStack"), .int, .int, .int]) (r := (some .boolean)) (by decide +kernel) rfl rfl (W := 0) (by show 2 * 0 + _ ≤ _; exact Nat.le_of_eq rfl) (hb hby at_93) (by decide) (by decide) (by decide) (by decide)
      have x87 := own_ext_trans x86 q87
      have S87 := own_ST_ext q87 Sq86
      have N87 := Fr.app N86 (Fr.nil n0)
      refine own_go st87 ?_
      show own_G p e below _ T87 (mkF m 96 #[.val (.int i0), .val (.int i1), .val (.int (3 : Int32)), .val (.int (0 : Int32)), .val (.ref s1), .val (.int (3 : Int32))] [(.int (1 : Int32))])
      refine own_go (fun t k => XS.ifNo X87.here hx rfl (hb hby at_96) rfl (by decide) k) ?_
      show own_G p e below _ T87 (mkF m 99 #[.val (.int i0), .val (.int i1), .val (.int (3 : Int32)), .val (.int (0 : Int32)), .val (.ref s1), .val (.int (3 : Int32))] [])
      refine own_go (fun t k => XS.aload X87.here hx rfl (hb hby at_99) rfl rfl k) ?_
      show own_G p e below _ T87 (mkF m 101 #[.val (.int i0), .val (.int i1), .val (.int (3 : Int32)), .val (.int (0 : Int32)), .val (.ref s1), .val (.int (3 : Int32))] [(.ref s1)])
      refine own_go (fun t k => XS.iconst X87.here hx rfl (hb hby at_101) k) ?_
      show own_G p e below _ T87 (mkF m 102 #[.val (.int i0), .val (.int i1), .val (.int (3 : Int32)), .val (.int (0 : Int32)), .val (.ref s1), .val (.int (3 : Int32))] [(.int (1 : Int32)), (.ref s1)])
      refine own_go (fun t k => XS.iloadN X87.here hx rfl (hb hby at_102) rfl k) ?_
      show own_G p e below _ T87 (mkF m 103 #[.val (.int i0), .val (.int i1), .val (.int (3 : Int32)), .val (.int (0 : Int32)), .val (.ref s1), .val (.int (3 : Int32))] [(.int (3 : Int32)), (.int (1 : Int32)), (.ref s1)])
      refine own_go (fun t k => XS.iload X87.here hx rfl (hb hby at_103) rfl k) ?_
      show own_G p e below _ T87 (mkF m 105 #[.val (.int i0), .val (.int i1), .val (.int (3 : Int32)), .val (.int (0 : Int32)), .val (.ref s1), .val (.int (3 : Int32))] [(.int (3 : Int32)), (.int (3 : Int32)), (.int (1 : Int32)), (.ref s1)])
      obtain ⟨T88, L88, v88, X88, ⟨rfl, rfl, q88⟩, st88⟩ := own_callS X87 hx hH (y := (⟨"com/example/halyard/halyard/engine/OperandStackDropPinLaw", "slot", "(Lcom/example/halyard/halyard/engine/OperandStack;III)Z"⟩ : MethodName)) hown (hw _ (List.mem_of_getElem? (i := 34) rfl)) (hw _ (List.mem_of_getElem? (i := 35) rfl)) (hw _ (List.mem_of_getElem? (i := 36) rfl)) (hw _ (List.mem_of_getElem? (i := 37) rfl)) (by decide) (c_slot_b1 l Z a0 hw s1 (3 : Int32) (3 : Int32) ar r1 (.ref r0) (.ref r2) (.ref r3) T87.heap (by decide) (by decide) S87 (E_1.ext x87) (F_1.ext x87)) rfl (argsL := [(.ref s1), (.int (1 : Int32)), (.int (3 : Int32)), (.int (3 : Int32))]) (rest := []) (g := (mkF m 105 #[.val (.int i0), .val (.int i1), .val (.int (3 : Int32)), .val (.int (0 : Int32)), .val (.ref s1), .val (.int (3 : Int32))] [(.int (3 : Int32)), (.int (3 : Int32)), (.int (1 : Int32)), (.ref s1)])) rfl (by rw [hml]; rfl) (ps := [(.object "com/example/halyard/halyard/engine/OperandStack"), .int, .int, .int]) (r := (some .boolean)) (by decide +kernel) rfl rfl (W := 0) (by show 2 * 0 + _ ≤ _; exact Nat.le_of_eq rfl) (hb hby at_105) (by decide) (by decide) (by decide) (by decide)
      have x88 := own_ext_trans x87 q88
      have S88 := own_ST_ext q88 S87
      have N88 := Fr.app N87 (Fr.nil n0)
      refine own_go st88 ?_
      show own_G p e below _ T88 (mkF m 108 #[.val (.int i0), .val (.int i1), .val (.int (3 : Int32)), .val (.int (0 : Int32)), .val (.ref s1), .val (.int (3 : Int32))] [(.int (1 : Int32))])
      refine own_go (fun t k => XS.ifNo X88.here hx rfl (hb hby at_108) rfl (by decide) k) ?_
      show own_G p e below _ T88 (mkF m 111 #[.val (.int i0), .val (.int i1), .val (.int (3 : Int32)), .val (.int (0 : Int32)), .val (.ref s1), .val (.int (3 : Int32))] [])
      refine own_go (fun t k => XS.aload X88.here hx rfl (hb hby at_111) rfl rfl k) ?_
      show own_G p e below _ T88 (mkF m 113 #[.val (.int i0), .val (.int i1), .val (.int (3 : Int32)), .val (.int (0 : Int32)), .val (.ref s1), .val (.int (3 : Int32))] [(.ref s1)])
      refine own_go (fun t k => XS.iconst X88.here hx rfl (hb hby at_113) k) ?_
      show own_G p e below _ T88 (mkF m 114 #[.val (.int i0), .val (.int i1), .val (.int (3 : Int32)), .val (.int (0 : Int32)), .val (.ref s1), .val (.int (3 : Int32))] [(.int (2 : Int32)), (.ref s1)])
      refine own_go (fun t k => XS.iloadN X88.here hx rfl (hb hby at_114) rfl k) ?_
      show own_G p e below _ T88 (mkF m 115 #[.val (.int i0), .val (.int i1), .val (.int (3 : Int32)), .val (.int (0 : Int32)), .val (.ref s1), .val (.int (3 : Int32))] [(.int (3 : Int32)), (.int (2 : Int32)), (.ref s1)])
      refine own_go (fun t k => XS.iload X88.here hx rfl (hb hby at_115) rfl k) ?_
      show own_G p e below _ T88 (mkF m 117 #[.val (.int i0), .val (.int i1), .val (.int (3 : Int32)), .val (.int (0 : Int32)), .val (.ref s1), .val (.int (3 : Int32))] [(.int (3 : Int32)), (.int (3 : Int32)), (.int (2 : Int32)), (.ref s1)])
      obtain ⟨T89, L89, v89, X89, ⟨rfl, rfl, q89⟩, st89⟩ := own_callS X88 hx hH (y := (⟨"com/example/halyard/halyard/engine/OperandStackDropPinLaw", "slot", "(Lcom/example/halyard/halyard/engine/OperandStack;III)Z"⟩ : MethodName)) hown (hw _ (List.mem_of_getElem? (i := 34) rfl)) (hw _ (List.mem_of_getElem? (i := 35) rfl)) (hw _ (List.mem_of_getElem? (i := 36) rfl)) (hw _ (List.mem_of_getElem? (i := 37) rfl)) (by decide) (c_slot_b2 l Z a0 hw s1 (3 : Int32) (3 : Int32) ar r2 (.ref r0) (.ref r1) (.ref r3) T88.heap (by decide) (by decide) S88 (E_2.ext x88) (F_2.ext x88)) rfl (argsL := [(.ref s1), (.int (2 : Int32)), (.int (3 : Int32)), (.int (3 : Int32))]) (rest := []) (g := (mkF m 117 #[.val (.int i0), .val (.int i1), .val (.int (3 : Int32)), .val (.int (0 : Int32)), .val (.ref s1), .val (.int (3 : Int32))] [(.int (3 : Int32)), (.int (3 : Int32)), (.int (2 : Int32)), (.ref s1)])) rfl (by rw [hml]; rfl) (ps := [(.object "com/example/halyard/halyard/engine/OperandStack"), .int, .int, .int]) (r := (some .boolean)) (by decide +kernel) rfl rfl (W := 0) (by show 2 * 0 + _ ≤ _; exact Nat.le_of_eq rfl) (hb hby at_117) (by decide) (by decide) (by decide) (by decide)
      have x89 := own_ext_trans x88 q89
      have S89 := own_ST_ext q89 S88
      have N89 := Fr.app N88 (Fr.nil n0)
      refine own_go st89 ?_
      show own_G p e below _ T89 (mkF m 120 #[.val (.int i0), .val (.int i1), .val (.int (3 : Int32)), .val (.int (0 : Int32)), .val (.ref s1), .val (.int (3 : Int32))] [(.int (1 : Int32))])
      refine own_go (fun t k => XS.ifNo X89.here hx rfl (hb hby at_120) rfl (by decide) k) ?_
      show own_G p e below _ T89 (mkF m 123 #[.val (.int i0), .val (.int i1), .val (.int (3 : Int32)), .val (.int (0 : Int32)), .val (.ref s1), .val (.int (3 : Int32))] [])
      refine own_go (fun t k => XS.aload X89.here hx rfl (hb hby at_123) rfl rfl k) ?_
      show own_G p e below _ T89 (mkF m 125 #[.val (.int i0), .val (.int i1), .val (.int (3 : Int32)), .val (.int (0 : Int32)), .val (.ref s1), .val (.int (3 : Int32))] [(.ref s1)])
      refine own_go (fun t k => XS.iconst X89.here hx rfl (hb hby at_125) k) ?_
      show own_G p e below _ T89 (mkF m 126 #[.val (.int i0), .val (.int i1), .val (.int (3 : Int32)), .val (.int (0 : Int32)), .val (.ref s1), .val (.int (3 : Int32))] [(.int (3 : Int32)), (.ref s1)])
      refine own_go (fun t k => XS.iloadN X89.here hx rfl (hb hby at_126) rfl k) ?_
      show own_G p e below _ T89 (mkF m 127 #[.val (.int i0), .val (.int i1), .val (.int (3 : Int32)), .val (.int (0 : Int32)), .val (.ref s1), .val (.int (3 : Int32))] [(.int (3 : Int32)), (.int (3 : Int32)), (.ref s1)])
      refine own_go (fun t k => XS.iload X89.here hx rfl (hb hby at_127) rfl k) ?_
      show own_G p e below _ T89 (mkF m 129 #[.val (.int i0), .val (.int i1), .val (.int (3 : Int32)), .val (.int (0 : Int32)), .val (.ref s1), .val (.int (3 : Int32))] [(.int (3 : Int32)), (.int (3 : Int32)), (.int (3 : Int32)), (.ref s1)])
      obtain ⟨T90, L90, v90, X90, ⟨rfl, rfl, q90⟩, st90⟩ := own_callS X89 hx hH (y := (⟨"com/example/halyard/halyard/engine/OperandStackDropPinLaw", "slot", "(Lcom/example/halyard/halyard/engine/OperandStack;III)Z"⟩ : MethodName)) hown (hw _ (List.mem_of_getElem? (i := 34) rfl)) (hw _ (List.mem_of_getElem? (i := 35) rfl)) (hw _ (List.mem_of_getElem? (i := 36) rfl)) (hw _ (List.mem_of_getElem? (i := 37) rfl)) (by decide) (c_slot_b3 l Z a0 hw s1 (3 : Int32) (3 : Int32) ar r3 (.ref r0) (.ref r1) (.ref r2) T89.heap (by decide) (by decide) S89 (E_3.ext x89) (F_3.ext x89)) rfl (argsL := [(.ref s1), (.int (3 : Int32)), (.int (3 : Int32)), (.int (3 : Int32))]) (rest := []) (g := (mkF m 129 #[.val (.int i0), .val (.int i1), .val (.int (3 : Int32)), .val (.int (0 : Int32)), .val (.ref s1), .val (.int (3 : Int32))] [(.int (3 : Int32)), (.int (3 : Int32)), (.int (3 : Int32)), (.ref s1)])) rfl (by rw [hml]; rfl) (ps := [(.object "com/example/halyard/halyard/engine/OperandStack"), .int, .int, .int]) (r := (some .boolean)) (by decide +kernel) rfl rfl (W := 0) (by show 2 * 0 + _ ≤ _; exact Nat.le_of_eq rfl) (hb hby at_129) (by decide) (by decide) (by decide) (by decide)
      have x90 := own_ext_trans x89 q90
      have S90 := own_ST_ext q90 S89
      have N90 := Fr.app N89 (Fr.nil n0)
      refine own_go st90 ?_
      show own_G p e below _ T90 (mkF m 132 #[.val (.int i0), .val (.int i1), .val (.int (3 : Int32)), .val (.int (0 : Int32)), .val (.ref s1), .val (.int (3 : Int32))] [(.int (1 : Int32))])
      refine own_go (fun t k => XS.ifNo X90.here hx rfl (hb hby at_132) rfl (by decide) k) ?_
      show own_G p e below _ T90 (mkF m 135 #[.val (.int i0), .val (.int i1), .val (.int (3 : Int32)), .val (.int (0 : Int32)), .val (.ref s1), .val (.int (3 : Int32))] [])
      refine own_go (fun t k => XS.iconst X90.here hx rfl (hb hby at_135) k) ?_
      show own_G p e below _ T90 (mkF m 136 #[.val (.int i0), .val (.int i1), .val (.int (3 : Int32)), .val (.int (0 : Int32)), .val (.ref s1), .val (.int (3 : Int32))] [(.int (1 : Int32))])
      refine own_go (fun t k => XS.goto X90.here hx rfl (pc0 := 136) (pc' := 140) rfl (hb hby at_136) (by decide) (by decide) k) ?_
      show own_G p e below _ T90 (mkF m 140 #[.val (.int i0), .val (.int i1), .val (.int (3 : Int32)), .val (.int (0 : Int32)), .val (.ref s1), .val (.int (3 : Int32))] [(.int (1 : Int32))])
      exact own_retN X90 hx hlk hret (by simp) (hb hby at_140) (by decide) (by decide) ⟨rfl, N90⟩
    · rw [hk75]
      show own_G p e below _ T0 (mkF m 15 #[.val (.int i0), .val (.int i1), .val (.int (3 : Int32)), .unset, .unset, .unset] [(.int (1 : Int32))])
      refine own_go (fun t k => XS.istoreN X0.here hx rfl (hb hby at_15) rfl (l' := #[.val (.int i0), .val (.int i1), .val (.int (3 : Int32)), .val (.int (1 : Int32)), .unset, .unset]) rfl k) ?_
      show own_G p e below _ T0 (mkF m 16 #[.val (.int i0), .val (.int i1), .val (.int (3 : Int32)), .val (.int (1 : Int32)), .unset, .unset] [])
      obtain ⟨T91, h91, X91, e91, E91, A91, D91, -, st91⟩ := newO X0 hx hZ hown (hw _ (List.mem_of_getElem? (i := 1) rfl)) (hw _ (List.mem_of_getElem? (i := 2) rfl)) (hw _ (List.mem_of_getElem? (i := 3) rfl)) e0 (g := (mkF m 16 #[.val (.int i0), .val (.int i1), .val (.int (3 : Int32)), .val (.int (1 : Int32)), .unset, .unset] [])) rfl (hb hby at_16) (by decide) (by decide)
      obtain ⟨s1, gs⟩ : ∃ z, z = h0.size := ⟨_, rfl⟩
      rw [← gs] at A91 D91 st91
      have F1 : Fld Z h91 s1 own_K "values" "[Ljava/lang/Object;" .null := D91 (Or.inl (hw _ (List.mem_of_getElem? (i := 13) rfl))) (ty := .array (.object "java/lang/Object")) (by decide +kernel)
      have F2 : Fld Z h91 s1 own_K "size" "I" (.int (0 : Int32)) := D91 (Or.inl (hw _ (List.mem_of_getElem? (i := 27) rfl))) (ty := .int) (by decide)
      have x91 : Ext h0 h91 := E91
      have js : h0.size ≤ s1 := Nat.le_of_eq gs.symm
      have g1 : n0 ≤ s1 := Nat.le_trans Z0 js
      refine own_go st91 ?_
      show own_G p e below _ T91 (mkF m 19 #[.val (.int i0), .val (.int i1), .val (.int (3 : Int32)), .val (.int (1 : Int32)), .unset, .unset] [(.ref s1)])
      refine own_go (fun t k => XS.dup X91.here hx rfl (hb hby at_19) rfl rfl k) ?_
      show own_G p e below _ T91 (mkF m 20 #[.val (.int i0), .val (.int i1), .val (.int (3 : Int32)), .val (.int (1 : Int32)), .unset, .unset] [(.ref s1), (.ref s1)])
      obtain ⟨T92, L92, v92, X92, ⟨rfl, Nq92, Kq92, Sq92⟩, st92⟩ := own_callN X91 hx hH (y := (⟨"com/example/halyard/halyard/engine/OperandStack", "<init>", "()V"⟩ : MethodName)) rfl hown (hw _ (List.mem_of_getElem? (i := 4) rfl)) (hw _ (List.mem_of_getElem? (i := 5) rfl)) (hw _ (List.mem_of_getElem? (i := 6) rfl)) (hw _ (List.mem_of_getElem? (i := 3) rfl)) (by decide) (c_init l Z a0 hw s1 h91 n0 (Nat.le_trans Z0 x91.1) A91 F1 F2 g1) e91 (argsL := []) (rest := [(.ref s1)]) (g := (mkF m 20 #[.val (.int i0), .val (.int i1), .val (.int (3 : Int32)), .val (.int (1 : Int32)), .unset, .unset] [(.ref s1), (.ref s1)])) rfl (by rw [hml]; rfl) (ps := []) (r := none) (by decide +kernel) rfl rfl (W := 1) (by show 2 * 0 + _ ≤ _; exact Nat.le_of_eq rfl) (hb hby at_20) (by decide) (by decide) (by decide) (by decide)
      obtain ⟨ar, ga⟩ : ∃ z, z = h91.size := ⟨_, rfl⟩
      rw [← ga] at Sq92
      have ja : h0.size ≤ ar := Nat.le_trans x91.1 (Nat.le_of_eq ga.symm)
      have g2 : n0 ≤ ar := Nat.le_trans Z0 ja
      have x92 := own_ext_keep x91 Kq92 (allS js all0)
      have N92 := Fr.app N0 Nq92
      refine own_go st92 ?_
      show own_G p e below _ T92 (mkF m 23 #[.val (.int i0), .val (.int i1), .val (.int (3 : Int32)), .val (.int (1 : Int32)), .unset, .unset] [(.ref s1)])
      refine own_go (fun t k => XS.astore X92.here hx rfl (hb hby at_23) rfl rfl (l' := #[.val (.int i0), .val (.int i1), .val (.int (3 : Int32)), .val (.int (1 : Int32)), .val (.ref s1), .unset]) rfl k) ?_
      show own_G p e below _ T92 (mkF m 25 #[.val (.int i0), .val (.int i1), .val (.int (3 : Int32)), .val (.int (1 : Int32)), .val (.ref s1), .unset] [])
      refine own_go (fun t k => XS.aload X92.here hx rfl (hb hby at_25) rfl rfl k) ?_
      show own_G p e below _ T92 (mkF m 27 #[.val (.int i0), .val (.int i1), .val (.int (3 : Int32)), .val (.int (1 : Int32)), .val (.ref s1), .unset] [(.ref s1)])
      refine own_go (fun t k => XS.iconst X92.here hx rfl (hb hby at_27) k) ?_
      show own_G p e below _ T92 (mkF m 28 #[.val (.int i0), .val (.int i1), .val (.int (3 : Int32)), .val (.int (1 : Int32)), .val (.ref s1), .unset] [(.int (0 : Int32)), (.ref s1)])
      obtain ⟨T93, L93, v93, X93, ⟨rfl, rfl, q93⟩, st93⟩ := own_callS X92 hx hH (y := (⟨"java/lang/Integer", "valueOf", "(I)Ljava/lang/Integer;"⟩ : MethodName)) hown (hw _ (List.mem_of_getElem? (i := 14) rfl)) (hw _ (List.mem_of_getElem? (i := 15) rfl)) (hw _ (List.mem_of_getElem? (i := 16) rfl)) (hw _ (List.mem_of_getElem? (i := 17) rfl)) (by decide) (c_valueOf_0 l Z a0 hw ac r0 r1 r2 r3 clc T92.heap (own_B_ext x92 B)) rfl (argsL := [(.int (0 : Int32))]) (rest := [(.ref s1)]) (g := (mkF m 28 #[.val (.int i0), .val (.int i1), .val (.int (3 : Int32)), .val (.int (1 : Int32)), .val (.ref s1), .unset] [(.int (0 : Int32)), (.ref s1)])) rfl (by rw [hml]; rfl) (ps := [.int]) (r := (some (.object "java/lang/Integer"))) (by decide +kernel) rfl rfl (W := 1) (by show 2 * 0 + _ ≤ _; exact Nat.le_of_eq rfl) (hb hby at_28) (by decide) (by decide) (by decide) (by decide)
      have N93 := Fr.app N92 (Fr.nil n0)
      refine own_go st93 ?_
      show own_G p e below _ T93 (mkF m 31 #[.val (.int i0), .val (.int i1), .val (.int (3 : Int32)), .val (.int (1 : Int32)), .val (.ref s1), .unset] [(.ref r0), (.ref s1)])
      obtain ⟨T94, L94, v94, X94, ⟨rfl, Nq94, Kq94, Sq94⟩, st94⟩ := own_callV X93 hx hH (y := (⟨"com/example/halyard/halyard/engine/OperandStack", "push", "(Ljava/lang/Object;)V"⟩ : MethodName)) (z := (⟨"com/example/halyard/halyard/engine/OperandStack", "push", "(Ljava/lang/Object;)V"⟩ : MethodName)) hown (hw _ (List.mem_of_getElem? (i := 21) rfl)) (hw _ (List.mem_of_getElem? (i := 22) rfl)) (hw _ (List.mem_of_getElem? (i := 24) rfl)) (hw _ (List.mem_of_getElem? (i := 24) rfl)) (hw _ (List.mem_of_getElem? (i := 23) rfl)) (hw _ (List.mem_of_getElem? (i := 25) rfl)) (hw _ (List.mem_of_getElem? (i := 3) rfl)) (notFace_of_selects (args := #[]) (mvT hZ (hw _ (List.mem_of_getElem? (i := 24) rfl)))) (by decide) (c_push_0A l Z a0 hw s1 ar r0 .null .null .null .null T92.heap n0 (Nat.le_trans Z0 x92.1) Sq92 (own_ST_sto Sq92 (Ins.of_exa (E_0.ext x92) (hw _ (List.mem_of_getElem? (i := 28) rfl)))) g1 g2) q93 Sq92.1 (argsL := [(.ref r0)]) (rest := []) (g := (mkF m 31 #[.val (.int i0), .val (.int i1), .val (.int (3 : Int32)), .val (.int (1 : Int32)), .val (.ref s1), .unset] [(.ref r0), (.ref s1)])) rfl (by rw [hml]; rfl) (ps := [(.object "java/lang/Object")]) (r := none) (by decide +kernel) rfl rfl (W := 0) (by show 2 * 0 + _ ≤ _; exact Nat.le_of_eq rfl) (hb hby at_31) (by decide) (by decide) (by decide) (by decide)
      have x94 := own_ext_keep x92 Kq94 (allS js (allS ja all0))
      have N94 := Fr.app N93 Nq94
      refine own_go st94 ?_
      show own_G p e below _ T94 (mkF m 34 #[.val (.int i0), .val (.int i1), .val (.int (3 : Int32)), .val (.int (1 : Int32)), .val (.ref s1), .unset] [])
      refine own_go (fun t k => XS.iloadN X94.here hx rfl (hb hby at_34) rfl k) ?_
      show own_G p e below _ T94 (mkF m 35 #[.val (.int i0), .val (.int i1), .val (.int (3 : Int32)), .val (.int (1 : Int32)), .val (.ref s1), .unset] [(.int (3 : Int32))])
      refine own_go (fun t k => XS.iconst X94.here hx rfl (hb hby at_35) k) ?_
      show own_G p e below _ T94 (mkF m 36 #[.val (.int i0), .val (.int i1), .val (.int (3 : Int32)), .val (.int (1 : Int32)), .val (.ref s1), .unset] [(.int (1 : Int32)), (.int (3 : Int32))])
      refine own_go (fun t k => XS.icmpNo X94.here hx rfl (hb hby at_36) rfl (by decide) k) ?_
      show own_G p e below _ T94 (mkF m 39 #[.val (.int i0), .val (.int i1), .val (.int (3 : Int32)), .val (.int (1 : Int32)), .val (.ref s1), .unset] [])
      refine own_go (fun t k => XS.aload X94.here hx rfl (hb hby at_39) rfl rfl k) ?_
      show own_G p e below _ T94 (mkF m 41 #[.val (.int i0), .val (.int i1), .val (.int (3 : Int32)), .val (.int (1 : Int32)), .val (.ref s1), .unset] [(.ref s1)])
      refine own_go (fun t k => XS.iconst X94.here hx rfl (hb hby at_41) k) ?_
      show own_G p e below _ T94 (mkF m 42 #[.val (.int i0), .val (.int i1), .val (.int (3 : Int32)), .val (.int (1 : Int32)), .val (.ref s1), .unset] [(.int (1 : Int32)), (.ref s1)])
      obtain ⟨T95, L95, v95, X95, ⟨rfl, rfl, q95⟩, st95⟩ := own_callS X94 hx hH (y := (⟨"java/lang/Integer", "valueOf", "(I)Ljava/lang/Integer;"⟩ : MethodName)) hown (hw _ (List.mem_of_getElem? (i := 14) rfl)) (hw _ (List.mem_of_getElem? (i := 15) rfl)) (hw _ (List.mem_of_getElem? (i := 16) rfl)) (hw _ (List.mem_of_getElem? (i := 17) rfl)) (by decide) (c_valueOf_1 l Z a0 hw ac r0 r1 r2 r3 clc T94.heap (own_B_ext x94 B)) rfl (argsL := [(.int (1 : Int32))]) (rest := [(.ref s1)]) (g := (mkF m 42 #[.val (.int i0), .val (.int i1), .val (.int (3 : Int32)), .val (.int (1 : Int32)), .val (.ref s1), .unset] [(.int (1 : Int32)), (.ref s1)])) rfl (by rw [hml]; rfl) (ps := [.int]) (r := (some (.object "java/lang/Integer"))) (by decide +kernel) rfl rfl (W := 1) (by show 2 * 0 + _ ≤ _; exact Nat.le_of_eq rfl) (hb hby at_42) (by decide) (by decide) (by decide) (by decide)
      have N95 := Fr.app N94 (Fr.nil n0)
      refine own_go st95 ?_
      show own_G p e below _ T95 (mkF m 45 #[.val (.int i0), .val (.int i1), .val (.int (3 : Int32)), .val (.int (1 : Int32)), .val (.ref s1), .unset] [(.ref r1), (.ref s1)])
      obtain ⟨T96, L96, v96, X96, ⟨rfl, Nq96, Kq96, Sq96⟩, st96⟩ := own_callV X95 hx hH (y := (⟨"com/example/halyard/halyard/engine/OperandStack", "push", "(Ljava/lang/Object;)V"⟩ : MethodName)) (z := (⟨"com/example/halyard/halyard/engine/OperandStack", "push", "(Ljava/lang/Object;)V"⟩ : MethodName)) hown (hw _ (List.mem_of_getElem? (i := 21) rfl)) (hw _ (List.mem_of_getElem? (i := 22) rfl)) (hw _ (List.mem_of_getElem? (i := 24) rfl)) (hw _ (List.mem_of_getElem? (i := 24) rfl)) (hw _ (List.mem_of_getElem? (i := 23) rfl)) (hw _ (List.mem_of_getElem? (i := 25) rfl)) (hw _ (List.mem_of_getElem? (i := 3) rfl)) (notFace_of_selects (args := #[]) (mvT hZ (hw _ (List.mem_of_getElem? (i := 24) rfl)))) (by decide) (c_push_1A l Z a0 hw s1 ar r1 (.ref r0) .null .null .null T94.heap n0 (Nat.le_trans Z0 x94.1) Sq94 (own_ST_sto Sq94 (Ins.of_exa (E_1.ext x94) (hw _ (List.mem_of_getElem? (i := 28) rfl)))) g1 g2) q95 Sq94.1 (argsL := [(.ref r1)]) (rest := []) (g := (mkF m 45 #[.val (.int i0), .val (.int i1), .val (.int (3 : Int32)), .val (.int (1 : Int32)), .val (.ref s1), .unset] [(.ref r1), (.ref s1)])) rfl (by rw [hml]; rfl) (ps := [(.object "java/lang/Object")]) (r := none) (by decide +kernel) rfl rfl (W := 0) (by show 2 * 0 + _ ≤ _; exact Nat.le_of_eq rfl) (hb hby at_45) (by decide) (by decide) (by decide) (by decide)
      have x96 := own_ext_keep x94 Kq96 (allS js (allS ja all0))
      have N96 := Fr.app N95 Nq96
      refine own_go st96 ?_
      show own_G p e below _ T96 (mkF m 48 #[.val (.int i0), .val (.int i1), .val (.int (3 : Int32)), .val (.int (1 : Int32)), .val (.ref s1), .unset] [])
      refine own_go (fun t k => XS.iloadN X96.here hx rfl (hb hby at_48) rfl k) ?_
      show own_G p e below _ T96 (mkF m 49 #[.val (.int i0), .val (.int i1), .val (.int (3 : Int32)), .val (.int (1 : Int32)), .val (.ref s1), .unset] [(.int (3 : Int32))])
      refine own_go (fun t k => XS.iconst X96.here hx rfl (hb hby at_49) k) ?_
      show own_G p e below _ T96 (mkF m 50 #[.val (.int i0), .val (.int i1), .val (.int (3 : Int32)), .val (.int (1 : Int32)), .val (.ref s1), .unset] [(.int (2 : Int32)), (.int (3 : Int32))])
      refine own_go (fun t k => XS.icmpNo X96.here hx rfl (hb hby at_50) rfl (by decide) k) ?_
      show own_G p e below _ T96 (mkF m 53 #[.val (.int i0), .val (.int i1), .val (.int (3 : Int32)), .val (.int (1 : Int32)), .val (.ref s1), .unset] [])
      refine own_go (fun t k => XS.aload X96.here hx rfl (hb hby at_53) rfl rfl k) ?_
      show own_G p e below _ T96 (mkF m 55 #[.val (.int i0), .val (.int i1), .val (.int (3 : Int32)), .val (.int (1 : Int32)), .val (.ref s1), .unset] [(.ref s1)])
      refine own_go (fun t k => XS.iconst X96.here hx rfl (hb hby at_55) k) ?_
      show own_G p e below _ T96 (mkF m 56 #[.val (.int i0), .val (.int i1), .val (.int (3 : Int32)), .val (.int (1 : Int32)), .val (.ref s1), .unset] [(.int (2 : Int32)), (.ref s1)])
      obtain ⟨T97, L97, v97, X97, ⟨rfl, rfl, q97⟩, st97⟩ := own_callS X96 hx hH (y := (⟨"java/lang/Integer", "valueOf", "(I)Ljava/lang/Integer;"⟩ : MethodName)) hown (hw _ (List.mem_of_getElem? (i := 14) rfl)) (hw _ (List.mem_of_getElem? (i := 15) rfl)) (hw _ (List.mem_of_getElem? (i := 16) rfl)) (hw _ (List.mem_of_getElem? (i := 17) rfl)) (by decide) (c_valueOf_2 l Z a0 hw ac r0 r1 r2 r3 clc T96.heap (own_B_ext x96 B)) rfl (argsL := [(.int (2 : Int32))]) (rest := [(.ref s1)]) (g := (mkF m 56 #[.val (.int i0), .val (.int i1), .val (.int (3 : Int32)), .val (.int (1 : Int32)), .val (.ref s1), .unset] [(.int (2 : Int32)), (.ref s1)])) rfl (by rw [hml]; rfl) (ps := [.int]) (r := (some (.object "java/lang/Integer"))) (by decide +kernel) rfl rfl (W := 1) (by show 2 * 0 + _ ≤ _; exact Nat.le_of_eq rfl) (hb hby at_56) (by decide) (by decide) (by decide) (by decide)
      have N97 := Fr.app N96 (Fr.nil n0)
      refine own_go st97 ?_
      show own_G p e below _ T97 (mkF m 59 #[.val (.int i0), .val (.int i1), .val (.int (3 : Int32)), .val (.int (1 : Int32)), .val (.ref s1), .unset] [(.ref r2), (.ref s1)])
      obtain ⟨T98, L98, v98, X98, ⟨rfl, Nq98, Kq98, Sq98⟩, st98⟩ := own_callV X97 hx hH (y := (⟨"com/example/halyard/halyard/engine/OperandStack", "push", "(Ljava/lang/Object;)V"⟩ : MethodName)) (z := (⟨"com/example/halyard/halyard/engine/OperandStack", "push", "(Ljava/lang/Object;)V"⟩ : MethodName)) hown (hw _ (List.mem_of_getElem? (i := 21) rfl)) (hw _ (List.mem_of_getElem? (i := 22) rfl)) (hw _ (List.mem_of_getElem? (i := 24) rfl)) (hw _ (List.mem_of_getElem? (i := 24) rfl)) (hw _ (List.mem_of_getElem? (i := 23) rfl)) (hw _ (List.mem_of_getElem? (i := 25) rfl)) (hw _ (List.mem_of_getElem? (i := 3) rfl)) (notFace_of_selects (args := #[]) (mvT hZ (hw _ (List.mem_of_getElem? (i := 24) rfl)))) (by decide) (c_push_2A l Z a0 hw s1 ar r2 (.ref r0) (.ref r1) .null .null T96.heap n0 (Nat.le_trans Z0 x96.1) Sq96 (own_ST_sto Sq96 (Ins.of_exa (E_2.ext x96) (hw _ (List.mem_of_getElem? (i := 28) rfl)))) g1 g2) q97 Sq96.1 (argsL := [(.ref r2)]) (rest := []) (g := (mkF m 59 #[.val (.int i0), .val (.int i1), .val (.int (3 : Int32)), .val (.int (1 : Int32)), .val (.ref s1), .unset] [(.ref r2), (.ref s1)])) rfl (by rw [hml]; rfl) (ps := [(.object "java/lang/Object")]) (r := none) (by decide +kernel) rfl rfl (W := 0) (by show 2 * 0 + _ ≤ _; exact Nat.le_of_eq rfl) (hb hby at_59) (by decide) (by decide) (by decide) (by decide)
      have x98 := own_ext_keep x96 Kq98 (allS js (allS ja all0))
      have N98 := Fr.app N97 Nq98
      refine own_go st98 ?_
      show own_G p e below _ T98 (mkF m 62 #[.val (.int i0), .val (.int i1), .val (.int (3 : Int32)), .val (.int (1 : Int32)), .val (.ref s1), .unset] [])
      refine own_go (fun t k => XS.iloadN X98.here hx rfl (hb hby at_62) rfl k) ?_
      show own_G p e below _ T98 (mkF m 63 #[.val (.int i0), .val (.int i1), .val (.int (3 : Int32)), .val (.int (1 : Int32)), .val (.ref s1), .unset] [(.int (3 : Int32))])
      refine own_go (fun t k => XS.iconst X98.here hx rfl (hb hby at_63) k) ?_
      show own_G p e below _ T98 (mkF m 64 #[.val (.int i0), .val (.int i1), .val (.int (3 : Int32)), .val (.int (1 : Int32)), .val (.ref s1), .unset] [(.int (3 : Int32)), (.int (3 : Int32))])
      refine own_go (fun t k => XS.icmpNo X98.here hx rfl (hb hby at_64) rfl (by decide) k) ?_
      show own_G p e below _ T98 (mkF m 67 #[.val (.int i0), .val (.int i1), .val (.int (3 : Int32)), .val (.int (1 : Int32)), .val (.ref s1), .unset] [])
      refine own_go (fun t k => XS.aload X98.here hx rfl (hb hby at_67) rfl rfl k) ?_
      show own_G p e below _ T98 (mkF m 69 #[.val (.int i0), .val (.int i1), .val (.int (3 : Int32)), .val (.int (1 : Int32)), .val (.ref s1), .unset] [(.ref s1)])
      refine own_go (fun t k => XS.iconst X98.here hx rfl (hb hby at_69) k) ?_
      show own_G p e below _ T98 (mkF m 70 #[.val (.int i0), .val (.int i1), .val (.int (3 : Int32)), .val (.int (1 : Int32)), .val (.ref s1), .unset] [(.int (3 : Int32)), (.ref s1)])
      obtain ⟨T99, L99, v99, X99, ⟨rfl, rfl, q99⟩, st99⟩ := own_callS X98 hx hH (y := (⟨"java/lang/Integer", "valueOf", "(I)Ljava/lang/Integer;"⟩ : MethodName)) hown (hw _ (List.mem_of_getElem? (i := 14) rfl)) (hw _ (List.mem_of_getElem? (i := 15) rfl)) (hw _ (List.mem_of_getElem? (i := 16) rfl)) (hw _ (List.mem_of_getElem? (i := 17) rfl)) (by decide) (c_valueOf_3 l Z a0 hw ac r0 r1 r2 r3 clc T98.heap (own_B_ext x98 B)) rfl (argsL := [(.int (3 : Int32))]) (rest := [(.ref s1)]) (g := (mkF m 70 #[.val (.int i0), .val (.int i1), .val (.int (3 : Int32)), .val (.int (1 : Int32)), .val (.ref s1), .unset] [(.int (3 : Int32)), (.ref s1)])) rfl (by rw [hml]; rfl) (ps := [.int]) (r := (some (.object "java/lang/Integer"))) (by decide +kernel) rfl rfl (W := 1) (by show 2 * 0 + _ ≤ _; exact Nat.le_of_eq rfl) (hb hby at_70) (by decide) (by decide) (by decide) (by decide)
      have N99 := Fr.app N98 (Fr.nil n0)
      refine own_go st99 ?_
      show own_G p e below _ T99 (mkF m 73 #[.val (.int i0), .val (.int i1), .val (.int (3 : Int32)), .val (.int (1 : Int32)), .val (.ref s1), .unset] [(.ref r3), (.ref s1)])
      obtain ⟨T100, L100, v100, X100, ⟨rfl, Nq100, Kq100, Sq100⟩, st100⟩ := own_callV X99 hx hH (y := (⟨"com/example/halyard/halyard/engine/OperandStack", "push", "(Ljava/lang/Object;)V"⟩ : MethodName)) (z := (⟨"com/example/halyard/halyard/engine/OperandStack", "push", "(Ljava/lang/Object;)V"⟩ : MethodName)) hown (hw _ (List.mem_of_getElem? (i := 21) rfl)) (hw _ (List.mem_of_getElem? (i := 22) rfl)) (hw _ (List.mem_of_getElem? (i := 24) rfl)) (hw _ (List.mem_of_getElem? (i := 24) rfl)) (hw _ (List.mem_of_getElem? (i := 23) rfl)) (hw _ (List.mem_of_getElem? (i := 25) rfl)) (hw _ (List.mem_of_getElem? (i := 3) rfl)) (notFace_of_selects (args := #[]) (mvT hZ (hw _ (List.mem_of_getElem? (i := 24) rfl)))) (by decide) (c_push_3A l Z a0 hw s1 ar r3 (.ref r0) (.ref r1) (.ref r2) .null T98.heap n0 (Nat.le_trans Z0 x98.1) Sq98 (own_ST_sto Sq98 (Ins.of_exa (E_3.ext x98) (hw _ (List.mem_of_getElem? (i := 28) rfl)))) g1 g2) q99 Sq98.1 (argsL := [(.ref r3)]) (rest := []) (g := (mkF m 73 #[.val (.int i0), .val (.int i1), .val (.int (3 : Int32)), .val (.int (1 : Int32)), .val (.ref s1), .unset] [(.ref r3), (.ref s1)])) rfl (by rw [hml]; rfl) (ps := [(.object "java/lang/Object")]) (r := none) (by decide +kernel) rfl rfl (W := 0) (by show 2 * 0 + _ ≤ _; exact Nat.le_of_eq rfl) (hb hby at_73) (by decide) (by decide) (by decide) (by decide)
      have x100 := own_ext_keep x98 Kq100 (allS js (allS ja all0))
      have N100 := Fr.app N99 Nq100
      refine own_go st100 ?_
      show own_G p e below _ T100 (mkF m 76 #[.val (.int i0), .val (.int i1), .val (.int (3 : Int32)), .val (.int (1 : Int32)), .val (.ref s1), .unset] [])
      refine own_go (fun t k => XS.aload X100.here hx rfl (hb hby at_76) rfl rfl k) ?_
      show own_G p e below _ T100 (mkF m 78 #[.val (.int i0), .val (.int i1), .val (.int (3 : Int32)), .val (.int (1 : Int32)), .val (.ref s1), .unset] [(.ref s1)])
      refine own_go (fun t k => XS.iloadN X100.here hx rfl (hb hby at_78) rfl k) ?_
      show own_G p e below _ T100 (mkF m 79 #[.val (.int i0), .val (.int i1), .val (.int (3 : Int32)), .val (.int (1 : Int32)), .val (.ref s1), .unset] [(.int (1 : Int32)), (.ref s1)])
      obtain ⟨T101, L101, v101, X101, ⟨rfl, Nq101, Kq101, Sq101⟩, st101⟩ := own_callV X100 hx hH (y := (⟨"com/example/halyard/halyard/engine/OperandStack", "drop", "(I)V"⟩ : MethodName)) (z := (⟨"com/example/halyard/halyard/engine/OperandStack", "drop", "(I)V"⟩ : MethodName)) hown (hw _ (List.mem_of_getElem? (i := 29) rfl)) (hw _ (List.mem_of_getElem? (i := 30) rfl)) (hw _ (List.mem_of_getElem? (i := 32) rfl)) (hw _ (List.mem_of_getElem? (i := 32) rfl)) (hw _ (List.mem_of_getElem? (i := 31) rfl)) (hw _ (List.mem_of_getElem? (i := 33) rfl)) (hw _ (List.mem_of_getElem? (i := 3) rfl)) (notFace_of_selects (args := #[]) (mvT hZ (hw _ (List.mem_of_getElem? (i := 32) rfl)))) (by decide) (c_drop_4_1 l Z a0 hw s1 ar (.ref r0) (.ref r1) (.ref r2) (.ref r3) T100.heap n0 (Nat.le_trans Z0 x100.1) Sq100 g1 g2) rfl Sq100.1 (argsL := [(.int (1 : Int32))]) (rest := []) (g := (mkF m 79 #[.val (.int i0), .val (.int i1), .val (.int (3 : Int32)), .val (.int (1 : Int32)), .val (.ref s1), .unset] [(.int (1 : Int32)), (.ref s1)])) rfl (by rw [hml]; rfl) (ps := [.int]) (r := none) (by decide +kernel) rfl rfl (W := 0) (by show 2 * 0 + _ ≤ _; exact Nat.le_of_eq rfl) (hb hby at_79) (by decide) (by decide) (by decide) (by decide)
      have x101 := own_ext_keep x100 Kq101 (allS js (allS ja all0))
      have N101 := Fr.app N100 Nq101
      refine own_go st101 ?_
      show own_G p e below _ T101 (mkF m 82 #[.val (.int i0), .val (.int i1), .val (.int (3 : Int32)), .val (.int (1 : Int32)), .val (.ref s1), .unset] [])
      refine own_go (fun t k => XS.iloadN X101.here hx rfl (hb hby at_82) rfl k) ?_
      show own_G p e below _ T101 (mkF m 83 #[.val (.int i0), .val (.int i1), .val (.int (3 : Int32)), .val (.int (1 : Int32)), .val (.ref s1), .unset] [(.int (3 : Int32))])
      refine own_go (fun t k => XS.iloadN X101.here hx rfl (hb hby at_83) rfl k) ?_
      show own_G p e below _ T101 (mkF m 84 #[.val (.int i0), .val (.int i1), .val (.int (3 : Int32)), .val (.int (1 : Int32)), .val (.ref s1), .unset] [(.int (1 : Int32)), (.int (3 : Int32))])
      refine own_go (fun t k => XS.isub X101.here hx rfl (hb hby at_84) rfl k) ?_
      show own_G p e below _ T101 (mkF m 85 #[.val (.int i0), .val (.int i1), .val (.int (3 : Int32)), .val (.int (1 : Int32)), .val (.ref s1), .unset] [(.int (2 : Int32))])
      refine own_go (fun t k => XS.istore X101.here hx rfl (hb hby at_85) rfl (l' := #[.val (.int i0), .val (.int i1), .val (.int (3 : Int32)), .val (.int (1 : Int32)), .val (.ref s1), .val (.int (2 : Int32))]) rfl k) ?_
      show own_G p e below _ T101 (mkF m 87 #[.val (.int i0), .val (.int i1), .val (.int (3 : Int32)), .val (.int (1 : Int32)), .val (.ref s1), .val (.int (2 : Int32))] [])
      refine own_go (fun t k => XS.aload X101.here hx rfl (hb hby at_87) rfl rfl k) ?_
      show own_G p e below _ T101 (mkF m 89 #[.val (.int i0), .val (.int i1), .val (.int (3 : Int32)), .val (.int (1 : Int32)), .val (.ref s1), .val (.int (2 : Int32))] [(.ref s1)])
      refine own_go (fun t k => XS.iconst X101.here hx rfl (hb hby at_89) k) ?_
      show own_G p e below _ T101 (mkF m 90 #[.val (.int i0), .val (.int i1), .val (.int (3 : Int32)), .val (.int (1 : Int32)), .val (.ref s1), .val (.int (2 : Int32))] [(.int (0 : Int32)), (.ref s1)])
      refine own_go (fun t k => XS.iloadN X101.here hx rfl (hb hby at_90) rfl k) ?_
      show own_G p e below _ T101 (mkF m 91 #[.val (.int i0), .val (.int i1), .val (.int (3 : Int32)), .val (.int (1 : Int32)), .val (.ref s1), .val (.int (2 : Int32))] [(.int (3 : Int32)), (.int (0 : Int32)), (.ref s1)])
      refine own_go (fun t k => XS.iload X101.here hx rfl (hb hby at_91) rfl k) ?_
      show own_G p e below _ T101 (mkF m 93 #[.val (.int i0), .val (.int i1), .val (.int (3 : Int32)), .val (.int (1 : Int32)), .val (.ref s1), .val (.int (2 : Int32))] [(.int (2 : Int32)), (.int (3 : Int32)), (.int (0 : Int32)), (.ref s1)])
      obtain ⟨T102, L102, v102, X102, ⟨rfl, rfl, q102⟩, st102⟩ := own_callS X101 hx hH (y := (⟨"com/example/halyard/halyard/engine/OperandStackDropPinLaw", "slot", "(Lcom/example/halyard/halyard/engine/OperandStack;III)Z"⟩ : MethodName)) hown (hw _ (List.mem_of_getElem? (i := 34) rfl)) (hw _ (List.mem_of_getElem? (i := 35) rfl)) (hw _ (List.mem_of_getElem? (i := 36) rfl)) (hw _ (List.mem_of_getElem? (i := 37) rfl)) (by decide) (c_slot_b0 l Z a0 hw s1 (3 : Int32) (2 : Int32) ar r0 (.ref r1) (.ref r2) .null T101.heap (by decide) (by decide) Sq101 (E_0.ext x101) (F_0.ext x101)) rfl (argsL := [(.ref s1), (.int (0 : Int32)), (.int (3 : Int32)), (.int (2 : Int32))]) (rest := []) (g := (mkF m 93 #[.val (.int i0), .val (.int i1), .val (.int (3 : Int32)), .val (.int (1 : Int32)), .val (.ref s1), .val (.int (2 : Int32))] [(.int (2 : Int32)), (.int (3 : Int32)), (.int (0 : Int32)), (.ref s1)])) rfl (by rw [hml]; rfl) (ps := [(.object "com/example/halyard/halyard/engine/OperandStack"), .int, .int, .int]) (r := (some .boolean)) (by decide +kernel) rfl rfl (W := 0) (by show 2 * 0 + _ ≤ _; exact Nat.le_of_eq rfl) (hb hby at_93) (by decide) (by decide) (by decide) (by decide)
      have x102 := own_ext_trans x101 q102
      have S102 := own_ST_ext q102 Sq101
      have N102 := Fr.app N101 (Fr.nil n0)
      refine own_go st102 ?_
      show own_G p e below _ T102 (mkF m 96 #[.val (.int i0), .val (.int i1), .val (.int (3 : Int32)), .val (.int (1 : Int32)), .val (.ref s1), .val (.int (2 : Int32))] [(.int (1 : Int32))])
      refine own_go (fun t k => XS.ifNo X102.here hx rfl (hb hby at_96) rfl (by decide) k) ?_
      show own_G p e below _ T102 (mkF m 99 #[.val (.int i0), .val (.int i1), .val (.int (3 : Int32)), .val (.int (1 : Int32)), .val (.ref s1), .val (.int (2 : Int32))] [])
      refine own_go (fun t k => XS.aload X102.here hx rfl (hb hby at_99) rfl rfl k) ?_
      show own_G p e below _ T102 (mkF m 101 #[.val (.int i0), .val (.int i1), .val (.int (3 : Int32)), .val (.int (1 : Int32)), .val (.ref s1), .val (.int (2 : Int32))] [(.ref s1)])
      refine own_go (fun t k => XS.iconst X102.here hx rfl (hb hby at_101) k) ?_
      show own_G p e below _ T102 (mkF m 102 #[.val (.int i0), .val (.int i1), .val (.int (3 : Int32)), .val (.int (1 : Int32)), .val (.ref s1), .val (.int (2 : Int32))] [(.int (1 : Int32)), (.ref s1)])
      refine own_go (fun t k => XS.iloadN X102.here hx rfl (hb hby at_102) rfl k) ?_
      show own_G p e below _ T102 (mkF m 103 #[.val (.int i0), .val (.int i1), .val (.int (3 : Int32)), .val (.int (1 : Int32)), .val (.ref s1), .val (.int (2 : Int32))] [(.int (3 : Int32)), (.int (1 : Int32)), (.ref s1)])
      refine own_go (fun t k => XS.iload X102.here hx rfl (hb hby at_103) rfl k) ?_
      show own_G p e below _ T102 (mkF m 105 #[.val (.int i0), .val (.int i1), .val (.int (3 : Int32)), .val (.int (1 : Int32)), .val (.ref s1), .val (.int (2 : Int32))] [(.int (2 : Int32)), (.int (3 : Int32)), (.int (1 : Int32)), (.ref s1)])
      obtain ⟨T103, L103, v103, X103, ⟨rfl, rfl, q103⟩, st103⟩ := own_callS X102 hx hH (y := (⟨"com/example/halyard/halyard/engine/OperandStackDropPinLaw", "slot", "(Lcom/example/halyard/halyard/engine/OperandStack;III)Z"⟩ : MethodName)) hown (hw _ (List.mem_of_getElem? (i := 34) rfl)) (hw _ (List.mem_of_getElem? (i := 35) rfl)) (hw _ (List.mem_of_getElem? (i := 36) rfl)) (hw _ (List.mem_of_getElem? (i := 37) rfl)) (by decide) (c_slot_b1 l Z a0 hw s1 (3 : Int32) (2 : Int32) ar r1 (.ref r0) (.ref r2) .null T102.heap (by decide) (by decide) S102 (E_1.ext x102) (F_1.ext x102)) rfl (argsL := [(.ref s1), (.int (1 : Int32)), (.int (3 : Int32)), (.int (2 : Int32))]) (rest := []) (g := (mkF m 105 #[.val (.int i0), .val (.int i1), .val (.int (3 : Int32)), .val (.int (1 : Int32)), .val (.ref s1), .val (.int (2 : Int32))] [(.int (2 : Int32)), (.int (3 : Int32)), (.int (1 : Int32)), (.ref s1)])) rfl (by rw [hml]; rfl) (ps := [(.object "com/example/halyard/halyard/engine/OperandStack"), .int, .int, .int]) (r := (some .boolean)) (by decide +kernel) rfl rfl (W := 0) (by show 2 * 0 + _ ≤ _; exact Nat.le_of_eq rfl) (hb hby at_105) (by decide) (by decide) (by decide) (by decide)
      have x103 := own_ext_trans x102 q103
      have S103 := own_ST_ext q103 S102
      have N103 := Fr.app N102 (Fr.nil n0)
      refine own_go st103 ?_
      show own_G p e below _ T103 (mkF m 108 #[.val (.int i0), .val (.int i1), .val (.int (3 : Int32)), .val (.int (1 : Int32)), .val (.ref s1), .val (.int (2 : Int32))] [(.int (1 : Int32))])
      refine own_go (fun t k => XS.ifNo X103.here hx rfl (hb hby at_108) rfl (by decide) k) ?_
      show own_G p e below _ T103 (mkF m 111 #[.val (.int i0), .val (.int i1), .val (.int (3 : Int32)), .val (.int (1 : Int32)), .val (.ref s1), .val (.int (2 : Int32))] [])
      refine own_go (fun t k => XS.aload X103.here hx rfl (hb hby at_111) rfl rfl k) ?_
      show own_G p e below _ T103 (mkF m 113 #[.val (.int i0), .val (.int i1), .val (.int (3 : Int32)), .val (.int (1 : Int32)), .val (.ref s1), .val (.int (2 : Int32))] [(.ref s1)])
      refine own_go (fun t k => XS.iconst X103.here hx rfl (hb hby at_113) k) ?_
      show own_G p e below _ T103 (mkF m 114 #[.val (.int i0), .val (.int i1), .val (.int (3 : Int32)), .val (.int (1 : Int32)), .val (.ref s1), .val (.int (2 : Int32))] [(.int (2 : Int32)), (.ref s1)])
      refine own_go (fun t k => XS.iloadN X103.here hx rfl (hb hby at_114) rfl k) ?_
      show own_G p e below _ T103 (mkF m 115 #[.val (.int i0), .val (.int i1), .val (.int (3 : Int32)), .val (.int (1 : Int32)), .val (.ref s1), .val (.int (2 : Int32))] [(.int (3 : Int32)), (.int (2 : Int32)), (.ref s1)])
      refine own_go (fun t k => XS.iload X103.here hx rfl (hb hby at_115) rfl k) ?_
      show own_G p e below _ T103 (mkF m 117 #[.val (.int i0), .val (.int i1), .val (.int (3 : Int32)), .val (.int (1 : Int32)), .val (.ref s1), .val (.int (2 : Int32))] [(.int (2 : Int32)), (.int (3 : Int32)), (.int (2 : Int32)), (.ref s1)])
      obtain ⟨T104, L104, v104, X104, ⟨rfl, rfl, q104⟩, st104⟩ := own_callS X103 hx hH (y := (⟨"com/example/halyard/halyard/engine/OperandStackDropPinLaw", "slot", "(Lcom/example/halyard/halyard/engine/OperandStack;III)Z"⟩ : MethodName)) hown (hw _ (List.mem_of_getElem? (i := 34) rfl)) (hw _ (List.mem_of_getElem? (i := 35) rfl)) (hw _ (List.mem_of_getElem? (i := 36) rfl)) (hw _ (List.mem_of_getElem? (i := 37) rfl)) (by decide) (c_slot_b2 l Z a0 hw s1 (3 : Int32) (2 : Int32) ar r2 (.ref r0) (.ref r1) .null T103.heap (by decide) (by decide) S103 (E_2.ext x103) (F_2.ext x103)) rfl (argsL := [(.ref s1), (.int (2 : Int32)), (.int (3 : Int32)), (.int (2 : Int32))]) (rest := []) (g := (mkF m 117 #[.val (.int i0), .val (.int i1), .val (.int (3 : Int32)), .val (.int (1 : Int32)), .val (.ref s1), .val (.int (2 : Int32))] [(.int (2 : Int32)), (.int (3 : Int32)), (.int (2 : Int32)), (.ref s1)])) rfl (by rw [hml]; rfl) (ps := [(.object "com/example/halyard/halyard/engine/OperandStack"), .int, .int, .int]) (r := (some .boolean)) (by decide +kernel) rfl rfl (W := 0) (by show 2 * 0 + _ ≤ _; exact Nat.le_of_eq rfl) (hb hby at_117) (by decide) (by decide) (by decide) (by decide)
      have x104 := own_ext_trans x103 q104
      have S104 := own_ST_ext q104 S103
      have N104 := Fr.app N103 (Fr.nil n0)
      refine own_go st104 ?_
      show own_G p e below _ T104 (mkF m 120 #[.val (.int i0), .val (.int i1), .val (.int (3 : Int32)), .val (.int (1 : Int32)), .val (.ref s1), .val (.int (2 : Int32))] [(.int (1 : Int32))])
      refine own_go (fun t k => XS.ifNo X104.here hx rfl (hb hby at_120) rfl (by decide) k) ?_
      show own_G p e below _ T104 (mkF m 123 #[.val (.int i0), .val (.int i1), .val (.int (3 : Int32)), .val (.int (1 : Int32)), .val (.ref s1), .val (.int (2 : Int32))] [])
      refine own_go (fun t k => XS.aload X104.here hx rfl (hb hby at_123) rfl rfl k) ?_
      show own_G p e below _ T104 (mkF m 125 #[.val (.int i0), .val (.int i1), .val (.int (3 : Int32)), .val (.int (1 : Int32)), .val (.ref s1), .val (.int (2 : Int32))] [(.ref s1)])
      refine own_go (fun t k => XS.iconst X104.here hx rfl (hb hby at_125) k) ?_
      show own_G p e below _ T104 (mkF m 126 #[.val (.int i0), .val (.int i1), .val (.int (3 : Int32)), .val (.int (1 : Int32)), .val (.ref s1), .val (.int (2 : Int32))] [(.int (3 : Int32)), (.ref s1)])
      refine own_go (fun t k => XS.iloadN X104.here hx rfl (hb hby at_126) rfl k) ?_
      show own_G p e below _ T104 (mkF m 127 #[.val (.int i0), .val (.int i1), .val (.int (3 : Int32)), .val (.int (1 : Int32)), .val (.ref s1), .val (.int (2 : Int32))] [(.int (3 : Int32)), (.int (3 : Int32)), (.ref s1)])
      refine own_go (fun t k => XS.iload X104.here hx rfl (hb hby at_127) rfl k) ?_
      show own_G p e below _ T104 (mkF m 129 #[.val (.int i0), .val (.int i1), .val (.int (3 : Int32)), .val (.int (1 : Int32)), .val (.ref s1), .val (.int (2 : Int32))] [(.int (2 : Int32)), (.int (3 : Int32)), (.int (3 : Int32)), (.ref s1)])
      obtain ⟨T105, L105, v105, X105, ⟨rfl, rfl, q105⟩, st105⟩ := own_callS X104 hx hH (y := (⟨"com/example/halyard/halyard/engine/OperandStackDropPinLaw", "slot", "(Lcom/example/halyard/halyard/engine/OperandStack;III)Z"⟩ : MethodName)) hown (hw _ (List.mem_of_getElem? (i := 34) rfl)) (hw _ (List.mem_of_getElem? (i := 35) rfl)) (hw _ (List.mem_of_getElem? (i := 36) rfl)) (hw _ (List.mem_of_getElem? (i := 37) rfl)) (by decide) (c_slot_c3 l Z a0 hw s1 (3 : Int32) (2 : Int32) ar (.ref r0) (.ref r1) (.ref r2) T104.heap (by decide) (by decide) S104) rfl (argsL := [(.ref s1), (.int (3 : Int32)), (.int (3 : Int32)), (.int (2 : Int32))]) (rest := []) (g := (mkF m 129 #[.val (.int i0), .val (.int i1), .val (.int (3 : Int32)), .val (.int (1 : Int32)), .val (.ref s1), .val (.int (2 : Int32))] [(.int (2 : Int32)), (.int (3 : Int32)), (.int (3 : Int32)), (.ref s1)])) rfl (by rw [hml]; rfl) (ps := [(.object "com/example/halyard/halyard/engine/OperandStack"), .int, .int, .int]) (r := (some .boolean)) (by decide +kernel) rfl rfl (W := 0) (by show 2 * 0 + _ ≤ _; exact Nat.le_of_eq rfl) (hb hby at_129) (by decide) (by decide) (by decide) (by decide)
      have x105 := own_ext_trans x104 q105
      have S105 := own_ST_ext q105 S104
      have N105 := Fr.app N104 (Fr.nil n0)
      refine own_go st105 ?_
      show own_G p e below _ T105 (mkF m 132 #[.val (.int i0), .val (.int i1), .val (.int (3 : Int32)), .val (.int (1 : Int32)), .val (.ref s1), .val (.int (2 : Int32))] [(.int (1 : Int32))])
      refine own_go (fun t k => XS.ifNo X105.here hx rfl (hb hby at_132) rfl (by decide) k) ?_
      show own_G p e below _ T105 (mkF m 135 #[.val (.int i0), .val (.int i1), .val (.int (3 : Int32)), .val (.int (1 : Int32)), .val (.ref s1), .val (.int (2 : Int32))] [])
      refine own_go (fun t k => XS.iconst X105.here hx rfl (hb hby at_135) k) ?_
      show own_G p e below _ T105 (mkF m 136 #[.val (.int i0), .val (.int i1), .val (.int (3 : Int32)), .val (.int (1 : Int32)), .val (.ref s1), .val (.int (2 : Int32))] [(.int (1 : Int32))])
      refine own_go (fun t k => XS.goto X105.here hx rfl (pc0 := 136) (pc' := 140) rfl (hb hby at_136) (by decide) (by decide) k) ?_
      show own_G p e below _ T105 (mkF m 140 #[.val (.int i0), .val (.int i1), .val (.int (3 : Int32)), .val (.int (1 : Int32)), .val (.ref s1), .val (.int (2 : Int32))] [(.int (1 : Int32))])
      exact own_retN X105 hx hlk hret (by simp) (hb hby at_140) (by decide) (by decide) ⟨rfl, N105⟩
    · rw [hk75]
      show own_G p e below _ T0 (mkF m 15 #[.val (.int i0), .val (.int i1), .val (.int (3 : Int32)), .unset, .unset, .unset] [(.int (2 : Int32))])
      refine own_go (fun t k => XS.istoreN X0.here hx rfl (hb hby at_15) rfl (l' := #[.val (.int i0), .val (.int i1), .val (.int (3 : Int32)), .val (.int (2 : Int32)), .unset, .unset]) rfl k) ?_
      show own_G p e below _ T0 (mkF m 16 #[.val (.int i0), .val (.int i1), .val (.int (3 : Int32)), .val (.int (2 : Int32)), .unset, .unset] [])
      obtain ⟨T106, h106, X106, e106, E106, A106, D106, -, st106⟩ := newO X0 hx hZ hown (hw _ (List.mem_of_getElem? (i := 1) rfl)) (hw _ (List.mem_of_getElem? (i := 2) rfl)) (hw _ (List.mem_of_getElem? (i := 3) rfl)) e0 (g := (mkF m 16 #[.val (.int i0), .val (.int i1), .val (.int (3 : Int32)), .val (.int (2 : Int32)), .unset, .unset] [])) rfl (hb hby at_16) (by decide) (by decide)
      obtain ⟨s1, gs⟩ : ∃ z, z = h0.size := ⟨_, rfl⟩
      rw [← gs] at A106 D106 st106
      have F1 : Fld Z h106 s1 own_K "values" "[Ljava/lang/Object;" .null := D106 (Or.inl (hw _ (List.mem_of_getElem? (i := 13) rfl))) (ty := .array (.object "java/lang/Object")) (by decide +kernel)
      have F2 : Fld Z h106 s1 own_K "size" "I" (.int (0 : Int32)) := D106 (Or.inl (hw _ (List.mem_of_getElem? (i := 27) rfl))) (ty := .int) (by decide)
      have x106 : Ext h0 h106 := E106
      have js : h0.size ≤ s1 := Nat.le_of_eq gs.symm
      have g1 : n0 ≤ s1 := Nat.le_trans Z0 js
      refine own_go st106 ?_
      show own_G p e below _ T106 (mkF m 19 #[.val (.int i0), .val (.int i1), .val (.int (3 : Int32)), .val (.int (2 : Int32)), .unset, .unset] [(.ref s1)])
      refine own_go (fun t k => XS.dup X106.here hx rfl (hb hby at_19) rfl rfl k) ?_
      show own_G p e below _ T106 (mkF m 20 #[.val (.int i0), .val (.int i1), .val (.int (3 : Int32)), .val (.int (2 : Int32)), .unset, .unset] [(.ref s1), (.ref s1)])
      obtain ⟨T107, L107, v107, X107, ⟨rfl, Nq107, Kq107, Sq107⟩, st107⟩ := own_callN X106 hx hH (y := (⟨"com/example/halyard/halyard/engine/OperandStack", "<init>", "()V"⟩ : MethodName)) rfl hown (hw _ (List.mem_of_getElem? (i := 4) rfl)) (hw _ (List.mem_of_getElem? (i := 5) rfl)) (hw _ (List.mem_of_getElem? (i := 6) rfl)) (hw _ (List.mem_of_getElem? (i := 3) rfl)) (by decide) (c_init l Z a0 hw s1 h106 n0 (Nat.le_trans Z0 x106.1) A106 F1 F2 g1) e106 (argsL := []) (rest := [(.ref s1)]) (g := (mkF m 20 #[.val (.int i0), .val (.int i1), .val (.int (3 : Int32)), .val (.int (2 : Int32)), .unset, .unset] [(.ref s1), (.ref s1)])) rfl (by rw [hml]; rfl) (ps := []) (r := none) (by decide +kernel) rfl rfl (W := 1) (by show 2 * 0 + _ ≤ _; exact Nat.le_of_eq rfl) (hb hby at_20) (by decide) (by decide) (by decide) (by decide)
      obtain ⟨ar, ga⟩ : ∃ z, z = h106.size := ⟨_, rfl⟩
      rw [← ga] at Sq107
      have ja : h0.size ≤ ar := Nat.le_trans x106.1 (Nat.le_of_eq ga.symm)
      have g2 : n0 ≤ ar := Nat.le_trans Z0 ja
      have x107 := own_ext_keep x106 Kq107 (allS js all0)
      have N107 := Fr.app N0 Nq107
      refine own_go st107 ?_
      show own_G p e below _ T107 (mkF m 23 #[.val (.int i0), .val (.int i1), .val (.int (3 : Int32)), .val (.int (2 : Int32)), .unset, .unset] [(.ref s1)])
      refine own_go (fun t k => XS.astore X107.here hx rfl (hb hby at_23) rfl rfl (l' := #[.val (.int i0), .val (.int i1), .val (.int (3 : Int32)), .val (.int (2 : Int32)), .val (.ref s1), .unset]) rfl k) ?_
      show own_G p e below _ T107 (mkF m 25 #[.val (.int i0), .val (.int i1), .val (.int (3 : Int32)), .val (.int (2 : Int32)), .val (.ref s1), .unset] [])
      refine own_go (fun t k => XS.aload X107.here hx rfl (hb hby at_25) rfl rfl k) ?_
      show own_G p e below _ T107 (mkF m 27 #[.val (.int i0), .val (.int i1), .val (.int (3 : Int32)), .val (.int (2 : Int32)), .val (.ref s1), .unset] [(.ref s1)])
      refine own_go (fun t k => XS.iconst X107.here hx rfl (hb hby at_27) k) ?_
      show own_G p e below _ T107 (mkF m 28 #[.val (.int i0), .val (.int i1), .val (.int (3 : Int32)), .val (.int (2 : Int32)), .val (.ref s1), .unset] [(.int (0 : Int32)), (.ref s1)])
      obtain ⟨T108, L108, v108, X108, ⟨rfl, rfl, q108⟩, st108⟩ := own_callS X107 hx hH (y := (⟨"java/lang/Integer", "valueOf", "(I)Ljava/lang/Integer;"⟩ : MethodName)) hown (hw _ (List.mem_of_getElem? (i := 14) rfl)) (hw _ (List.mem_of_getElem? (i := 15) rfl)) (hw _ (List.mem_of_getElem? (i := 16) rfl)) (hw _ (List.mem_of_getElem? (i := 17) rfl)) (by decide) (c_valueOf_0 l Z a0 hw ac r0 r1 r2 r3 clc T107.heap (own_B_ext x107 B)) rfl (argsL := [(.int (0 : Int32))]) (rest := [(.ref s1)]) (g := (mkF m 28 #[.val (.int i0), .val (.int i1), .val (.int (3 : Int32)), .val (.int (2 : Int32)), .val (.ref s1), .unset] [(.int (0 : Int32)), (.ref s1)])) rfl (by rw [hml]; rfl) (ps := [.int]) (r := (some (.object "java/lang/Integer"))) (by decide +kernel) rfl rfl (W := 1) (by show 2 * 0 + _ ≤ _; exact Nat.le_of_eq rfl) (hb hby at_28) (by decide) (by decide) (by decide) (by decide)
      have N108 := Fr.app N107 (Fr.nil n0)
      refine own_go st108 ?_
      show own_G p e below _ T108 (mkF m 31 #[.val (.int i0), .val (.int i1), .val (.int (3 : Int32)), .val (.int (2 : Int32)), .val (.ref s1), .unset] [(.ref r0), (.ref s1)])
      obtain ⟨T109, L109, v109, X109, ⟨rfl, Nq109, Kq109, Sq109⟩, st109⟩ := own_callV X108 hx hH (y := (⟨"com/example/halyard/halyard/engine/OperandStack", "push", "(Ljava/lang/Object;)V"⟩ : MethodName)) (z := (⟨"com/example/halyard/halyard/engine/OperandStack", "push", "(Ljava/lang/Object;)V"⟩ : MethodName)) hown (hw _ (List.mem_of_getElem? (i := 21) rfl)) (hw _ (List.mem_of_getElem? (i := 22) rfl)) (hw _ (List.mem_of_getElem? (i := 24) rfl)) (hw _ (List.mem_of_getElem? (i := 24) rfl)) (hw _ (List.mem_of_getElem? (i := 23) rfl)) (hw _ (List.mem_of_getElem? (i := 25) rfl)) (hw _ (List.mem_of_getElem? (i := 3) rfl)) (notFace_of_selects (args := #[]) (mvT hZ (hw _ (List.mem_of_getElem? (i := 24) rfl)))) (by decide) (c_push_0A l Z a0 hw s1 ar r0 .null .null .null .null T107.heap n0 (Nat.le_trans Z0 x107.1) Sq107 (own_ST_sto Sq107 (Ins.of_exa (E_0.ext x107) (hw _ (List.mem_of_getElem? (i := 28) rfl)))) g1 g2) q108 Sq107.1 (argsL := [(.ref r0)]) (rest := []) (g := (mkF m 31 #[.val (.int i0), .val (.int i1), .val (.int (3 : Int32)), .val (.int (2 : Int32)), .val (.ref s1), .unset] [(.ref r0), (.ref s1)])) rfl (by rw [hml]; rfl) (ps := [(.object "java/lang/Object")]) (r := none) (by decide +kernel) rfl rfl (W := 0) (by show 2 * 0 + _ ≤ _; exact Nat.le_of_eq rfl) (hb hby at_31) (by decide) (by decide) (by decide) (by decide)
      have x109 := own_ext_keep x107 Kq109 (allS js (allS ja all0))
      have N109 := Fr.app N108 Nq109
      refine own_go st109 ?_
      show own_G p e below _ T109 (mkF m 34 #[.val (.int i0), .val (.int i1), .val (.int (3 : Int32)), .val (.int (2 : Int32)), .val (.ref s1), .unset] [])
      refine own_go (fun t k => XS.iloadN X109.here hx rfl (hb hby at_34) rfl k) ?_
      show own_G p e below _ T109 (mkF m 35 #[.val (.int i0), .val (.int i1), .val (.int (3 : Int32)), .val (.int (2 : Int32)), .val (.ref s1), .unset] [(.int (3 : Int32))])
      refine own_go (fun t k => XS.iconst X109.here hx rfl (hb hby at_35) k) ?_
      show own_G p e below _ T109 (mkF m 36 #[.val (.int i0), .val (.int i1), .val (.int (3 : Int32)), .val (.int (2 : Int32)), .val (.ref s1), .unset] [(.int (1 : Int32)), (.int (3 : Int32))])
      refine own_go (fun t k => XS.icmpNo X109.here hx rfl (hb hby at_36) rfl (by decide) k) ?_
      show own_G p e below _ T109 (mkF m 39 #[.val (.int i0), .val (.int i1), .val (.int (3 : Int32)), .val (.int (2 : Int32)), .val (.ref s1), .unset] [])
      refine own_go (fun t k => XS.aload X109.here hx rfl (hb hby at_39) rfl rfl k) ?_
      show own_G p e below _ T109 (mkF m 41 #[.val (.int i0), .val (.int i1), .val (.int (3 : Int32)), .val (.int (2 : Int32)), .val (.ref s1), .unset] [(.ref s1)])
      refine own_go (fun t k => XS.iconst X109.here hx rfl (hb hby at_41) k) ?_
      show own_G p e below _ T109 (mkF m 42 #[.val (.int i0), .val (.int i1), .val (.int (3 : Int32)), .val (.int (2 : Int32)), .val (.ref s1), .unset] [(.int (1 : Int32)), (.ref s1)])
      obtain ⟨T110, L110, v110, X110, ⟨rfl, rfl, q110⟩, st110⟩ := own_callS X109 hx hH (y := (⟨"java/lang/Integer", "valueOf", "(I)Ljava/lang/Integer;"⟩ : MethodName)) hown (hw _ (List.mem_of_getElem? (i := 14) rfl)) (hw _ (List.mem_of_getElem? (i := 15) rfl)) (hw _ (List.mem_of_getElem? (i := 16) rfl)) (hw _ (List.mem_of_getElem? (i := 17) rfl)) (by decide) (c_valueOf_1 l Z a0 hw ac r0 r1 r2 r3 clc T109.heap (own_B_ext x109 B)) rfl (argsL := [(.int (1 : Int32))]) (rest := [(.ref s1)]) (g := (mkF m 42 #[.val (.int i0), .val (.int i1), .val (.int (3 : Int32)), .val (.int (2 : Int32)), .val (.ref s1), .unset] [(.int (1 : Int32)), (.ref s1)])) rfl (by rw [hml]; rfl) (ps := [.int]) (r := (some (.object "java/lang/Integer"))) (by decide +kernel) rfl rfl (W := 1) (by show 2 * 0 + _ ≤ _; exact Nat.le_of_eq rfl) (hb hby at_42) (by decide) (by decide) (by decide) (by decide)
      have N110 := Fr.app N109 (Fr.nil n0)
      refine own_go st110 ?_
      show own_G p e below _ T110 (mkF m 45 #[.val (.int i0), .val (.int i1), .val (.int (3 : Int32)), .val (.int (2 : Int32)), .val (.ref s1), .unset] [(.ref r1), (.ref s1)])
      obtain ⟨T111, L111, v111, X111, ⟨rfl, Nq111, Kq111, Sq111⟩, st111⟩ := own_callV X110 hx hH (y := (⟨"com/example/halyard/halyard/engine/OperandStack", "push", "(Ljava/lang/Object;)V"⟩ : MethodName)) (z := (⟨"com/example/halyard/halyard/engine/OperandStack", "push", "(Ljava/lang/Object;)V"⟩ : MethodName)) hown (hw _ (List.mem_of_getElem? (i := 21) rfl)) (hw _ (List.mem_of_getElem? (i := 22) rfl)) (hw _ (List.mem_of_getElem? (i := 24) rfl)) (hw _ (List.mem_of_getElem? (i := 24) rfl)) (hw _ (List.mem_of_getElem? (i := 23) rfl)) (hw _ (List.mem_of_getElem? (i := 25) rfl)) (hw _ (List.mem_of_getElem? (i := 3) rfl)) (notFace_of_selects (args := #[]) (mvT hZ (hw _ (List.mem_of_getElem? (i := 24) rfl)))) (by decide) (c_push_1A l Z a0 hw s1 ar r1 (.ref r0) .null .null .null T109.heap n0 (Nat.le_trans Z0 x109.1) Sq109 (own_ST_sto Sq109 (Ins.of_exa (E_1.ext x109) (hw _ (List.mem_of_getElem? (i := 28) rfl)))) g1 g2) q110 Sq109.1 (argsL := [(.ref r1)]) (rest := []) (g := (mkF m 45 #[.val (.int i0), .val (.int i1), .val (.int (3 : Int32)), .val (.int (2 : Int32)), .val (.ref s1), .unset] [(.ref r1), (.ref s1)])) rfl (by rw [hml]; rfl) (ps := [(.object "java/lang/Object")]) (r := none) (by decide +kernel) rfl rfl (W := 0) (by show 2 * 0 + _ ≤ _; exact Nat.le_of_eq rfl) (hb hby at_45) (by decide) (by decide) (by decide) (by decide)
      have x111 := own_ext_keep x109 Kq111 (allS js (allS ja all0))
      have N111 := Fr.app N110 Nq111
      refine own_go st111 ?_
      show own_G p e below _ T111 (mkF m 48 #[.val (.int i0), .val (.int i1), .val (.int (3 : Int32)), .val (.int (2 : Int32)), .val (.ref s1), .unset] [])
      refine own_go (fun t k => XS.iloadN X111.here hx rfl (hb hby at_48) rfl k) ?_
      show own_G p e below _ T111 (mkF m 49 #[.val (.int i0), .val (.int i1), .val (.int (3 : Int32)), .val (.int (2 : Int32)), .val (.ref s1), .unset] [(.int (3 : Int32))])
      refine own_go (fun t k => XS.iconst X111.here hx rfl (hb hby at_49) k) ?_
      show own_G p e below _ T111 (mkF m 50 #[.val (.int i0), .val (.int i1), .val (.int (3 : Int32)), .val (.int (2 : Int32)), .val (.ref s1), .unset] [(.int (2 : Int32)), (.int (3 : Int32))])
      refine own_go (fun t k => XS.icmpNo X111.here hx rfl (hb hby at_50) rfl (by decide) k) ?_
      show own_G p e below _ T111 (mkF m 53 #[.val (.int i0), .val (.int i1), .val (.int (3 : Int32)), .val (.int (2 : Int32)), .val (.ref s1), .unset] [])
      refine own_go (fun t k => XS.aload X111.here hx rfl (hb hby at_53) rfl rfl k) ?_
      show own_G p e below _ T111 (mkF m 55 #[.val (.int i0), .val (.int i1), .val (.int (3 : Int32)), .val (.int (2 : Int32)), .val (.ref s1), .unset] [(.ref s1)])
      refine own_go (fun t k => XS.iconst X111.here hx rfl (hb hby at_55) k) ?_
      show own_G p e below _ T111 (mkF m 56 #[.val (.int i0), .val (.int i1), .val (.int (3 : Int32)), .val (.int (2 : Int32)), .val (.ref s1), .unset] [(.int (2 : Int32)), (.ref s1)])
      obtain ⟨T112, L112, v112, X112, ⟨rfl, rfl, q112⟩, st112⟩ := own_callS X111 hx hH (y := (⟨"java/lang/Integer", "valueOf", "(I)Ljava/lang/Integer;"⟩ : MethodName)) hown (hw _ (List.mem_of_getElem? (i := 14) rfl)) (hw _ (List.mem_of_getElem? (i := 15) rfl)) (hw _ (List.mem_of_getElem? (i := 16) rfl)) (hw _ (List.mem_of_getElem? (i := 17) rfl)) (by decide) (c_valueOf_2 l Z a0 hw ac r0 r1 r2 r3 clc T111.heap (own_B_ext x111 B)) rfl (argsL := [(.int (2 : Int32))]) (rest := [(.ref s1)]) (g := (mkF m 56 #[.val (.int i0), .val (.int i1), .val (.int (3 : Int32)), .val (.int (2 : Int32)), .val (.ref s1), .unset] [(.int (2 : Int32)), (.ref s1)])) rfl (by rw [hml]; rfl) (ps := [.int]) (r := (some (.object "java/lang/Integer"))) (by decide +kernel) rfl rfl (W := 1) (by show 2 * 0 + _ ≤ _; exact Nat.le_of_eq rfl) (hb hby at_56) (by decide) (by decide) (by decide) (by decide)
      have N112 := Fr.app N111 (Fr.nil n0)
      refine own_go st112 ?_
      show own_G p e below _ T112 (mkF m 59 #[.val (.int i0), .val (.int i1), .val (.int (3 : Int32)), .val (.int (2 : Int32)), .val (.ref s1), .unset] [(.ref r2), (.ref s1)])
      obtain ⟨T113, L113, v113, X113, ⟨rfl, Nq113, Kq113, Sq113⟩, st113⟩ := own_callV X112 hx hH (y := (⟨"com/example/halyard/halyard/engine/OperandStack", "push", "(Ljava/lang/Object;)V"⟩ : MethodName)) (z := (⟨"com/example/halyard/halyard/engine/OperandStack", "push", "(Ljava/lang/Object;)V"⟩ : MethodName)) hown (hw _ (List.mem_of_getElem? (i := 21) rfl)) (hw _ (List.mem_of_getElem? (i := 22) rfl)) (hw _ (List.mem_of_getElem? (i := 24) rfl)) (hw _ (List.mem_of_getElem? (i := 24) rfl)) (hw _ (List.mem_of_getElem? (i := 23) rfl)) (hw _ (List.mem_of_getElem? (i := 25) rfl)) (hw _ (List.mem_of_getElem? (i := 3) rfl)) (notFace_of_selects (args := #[]) (mvT hZ (hw _ (List.mem_of_getElem? (i := 24) rfl)))) (by decide) (c_push_2A l Z a0 hw s1 ar r2 (.ref r0) (.ref r1) .null .null T111.heap n0 (Nat.le_trans Z0 x111.1) Sq111 (own_ST_sto Sq111 (Ins.of_exa (E_2.ext x111) (hw _ (List.mem_of_getElem? (i := 28) rfl)))) g1 g2) q112 Sq111.1 (argsL := [(.ref r2)]) (rest := []) (g := (mkF m 59 #[.val (.int i0), .val (.int i1), .val (.int (3 : Int32)), .val (.int (2 : Int32)), .val (.ref s1), .unset] [(.ref r2), (.ref s1)])) rfl (by rw [hml]; rfl) (ps := [(.object "java/lang/Object")]) (r := none) (by decide +kernel) rfl rfl (W := 0) (by show 2 * 0 + _ ≤ _; exact Nat.le_of_eq rfl) (hb hby at_59) (by decide) (by decide) (by decide) (by decide)
      have x113 := own_ext_keep x111 Kq113 (allS js (allS ja all0))
      have N113 := Fr.app N112 Nq113
      refine own_go st113 ?_
      show own_G p e below _ T113 (mkF m 62 #[.val (.int i0), .val (.int i1), .val (.int (3 : Int32)), .val (.int (2 : Int32)), .val (.ref s1), .unset] [])
      refine own_go (fun t k => XS.iloadN X113.here hx rfl (hb hby at_62) rfl k) ?_
      show own_G p e below _ T113 (mkF m 63 #[.val (.int i0), .val (.int i1), .val (.int (3 : Int32)), .val (.int (2 : Int32)), .val (.ref s1), .unset] [(.int (3 : Int32))])
      refine own_go (fun t k => XS.iconst X113.here hx rfl (hb hby at_63) k) ?_
      show own_G p e below _ T113 (mkF m 64 #[.val (.int i0), .val (.int i1), .val (.int (3 : Int32)), .val (.int (2 : Int32)), .val (.ref s1), .unset] [(.int (3 : Int32)), (.int (3 : Int32))])
      refine own_go (fun t k => XS.icmpNo X113.here hx rfl (hb hby at_64) rfl (by decide) k) ?_
      show own_G p e below _ T113 (mkF m 67 #[.val (.int i0), .val (.int i1), .val (.int (3 : Int32)), .val (.int (2 : Int32)), .val (.ref s1), .unset] [])
      refine own_go (fun t k => XS.aload X113.here hx rfl (hb hby at_67) rfl rfl k) ?_
      show own_G p e below _ T113 (mkF m 69 #[.val (.int i0), .val (.int i1), .val (.int (3 : Int32)), .val (.int (2 : Int32)), .val (.ref s1), .unset] [(.ref s1)])
      refine own_go (fun t k => XS.iconst X113.here hx rfl (hb hby at_69) k) ?_
      show own_G p e below _ T113 (mkF m 70 #[.val (.int i0), .val (.int i1), .val (.int (3 : Int32)), .val (.int (2 : Int32)), .val (.ref s1), .unset] [(.int (3 : Int32)), (.ref s1)])
      obtain ⟨T114, L114, v114, X114, ⟨rfl, rfl, q114⟩, st114⟩ := own_callS X113 hx hH (y := (⟨"java/lang/Integer", "valueOf", "(I)Ljava/lang/Integer;"⟩ : MethodName)) hown (hw _ (List.mem_of_getElem? (i := 14) rfl)) (hw _ (List.mem_of_getElem? (i := 15) rfl)) (hw _ (List.mem_of_getElem? (i := 16) rfl)) (hw _ (List.mem_of_getElem? (i := 17) rfl)) (by decide) (c_valueOf_3 l Z a0 hw ac r0 r1 r2 r3 clc T113.heap (own_B_ext x113 B)) rfl (argsL := [(.int (3 : Int32))]) (rest := [(.ref s1)]) (g := (mkF m 70 #[.val (.int i0), .val (.int i1), .val (.int (3 : Int32)), .val (.int (2 : Int32)), .val (.ref s1), .unset] [(.int (3 : Int32)), (.ref s1)])) rfl (by rw [hml]; rfl) (ps := [.int]) (r := (some (.object "java/lang/Integer"))) (by decide +kernel) rfl rfl (W := 1) (by show 2 * 0 + _ ≤ _; exact Nat.le_of_eq rfl) (hb hby at_70) (by decide) (by decide) (by decide) (by decide)
      have N114 := Fr.app N113 (Fr.nil n0)
      refine own_go st114 ?_
      show own_G p e below _ T114 (mkF m 73 #[.val (.int i0), .val (.int i1), .val (.int (3 : Int32)), .val (.int (2 : Int32)), .val (.ref s1), .unset] [(.ref r3), (.ref s1)])
      obtain ⟨T115, L115, v115, X115, ⟨rfl, Nq115, Kq115, Sq115⟩, st115⟩ := own_callV X114 hx hH (y := (⟨"com/example/halyard/halyard/engine/OperandStack", "push", "(Ljava/lang/Object;)V"⟩ : MethodName)) (z := (⟨"com/example/halyard/halyard/engine/OperandStack", "push", "(Ljava/lang/Object;)V"⟩ : MethodName)) hown (hw _ (List.mem_of_getElem? (i := 21) rfl)) (hw _ (List.mem_of_getElem? (i := 22) rfl)) (hw _ (List.mem_of_getElem? (i := 24) rfl)) (hw _ (List.mem_of_getElem? (i := 24) rfl)) (hw _ (List.mem_of_getElem? (i := 23) rfl)) (hw _ (List.mem_of_getElem? (i := 25) rfl)) (hw _ (List.mem_of_getElem? (i := 3) rfl)) (notFace_of_selects (args := #[]) (mvT hZ (hw _ (List.mem_of_getElem? (i := 24) rfl)))) (by decide) (c_push_3A l Z a0 hw s1 ar r3 (.ref r0) (.ref r1) (.ref r2) .null T113.heap n0 (Nat.le_trans Z0 x113.1) Sq113 (own_ST_sto Sq113 (Ins.of_exa (E_3.ext x113) (hw _ (List.mem_of_getElem? (i := 28) rfl)))) g1 g2) q114 Sq113.1 (argsL := [(.ref r3)]) (rest := []) (g := (mkF m 73 #[.val (.int i0), .val (.int i1), .val (.int (3 : Int32)), .val (.int (2 : Int32)), .val (.ref s1), .unset] [(.ref r3), (.ref s1)])) rfl (by rw [hml]; rfl) (ps := [(.object "java/lang/Object")]) (r := none) (by decide +kernel) rfl rfl (W := 0) (by show 2 * 0 + _ ≤ _; exact Nat.le_of_eq rfl) (hb hby at_73) (by decide) (by decide) (by decide) (by decide)
      have x115 := own_ext_keep x113 Kq115 (allS js (allS ja all0))
      have N115 := Fr.app N114 Nq115
      refine own_go st115 ?_
      show own_G p e below _ T115 (mkF m 76 #[.val (.int i0), .val (.int i1), .val (.int (3 : Int32)), .val (.int (2 : Int32)), .val (.ref s1), .unset] [])
      refine own_go (fun t k => XS.aload X115.here hx rfl (hb hby at_76) rfl rfl k) ?_
      show own_G p e below _ T115 (mkF m 78 #[.val (.int i0), .val (.int i1), .val (.int (3 : Int32)), .val (.int (2 : Int32)), .val (.ref s1), .unset] [(.ref s1)])
      refine own_go (fun t k => XS.iloadN X115.here hx rfl (hb hby at_78) rfl k) ?_
      show own_G p e below _ T115 (mkF m 79 #[.val (.int i0), .val (.int i1), .val (.int (3 : Int32)), .val (.int (2 : Int32)), .val (.ref s1), .unset] [(.int (2 : Int32)), (.ref s1)])
      obtain ⟨T116, L116, v116, X116, ⟨rfl, Nq116, Kq116, Sq116⟩, st116⟩ := own_callV X115 hx hH (y := (⟨"com/example/halyard/halyard/engine/OperandStack", "drop", "(I)V"⟩ : MethodName)) (z := (⟨"com/example/halyard/halyard/engine/OperandStack", "drop", "(I)V"⟩ : MethodName)) hown (hw _ (List.mem_of_getElem? (i := 29) rfl)) (hw _ (List.mem_of_getElem? (i := 30) rfl)) (hw _ (List.mem_of_getElem? (i := 32) rfl)) (hw _ (List.mem_of_getElem? (i := 32) rfl)) (hw _ (List.mem_of_getElem? (i := 31) rfl)) (hw _ (List.mem_of_getElem? (i := 33) rfl)) (hw _ (List.mem_of_getElem? (i := 3) rfl)) (notFace_of_selects (args := #[]) (mvT hZ (hw _ (List.mem_of_getElem? (i := 32) rfl)))) (by decide) (c_drop_4_2 l Z a0 hw s1 ar (.ref r0) (.ref r1) (.ref r2) (.ref r3) T115.heap n0 (Nat.le_trans Z0 x115.1) Sq115 g1 g2) rfl Sq115.1 (argsL := [(.int (2 : Int32))]) (rest := []) (g := (mkF m 79 #[.val (.int i0), .val (.int i1), .val (.int (3 : Int32)), .val (.int (2 : Int32)), .val (.ref s1), .unset] [(.int (2 : Int32)), (.ref s1)])) rfl (by rw [hml]; rfl) (ps := [.int]) (r := none) (by decide +kernel) rfl rfl (W := 0) (by show 2 * 0 + _ ≤ _; exact Nat.le_of_eq rfl) (hb hby at_79) (by decide) (by decide) (by decide) (by decide)
      have x116 := own_ext_keep x115 Kq116 (allS js (allS ja all0))
      have N116 := Fr.app N115 Nq116
      refine own_go st116 ?_
      show own_G p e below _ T116 (mkF m 82 #[.val (.int i0), .val (.int i1), .val (.int (3 : Int32)), .val (.int (2 : Int32)), .val (.ref s1), .unset] [])
      refine own_go (fun t k => XS.iloadN X116.here hx rfl (hb hby at_82) rfl k) ?_
      show own_G p e below _ T116 (mkF m 83 #[.val (.int i0), .val (.int i1), .val (.int (3 : Int32)), .val (.int (2 : Int32)), .val (.ref s1), .unset] [(.int (3 : Int32))])
      refine own_go (fun t k => XS.iloadN X116.here hx rfl (hb hby at_83) rfl k) ?_
      show own_G p e below _ T116 (mkF m 84 #[.val (.int i0), .val (.int i1), .val (.int (3 : Int32)), .val (.int (2 : Int32)), .val (.ref s1), .unset] [(.int (2 : Int32)), (.int (3 : Int32))])
      refine own_go (fun t k => XS.isub X116.here hx rfl (hb hby at_84) rfl k) ?_
      show own_G p e below _ T116 (mkF m 85 #[.val (.int i0), .val (.int i1), .val (.int (3 : Int32)), .val (.int (2 : Int32)), .val (.ref s1), .unset] [(.int (1 : Int32))])
      refine own_go (fun t k => XS.istore X116.here hx rfl (hb hby at_85) rfl (l' := #[.val (.int i0), .val (.int i1), .val (.int (3 : Int32)), .val (.int (2 : Int32)), .val (.ref s1), .val (.int (1 : Int32))]) rfl k) ?_
      show own_G p e below _ T116 (mkF m 87 #[.val (.int i0), .val (.int i1), .val (.int (3 : Int32)), .val (.int (2 : Int32)), .val (.ref s1), .val (.int (1 : Int32))] [])
      refine own_go (fun t k => XS.aload X116.here hx rfl (hb hby at_87) rfl rfl k) ?_
      show own_G p e below _ T116 (mkF m 89 #[.val (.int i0), .val (.int i1), .val (.int (3 : Int32)), .val (.int (2 : Int32)), .val (.ref s1), .val (.int (1 : Int32))] [(.ref s1)])
      refine own_go (fun t k => XS.iconst X116.here hx rfl (hb hby at_89) k) ?_
      show own_G p e below _ T116 (mkF m 90 #[.val (.int i0), .val (.int i1), .val (.int (3 : Int32)), .val (.int (2 : Int32)), .val (.ref s1), .val (.int (1 : Int32))] [(.int (0 : Int32)), (.ref s1)])
      refine own_go (fun t k => XS.iloadN X116.here hx rfl (hb hby at_90) rfl k) ?_
      show own_G p e below _ T116 (mkF m 91 #[.val (.int i0), .val (.int i1), .val (.int (3 : Int32)), .val (.int (2 : Int32)), .val (.ref s1), .val (.int (1 : Int32))] [(.int (3 : Int32)), (.int (0 : Int32)), (.ref s1)])
      refine own_go (fun t k => XS.iload X116.here hx rfl (hb hby at_91) rfl k) ?_
      show own_G p e below _ T116 (mkF m 93 #[.val (.int i0), .val (.int i1), .val (.int (3 : Int32)), .val (.int (2 : Int32)), .val (.ref s1), .val (.int (1 : Int32))] [(.int (1 : Int32)), (.int (3 : Int32)), (.int (0 : Int32)), (.ref s1)])
      obtain ⟨T117, L117, v117, X117, ⟨rfl, rfl, q117⟩, st117⟩ := own_callS X116 hx hH (y := (⟨"com/example/halyard/halyard/engine/OperandStackDropPinLaw", "slot", "(Lcom/example/halyard/halyard/engine/OperandStack;III)Z"⟩ : MethodName)) hown (hw _ (List.mem_of_getElem? (i := 34) rfl)) (hw _ (List.mem_of_getElem? (i := 35) rfl)) (hw _ (List.mem_of_getElem? (i := 36) rfl)) (hw _ (List.mem_of_getElem? (i := 37) rfl)) (by decide) (c_slot_b0 l Z a0 hw s1 (3 : Int32) (1 : Int32) ar r0 (.ref r1) .null .null T116.heap (by decide) (by decide) Sq116 (E_0.ext x116) (F_0.ext x116)) rfl (argsL := [(.ref s1), (.int (0 : Int32)), (.int (3 : Int32)), (.int (1 : Int32))]) (rest := []) (g := (mkF m 93 #[.val (.int i0), .val (.int i1), .val (.int (3 : Int32)), .val (.int (2 : Int32)), .val (.ref s1), .val (.int (1 : Int32))] [(.int (1 : Int32)), (.int (3 : Int32)), (.int (0 : Int32)), (.ref s1)])) rfl (by rw [hml]; rfl) (ps := [(.object "com/example/halyard/halyard/engine/OperandStack"), .int, .int, .int]) (r := (some .boolean)) (by decide +kernel) rfl rfl (W := 0) (by show 2 * 0 + _ ≤ _; exact Nat.le_of_eq rfl) (hb hby at_93) (by decide) (by decide) (by decide) (by decide)
      have x117 := own_ext_trans x116 q117
      have S117 := own_ST_ext q117 Sq116
      have N117 := Fr.app N116 (Fr.nil n0)
      refine own_go st117 ?_
      show own_G p e below _ T117 (mkF m 96 #[.val (.int i0), .val (.int i1), .val (.int (3 : Int32)), .val (.int (2 : Int32)), .val (.ref s1), .val (.int (1 : Int32))] [(.int (1 : Int32))])
      refine own_go (fun t k => XS.ifNo X117.here hx rfl (hb hby at_96) rfl (by decide) k) ?_
      show own_G p e below _ T117 (mkF m 99 #[.val (.int i0), .val (.int i1), .val (.int (3 : Int32)), .val (.int (2 : Int32)), .val (.ref s1), .val (.int (1 : Int32))] [])
      refine own_go (fun t k => XS.aload X117.here hx rfl (hb hby at_99) rfl rfl k) ?_
      show own_G p e below _ T117 (mkF m 101 #[.val (.int i0), .val (.int i1), .val (.int (3 : Int32)), .val (.int (2 : Int32)), .val (.ref s1), .val (.int (1 : Int32))] [(.ref s1)])
      refine own_go (fun t k => XS.iconst X117.here hx rfl (hb hby at_101) k) ?_
      show own_G p e below _ T117 (mkF m 102 #[.val (.int i0), .val (.int i1), .val (.int (3 : Int32)), .val (.int (2 : Int32)), .val (.ref s1), .val (.int (1 : Int32))] [(.int (1 : Int32)), (.ref s1)])
      refine own_go (fun t k => XS.iloadN X117.here hx rfl (hb hby at_102) rfl k) ?_
      show own_G p e below _ T117 (mkF m 103 #[.val (.int i0), .val (.int i1), .val (.int (3 : Int32)), .val (.int (2 : Int32)), .val (.ref s1), .val (.int (1 : Int32))] [(.int (3 : Int32)), (.int (1 : Int32)), (.ref s1)])
      refine own_go (fun t k => XS.iload X117.here hx rfl (hb hby at_103) rfl k) ?_
      show own_G p e below _ T117 (mkF m 105 #[.val (.int i0), .val (.int i1), .val (.int (3 : Int32)), .val (.int (2 : Int32)), .val (.ref s1), .val (.int (1 : Int32))] [(.int (1 : Int32)), (.int (3 : Int32)), (.int (1 : Int32)), (.ref s1)])
      obtain ⟨T118, L118, v118, X118, ⟨rfl, rfl, q118⟩, st118⟩ := own_callS X117 hx hH (y := (⟨"com/example/halyard/halyard/engine/OperandStackDropPinLaw", "slot", "(Lcom/example/halyard/halyard/engine/OperandStack;III)Z"⟩ : MethodName)) hown (hw _ (List.mem_of_getElem? (i := 34) rfl)) (hw _ (List.mem_of_getElem? (i := 35) rfl)) (hw _ (List.mem_of_getElem? (i := 36) rfl)) (hw _ (List.mem_of_getElem? (i := 37) rfl)) (by decide) (c_slot_b1 l Z a0 hw s1 (3 : Int32) (1 : Int32) ar r1 (.ref r0) .null .null T117.heap (by decide) (by decide) S117 (E_1.ext x117) (F_1.ext x117)) rfl (argsL := [(.ref s1), (.int (1 : Int32)), (.int (3 : Int32)), (.int (1 : Int32))]) (rest := []) (g := (mkF m 105 #[.val (.int i0), .val (.int i1), .val (.int (3 : Int32)), .val (.int (2 : Int32)), .val (.ref s1), .val (.int (1 : Int32))] [(.int (1 : Int32)), (.int (3 : Int32)), (.int (1 : Int32)), (.ref s1)])) rfl (by rw [hml]; rfl) (ps := [(.object "com/example/halyard/halyard/engine/OperandStack"), .int, .int, .int]) (r := (some .boolean)) (by decide +kernel) rfl rfl (W := 0) (by show 2 * 0 + _ ≤ _; exact Nat.le_of_eq rfl) (hb hby at_105) (by decide) (by decide) (by decide) (by decide)
      have x118 := own_ext_trans x117 q118
      have S118 := own_ST_ext q118 S117
      have N118 := Fr.app N117 (Fr.nil n0)
      refine own_go st118 ?_
      show own_G p e below _ T118 (mkF m 108 #[.val (.int i0), .val (.int i1), .val (.int (3 : Int32)), .val (.int (2 : Int32)), .val (.ref s1), .val (.int (1 : Int32))] [(.int (1 : Int32))])
      refine own_go (fun t k => XS.ifNo X118.here hx rfl (hb hby at_108) rfl (by decide) k) ?_
      show own_G p e below _ T118 (mkF m 111 #[.val (.int i0), .val (.int i1), .val (.int (3 : Int32)), .val (.int (2 : Int32)), .val (.ref s1), .val (.int (1 : Int32))] [])
      refine own_go (fun t k => XS.aload X118.here hx rfl (hb hby at_111) rfl rfl k) ?_
      show own_G p e below _ T118 (mkF m 113 #[.val (.int i0), .val (.int i1), .val (.int (3 : Int32)), .val (.int (2 : Int32)), .val (.ref s1), .val (.int (1 : Int32))] [(.ref s1)])
      refine own_go (fun t k => XS.iconst X118.here hx rfl (hb hby at_113) k) ?_
      show own_G p e below _ T118 (mkF m 114 #[.val (.int i0), .val (.int i1), .val (.int (3 : Int32)), .val (.int (2 : Int32)), .val (.ref s1), .val (.int (1 : Int32))] [(.int (2 : Int32)), (.ref s1)])
      refine own_go (fun t k => XS.iloadN X118.here hx rfl (hb hby at_114) rfl k) ?_
      show own_G p e below _ T118 (mkF m 115 #[.val (.int i0), .val (.int i1), .val (.int (3 : Int32)), .val (.int (2 : Int32)), .val (.ref s1), .val (.int (1 : Int32))] [(.int (3 : Int32)), (.int (2 : Int32)), (.ref s1)])
      refine own_go (fun t k => XS.iload X118.here hx rfl (hb hby at_115) rfl k) ?_
      show own_G p e below _ T118 (mkF m 117 #[.val (.int i0), .val (.int i1), .val (.int (3 : Int32)), .val (.int (2 : Int32)), .val (.ref s1), .val (.int (1 : Int32))] [(.int (1 : Int32)), (.int (3 : Int32)), (.int (2 : Int32)), (.ref s1)])
      obtain ⟨T119, L119, v119, X119, ⟨rfl, rfl, q119⟩, st119⟩ := own_callS X118 hx hH (y := (⟨"com/example/halyard/halyard/engine/OperandStackDropPinLaw", "slot", "(Lcom/example/halyard/halyard/engine/OperandStack;III)Z"⟩ : MethodName)) hown (hw _ (List.mem_of_getElem? (i := 34) rfl)) (hw _ (List.mem_of_getElem? (i := 35) rfl)) (hw _ (List.mem_of_getElem? (i := 36) rfl)) (hw _ (List.mem_of_getElem? (i := 37) rfl)) (by decide) (c_slot_c2 l Z a0 hw s1 (3 : Int32) (1 : Int32) ar (.ref r0) (.ref r1) .null T118.heap (by decide) (by decide) S118) rfl (argsL := [(.ref s1), (.int (2 : Int32)), (.int (3 : Int32)), (.int (1 : Int32))]) (rest := []) (g := (mkF m 117 #[.val (.int i0), .val (.int i1), .val (.int (3 : Int32)), .val (.int (2 : Int32)), .val (.ref s1), .val (.int (1 : Int32))] [(.int (1 : Int32)), (.int (3 : Int32)), (.int (2 : Int32)), (.ref s1)])) rfl (by rw [hml]; rfl) (ps := [(.object "com/example/halyard/halyard/engine/OperandStack"), .int, .int, .int]) (r := (some .boolean)) (by decide +kernel) rfl rfl (W := 0) (by show 2 * 0 + _ ≤ _; exact Nat.le_of_eq rfl) (hb hby at_117) (by decide) (by decide) (by decide) (by decide)
      have x119 := own_ext_trans x118 q119
      have S119 := own_ST_ext q119 S118
      have N119 := Fr.app N118 (Fr.nil n0)
      refine own_go st119 ?_
      show own_G p e below _ T119 (mkF m 120 #[.val (.int i0), .val (.int i1), .val (.int (3 : Int32)), .val (.int (2 : Int32)), .val (.ref s1), .val (.int (1 : Int32))] [(.int (1 : Int32))])
      refine own_go (fun t k => XS.ifNo X119.here hx rfl (hb hby at_120) rfl (by decide) k) ?_
      show own_G p e below _ T119 (mkF m 123 #[.val (.int i0), .val (.int i1), .val (.int (3 : Int32)), .val (.int (2 : Int32)), .val (.ref s1), .val (.int (1 : Int32))] [])
      refine own_go (fun t k => XS.aload X119.here hx rfl (hb hby at_123) rfl rfl k) ?_
      show own_G p e below _ T119 (mkF m 125 #[.val (.int i0), .val (.int i1), .val (.int (3 : Int32)), .val (.int (2 : Int32)), .val (.ref s1), .val (.int (1 : Int32))] [(.ref s1)])
      refine own_go (fun t k => XS.iconst X119.here hx rfl (hb hby at_125) k) ?_
      show own_G p e below _ T119 (mkF m 126 #[.val (.int i0), .val (.int i1), .val (.int (3 : Int32)), .val (.int (2 : Int32)), .val (.ref s1), .val (.int (1 : Int32))] [(.int (3 : Int32)), (.ref s1)])
      refine own_go (fun t k => XS.iloadN X119.here hx rfl (hb hby at_126) rfl k) ?_
      show own_G p e below _ T119 (mkF m 127 #[.val (.int i0), .val (.int i1), .val (.int (3 : Int32)), .val (.int (2 : Int32)), .val (.ref s1), .val (.int (1 : Int32))] [(.int (3 : Int32)), (.int (3 : Int32)), (.ref s1)])
      refine own_go (fun t k => XS.iload X119.here hx rfl (hb hby at_127) rfl k) ?_
      show own_G p e below _ T119 (mkF m 129 #[.val (.int i0), .val (.int i1), .val (.int (3 : Int32)), .val (.int (2 : Int32)), .val (.ref s1), .val (.int (1 : Int32))] [(.int (1 : Int32)), (.int (3 : Int32)), (.int (3 : Int32)), (.ref s1)])
      obtain ⟨T120, L120, v120, X120, ⟨rfl, rfl, q120⟩, st120⟩ := own_callS X119 hx hH (y := (⟨"com/example/halyard/halyard/engine/OperandStackDropPinLaw", "slot", "(Lcom/example/halyard/halyard/engine/OperandStack;III)Z"⟩ : MethodName)) hown (hw _ (List.mem_of_getElem? (i := 34) rfl)) (hw _ (List.mem_of_getElem? (i := 35) rfl)) (hw _ (List.mem_of_getElem? (i := 36) rfl)) (hw _ (List.mem_of_getElem? (i := 37) rfl)) (by decide) (c_slot_c3 l Z a0 hw s1 (3 : Int32) (1 : Int32) ar (.ref r0) (.ref r1) .null T119.heap (by decide) (by decide) S119) rfl (argsL := [(.ref s1), (.int (3 : Int32)), (.int (3 : Int32)), (.int (1 : Int32))]) (rest := []) (g := (mkF m 129 #[.val (.int i0), .val (.int i1), .val (.int (3 : Int32)), .val (.int (2 : Int32)), .val (.ref s1), .val (.int (1 : Int32))] [(.int (1 : Int32)), (.int (3 : Int32)), (.int (3 : Int32)), (.ref s1)])) rfl (by rw [hml]; rfl) (ps := [(.object "com/example/halyard/halyard/engine/OperandStack"), .int, .int, .int]) (r := (some .boolean)) (by decide +kernel) rfl rfl (W := 0) (by show 2 * 0 + _ ≤ _; exact Nat.le_of_eq rfl) (hb hby at_129) (by decide) (by decide) (by decide) (by decide)
      have x120 := own_ext_trans x119 q120
      have S120 := own_ST_ext q120 S119
      have N120 := Fr.app N119 (Fr.nil n0)
      refine own_go st120 ?_
      show own_G p e below _ T120 (mkF m 132 #[.val (.int i0), .val (.int i1), .val (.int (3 : Int32)), .val (.int (2 : Int32)), .val (.ref s1), .val (.int (1 : Int32))] [(.int (1 : Int32))])
      refine own_go (fun t k => XS.ifNo X120.here hx rfl (hb hby at_132) rfl (by decide) k) ?_
      show own_G p e below _ T120 (mkF m 135 #[.val (.int i0), .val (.int i1), .val (.int (3 : Int32)), .val (.int (2 : Int32)), .val (.ref s1), .val (.int (1 : Int32))] [])
      refine own_go (fun t k => XS.iconst X120.here hx rfl (hb hby at_135) k) ?_
      show own_G p e below _ T120 (mkF m 136 #[.val (.int i0), .val (.int i1), .val (.int (3 : Int32)), .val (.int (2 : Int32)), .val (.ref s1), .val (.int (1 : Int32))] [(.int (1 : Int32))])
      refine own_go (fun t k => XS.goto X120.here hx rfl (pc0 := 136) (pc' := 140) rfl (hb hby at_136) (by decide) (by decide) k) ?_
      show own_G p e below _ T120 (mkF m 140 #[.val (.int i0), .val (.int i1), .val (.int (3 : Int32)), .val (.int (2 : Int32)), .val (.ref s1), .val (.int (1 : Int32))] [(.int (1 : Int32))])
      exact own_retN X120 hx hlk hret (by simp) (hb hby at_140) (by decide) (by decide) ⟨rfl, N120⟩
    · rw [hk75]
      show own_G p e below _ T0 (mkF m 15 #[.val (.int i0), .val (.int i1), .val (.int (3 : Int32)), .unset, .unset, .unset] [(.int (3 : Int32))])
      refine own_go (fun t k => XS.istoreN X0.here hx rfl (hb hby at_15) rfl (l' := #[.val (.int i0), .val (.int i1), .val (.int (3 : Int32)), .val (.int (3 : Int32)), .unset, .unset]) rfl k) ?_
      show own_G p e below _ T0 (mkF m 16 #[.val (.int i0), .val (.int i1), .val (.int (3 : Int32)), .val (.int (3 : Int32)), .unset, .unset] [])
      obtain ⟨T121, h121, X121, e121, E121, A121, D121, -, st121⟩ := newO X0 hx hZ hown (hw _ (List.mem_of_getElem? (i := 1) rfl)) (hw _ (List.mem_of_getElem? (i := 2) rfl)) (hw _ (List.mem_of_getElem? (i := 3) rfl)) e0 (g := (mkF m 16 #[.val (.int i0), .val (.int i1), .val (.int (3 : Int32)), .val (.int (3 : Int32)), .unset, .unset] [])) rfl (hb hby at_16) (by decide) (by decide)
      obtain ⟨s1, gs⟩ : ∃ z, z = h0.size := ⟨_, rfl⟩
      rw [← gs] at A121 D121 st121
      have F1 : Fld Z h121 s1 own_K "values" "[Ljava/lang/Object;" .null := D121 (Or.inl (hw _ (List.mem_of_getElem? (i := 13) rfl))) (ty := .array (.object "java/lang/Object")) (by decide +kernel)
      have F2 : Fld Z h121 s1 own_K "size" "I" (.int (0 : Int32)) := D121 (Or.inl (hw _ (List.mem_of_getElem? (i := 27) rfl))) (ty := .int) (by decide)
      have x121 : Ext h0 h121 := E121
      have js : h0.size ≤ s1 := Nat.le_of_eq gs.symm
      have g1 : n0 ≤ s1 := Nat.le_trans Z0 js
      refine own_go st121 ?_
      show own_G p e below _ T121 (mkF m 19 #[.val (.int i0), .val (.int i1), .val (.int (3 : Int32)), .val (.int (3 : Int32)), .unset, .unset] [(.ref s1)])
      refine own_go (fun t k => XS.dup X121.here hx rfl (hb hby at_19) rfl rfl k) ?_
      show own_G p e below _ T121 (mkF m 20 #[.val (.int i0), .val (.int i1), .val (.int (3 : Int32)), .val (.int (3 : Int32)), .unset, .unset] [(.ref s1), (.ref s1)])
      obtain ⟨T122, L122, v122, X122, ⟨rfl, Nq122, Kq122, Sq122⟩, st122⟩ := own_callN X121 hx hH (y := (⟨"com/example/halyard/halyard/engine/OperandStack", "<init>", "()V"⟩ : MethodName)) rfl hown (hw _ (List.mem_of_getElem? (i := 4) rfl)) (hw _ (List.mem_of_getElem? (i := 5) rfl)) (hw _ (List.mem_of_getElem? (i := 6) rfl)) (hw _ (List.mem_of_getElem? (i := 3) rfl)) (by decide) (c_init l Z a0 hw s1 h121 n0 (Nat.le_trans Z0 x121.1) A121 F1 F2 g1) e121 (argsL := []) (rest := [(.ref s1)]) (g := (mkF m 20 #[.val (.int i0), .val (.int i1), .val (.int (3 : Int32)), .val (.int (3 : Int32)), .unset, .unset] [(.ref s1), (.ref s1)])) rfl (by rw [hml]; rfl) (ps := []) (r := none) (by decide +kernel) rfl rfl (W := 1) (by show 2 * 0 + _ ≤ _; exact Nat.le_of_eq rfl) (hb hby at_20) (by decide) (by decide) (by decide) (by decide)
      obtain ⟨ar, ga⟩ : ∃ z, z = h121.size := ⟨_, rfl⟩
      rw [← ga] at Sq122
      have ja : h0.size ≤ ar := Nat.le_trans x121.1 (Nat.le_of_eq ga.symm)
      have g2 : n0 ≤ ar := Nat.le_trans Z0 ja
      have x122 := own_ext_keep x121 Kq122 (allS js all0)
      have N122 := Fr.app N0 Nq122
      refine own_go st122 ?_
      show own_G p e below _ T122 (mkF m 23 #[.val (.int i0), .val (.int i1), .val (.int (3 : Int32)), .val (.int (3 : Int32)), .unset, .unset] [(.ref s1)])
      refine own_go (fun t k => XS.astore X122.here hx rfl (hb hby at_23) rfl rfl (l' := #[.val (.int i0), .val (.int i1), .val (.int (3 : Int32)), .val (.int (3 : Int32)), .val (.ref s1), .unset]) rfl k) ?_
      show own_G p e below _ T122 (mkF m 25 #[.val (.int i0), .val (.int i1), .val (.int (3 : Int32)), .val (.int (3 : Int32)), .val (.ref s1), .unset] [])
      refine own_go (fun t k => XS.aload X122.here hx rfl (hb hby at_25) rfl rfl k) ?_
      show own_G p e below _ T122 (mkF m 27 #[.val (.int i0), .val (.int i1), .val (.int (3 : Int32)), .val (.int (3 : Int32)), .val (.ref s1), .unset] [(.ref s1)])
      refine own_go (fun t k => XS.iconst X122.here hx rfl (hb hby at_27) k) ?_
      show own_G p e below _ T122 (mkF m 28 #[.val (.int i0), .val (.int i1), .val (.int (3 : Int32)), .val (.int (3 : Int32)), .val (.ref s1), .unset] [(.int (0 : Int32)), (.ref s1)])
      obtain ⟨T123, L123, v123, X123, ⟨rfl, rfl, q123⟩, st123⟩ := own_callS X122 hx hH (y := (⟨"java/lang/Integer", "valueOf", "(I)Ljava/lang/Integer;"⟩ : MethodName)) hown (hw _ (List.mem_of_getElem? (i := 14) rfl)) (hw _ (List.mem_of_getElem? (i := 15) rfl)) (hw _ (List.mem_of_getElem? (i := 16) rfl)) (hw _ (List.mem_of_getElem? (i := 17) rfl)) (by decide) (c_valueOf_0 l Z a0 hw ac r0 r1 r2 r3 clc T122.heap (own_B_ext x122 B)) rfl (argsL := [(.int (0 : Int32))]) (rest := [(.ref s1)]) (g := (mkF m 28 #[.val (.int i0), .val (.int i1), .val (.int (3 : Int32)), .val (.int (3 : Int32)), .val (.ref s1), .unset] [(.int (0 : Int32)), (.ref s1)])) rfl (by rw [hml]; rfl) (ps := [.int]) (r := (some (.object "java/lang/Integer"))) (by decide +kernel) rfl rfl (W := 1) (by show 2 * 0 + _ ≤ _; exact Nat.le_of_eq rfl) (hb hby at_28) (by decide) (by decide) (by decide) (by decide)
      have N123 := Fr.app N122 (Fr.nil n0)
      refine own_go st123 ?_
      show own_G p e below _ T123 (mkF m 31 #[.val (.int i0), .val (.int i1), .val (.int (3 : Int32)), .val (.int (3 : Int32)), .val (.ref s1), .unset] [(.ref r0), (.ref s1)])
      obtain ⟨T124, L124, v124, X124, ⟨rfl, Nq124, Kq124, Sq124⟩, st124⟩ := own_callV X123 hx hH (y := (⟨"com/example/halyard/halyard/engine/OperandStack", "push", "(Ljava/lang/Object;)V"⟩ : MethodName)) (z := (⟨"com/example/halyard/halyard/engine/OperandStack", "push", "(Ljava/lang/Object;)V"⟩ : MethodName)) hown (hw _ (List.mem_of_getElem? (i := 21) rfl)) (hw _ (List.mem_of_getElem? (i := 22) rfl)) (hw _ (List.mem_of_getElem? (i := 24) rfl)) (hw _ (List.mem_of_getElem? (i := 24) rfl)) (hw _ (List.mem_of_getElem? (i := 23) rfl)) (hw _ (List.mem_of_getElem? (i := 25) rfl)) (hw _ (List.mem_of_getElem? (i := 3) rfl)) (notFace_of_selects (args := #[]) (mvT hZ (hw _ (List.mem_of_getElem? (i := 24) rfl)))) (by decide) (c_push_0A l Z a0 hw s1 ar r0 .null .null .null .null T122.heap n0 (Nat.le_trans Z0 x122.1) Sq122 (own_ST_sto Sq122 (Ins.of_exa (E_0.ext x122) (hw _ (List.mem_of_getElem? (i := 28) rfl)))) g1 g2) q123 Sq122.1 (argsL := [(.ref r0)]) (rest := []) (g := (mkF m 31 #[.val (.int i0), .val (.int i1), .val (.int (3 : Int32)), .val (.int (3 : Int32)), .val (.ref s1), .unset] [(.ref r0), (.ref s1)])) rfl (by rw [hml]; rfl) (ps := [(.object "java/lang/Object")]) (r := none) (by decide +kernel) rfl rfl (W := 0) (by show 2 * 0 + _ ≤ _; exact Nat.le_of_eq rfl) (hb hby at_31) (by decide) (by decide) (by decide) (by decide)
      have x124 := own_ext_keep x122 Kq124 (allS js (allS ja all0))
      have N124 := Fr.app N123 Nq124
      refine own_go st124 ?_
      show own_G p e below _ T124 (mkF m 34 #[.val (.int i0), .val (.int i1), .val (.int (3 : Int32)), .val (.int (3 : Int32)), .val (.ref s1), .unset] [])
      refine own_go (fun t k => XS.iloadN X124.here hx rfl (hb hby at_34) rfl k) ?_
      show own_G p e below _ T124 (mkF m 35 #[.val (.int i0), .val (.int i1), .val (.int (3 : Int32)), .val (.int (3 : Int32)), .val (.ref s1), .unset] [(.int (3 : Int32))])
      refine own_go (fun t k => XS.iconst X124.here hx rfl (hb hby at_35) k) ?_
      show own_G p e below _ T124 (mkF m 36 #[.val (.int i0), .val (.int i1), .val (.int (3 : Int32)), .val (.int (3 : Int32)), .val (.ref s1), .unset] [(.int (1 : Int32)), (.int (3 : Int32))])
      refine own_go (fun t k => XS.icmpNo X124.here hx rfl (hb hby at_36) rfl (by decide) k) ?_
      show own_G p e below _ T124 (mkF m 39 #[.val (.int i0), .val (.int i1), .val (.int (3 : Int32)), .val (.int (3 : Int32)), .val (.ref s1), .unset] [])
      refine own_go (fun t k => XS.aload X124.here hx rfl (hb hby at_39) rfl rfl k) ?_
      show own_G p e below _ T124 (mkF m 41 #[.val (.int i0), .val (.int i1), .val (.int (3 : Int32)), .val (.int (3 : Int32)), .val (.ref s1), .unset] [(.ref s1)])
      refine own_go (fun t k => XS.iconst X124.here hx rfl (hb hby at_41) k) ?_
      show own_G p e below _ T124 (mkF m 42 #[.val (.int i0), .val (.int i1), .val (.int (3 : Int32)), .val (.int (3 : Int32)), .val (.ref s1), .unset] [(.int (1 : Int32)), (.ref s1)])
      obtain ⟨T125, L125, v125, X125, ⟨rfl, rfl, q125⟩, st125⟩ := own_callS X124 hx hH (y := (⟨"java/lang/Integer", "valueOf", "(I)Ljava/lang/Integer;"⟩ : MethodName)) hown (hw _ (List.mem_of_getElem? (i := 14) rfl)) (hw _ (List.mem_of_getElem? (i := 15) rfl)) (hw _ (List.mem_of_getElem? (i := 16) rfl)) (hw _ (List.mem_of_getElem? (i := 17) rfl)) (by decide) (c_valueOf_1 l Z a0 hw ac r0 r1 r2 r3 clc T124.heap (own_B_ext x124 B)) rfl (argsL := [(.int (1 : Int32))]) (rest := [(.ref s1)]) (g := (mkF m 42 #[.val (.int i0), .val (.int i1), .val (.int (3 : Int32)), .val (.int (3 : Int32)), .val (.ref s1), .unset] [(.int (1 : Int32)), (.ref s1)])) rfl (by rw [hml]; rfl) (ps := [.int]) (r := (some (.object "java/lang/Integer"))) (by decide +kernel) rfl rfl (W := 1) (by show 2 * 0 + _ ≤ _; exact Nat.le_of_eq rfl) (hb hby at_42) (by decide) (by decide) (by decide) (by decide)
      have N125 := Fr.app N124 (Fr.nil n0)
      refine own_go st125 ?_
      show own_G p e below _ T125 (mkF m 45 #[.val (.int i0), .val (.int i1), .val (.int (3 : Int32)), .val (.int (3 : Int32)), .val (.ref s1), .unset] [(.ref r1), (.ref s1)])
      obtain ⟨T126, L126, v126, X126, ⟨rfl, Nq126, Kq126, Sq126⟩, st126⟩ := own_callV X125 hx hH (y := (⟨"com/example/halyard/halyard/engine/OperandStack", "push", "(Ljava/lang/Object;)V"⟩ : MethodName)) (z := (⟨"com/example/halyard/halyard/engine/OperandStack", "push", "(Ljava/lang/Object;)V"⟩ : MethodName)) hown (hw _ (List.mem_of_getElem? (i := 21) rfl)) (hw _ (List.mem_of_getElem? (i := 22) rfl)) (hw _ (List.mem_of_getElem? (i := 24) rfl)) (hw _ (List.mem_of_getElem? (i := 24) rfl)) (hw _ (List.mem_of_getElem? (i := 23) rfl)) (hw _ (List.mem_of_getElem? (i := 25) rfl)) (hw _ (List.mem_of_getElem? (i := 3) rfl)) (notFace_of_selects (args := #[]) (mvT hZ (hw _ (List.mem_of_getElem? (i := 24) rfl)))) (by decide) (c_push_1A l Z a0 hw s1 ar r1 (.ref r0) .null .null .null T124.heap n0 (Nat.le_trans Z0 x124.1) Sq124 (own_ST_sto Sq124 (Ins.of_exa (E_1.ext x124) (hw _ (List.mem_of_getElem? (i := 28) rfl)))) g1 g2) q125 Sq124.1 (argsL := [(.ref r1)]) (rest := []) (g := (mkF m 45 #[.val (.int i0), .val (.int i1), .val (.int (3 : Int32)), .val (.int (3 : Int32)), .val (.ref s1), .unset] [(.ref r1), (.ref s1)])) rfl (by rw [hml]; rfl) (ps := [(.object "java/lang/Object")]) (r := none) (by decide +kernel) rfl rfl (W := 0) (by show 2 * 0 + _ ≤ _; exact Nat.le_of_eq rfl) (hb hby at_45) (by decide) (by decide) (by decide) (by decide)
      have x126 := own_ext_keep x124 Kq126 (allS js (allS ja all0))
      have N126 := Fr.app N125 Nq126
      refine own_go st126 ?_
      show own_G p e below _ T126 (mkF m 48 #[.val (.int i0), .val (.int i1), .val (.int (3 : Int32)), .val (.int (3 : Int32)), .val (.ref s1), .unset] [])
      refine own_go (fun t k => XS.iloadN X126.here hx rfl (hb hby at_48) rfl k) ?_
      show own_G p e below _ T126 (mkF m 49 #[.val (.int i0), .val (.int i1), .val (.int (3 : Int32)), .val (.int (3 : Int32)), .val (.ref s1), .unset] [(.int (3 : Int32))])
      refine own_go (fun t k => XS.iconst X126.here hx rfl (hb hby at_49) k) ?_
      show own_G p e below _ T126 (mkF m 50 #[.val (.int i0), .val (.int i1), .val (.int (3 : Int32)), .val (.int (3 : Int32)), .val (.ref s1), .unset] [(.int (2 : Int32)), (.int (3 : Int32))])
      refine own_go (fun t k => XS.icmpNo X126.here hx rfl (hb hby at_50) rfl (by decide) k) ?_
      show own_G p e below _ T126 (mkF m 53 #[.val (.int i0), .val (.int i1), .val (.int (3 : Int32)), .val (.int (3 : Int32)), .val (.ref s1), .unset] [])
      refine own_go (fun t k => XS.aload X126.here hx rfl (hb hby at_53) rfl rfl k) ?_
      show own_G p e below _ T126 (mkF m 55 #[.val (.int i0), .val (.int i1), .val (.int (3 : Int32)), .val (.int (3 : Int32)), .val (.ref s1), .unset] [(.ref s1)])
      refine own_go (fun t k => XS.iconst X126.here hx rfl (hb hby at_55) k) ?_
      show own_G p e below _ T126 (mkF m 56 #[.val (.int i0), .val (.int i1), .val (.int (3 : Int32)), .val (.int (3 : Int32)), .val (.ref s1), .unset] [(.int (2 : Int32)), (.ref s1)])
      obtain ⟨T127, L127, v127, X127, ⟨rfl, rfl, q127⟩, st127⟩ := own_callS X126 hx hH (y := (⟨"java/lang/Integer", "valueOf", "(I)Ljava/lang/Integer;"⟩ : MethodName)) hown (hw _ (List.mem_of_getElem? (i := 14) rfl)) (hw _ (List.mem_of_getElem? (i := 15) rfl)) (hw _ (List.mem_of_getElem? (i := 16) rfl)) (hw _ (List.mem_of_getElem? (i := 17) rfl)) (by decide) (c_valueOf_2 l Z a0 hw ac r0 r1 r2 r3 clc T126.heap (own_B_ext x126 B)) rfl (argsL := [(.int (2 : Int32))]) (rest := [(.ref s1)]) (g := (mkF m 56 #[.val (.int i0), .val (.int i1), .val (.int (3 : Int32)), .val (.int (3 : Int32)), .val (.ref s1), .unset] [(.int (2 : Int32)), (.ref s1)])) rfl (by rw [hml]; rfl) (ps := [.int]) (r := (some (.object "java/lang/Integer"))) (by decide +kernel) rfl rfl (W := 1) (by show 2 * 0 + _ ≤ _; exact Nat.le_of_eq rfl) (hb hby at_56) (by decide) (by decide) (by decide) (by decide)
      have N127 := Fr.app N126 (Fr.nil n0)
      refine own_go st127 ?_
      show own_G p e below _ T127 (mkF m 59 #[.val (.int i0), .val (.int i1), .val (.int (3 : Int32)), .val (.int (3 : Int32)), .val (.ref s1), .unset] [(.ref r2), (.ref s1)])
      obtain ⟨T128, L128, v128, X128, ⟨rfl, Nq128, Kq128, Sq128⟩, st128⟩ := own_callV X127 hx hH (y := (⟨"com/example/halyard/halyard/engine/OperandStack", "push", "(Ljava/lang/Object;)V"⟩ : MethodName)) (z := (⟨"com/example/halyard/halyard/engine/OperandStack", "push", "(Ljava/lang/Object;)V"⟩ : MethodName)) hown (hw _ (List.mem_of_getElem? (i := 21) rfl)) (hw _ (List.mem_of_getElem? (i := 22) rfl)) (hw _ (List.mem_of_getElem? (i := 24) rfl)) (hw _ (List.mem_of_getElem? (i := 24) rfl)) (hw _ (List.mem_of_getElem? (i := 23) rfl)) (hw _ (List.mem_of_getElem? (i := 25) rfl)) (hw _ (List.mem_of_getElem? (i := 3) rfl)) (notFace_of_selects (args := #[]) (mvT hZ (hw _ (List.mem_of_getElem? (i := 24) rfl)))) (by decide) (c_push_2A l Z a0 hw s1 ar r2 (.ref r0) (.ref r1) .null .null T126.heap n0 (Nat.le_trans Z0 x126.1) Sq126 (own_ST_sto Sq126 (Ins.of_exa (E_2.ext x126) (hw _ (List.mem_of_getElem? (i := 28) rfl)))) g1 g2) q127 Sq126.1 (argsL := [(.ref r2)]) (rest := []) (g := (mkF m 59 #[.val (.int i0), .val (.int i1), .val (.int (3 : Int32)), .val (.int (3 : Int32)), .val (.ref s1), .unset] [(.ref r2), (.ref s1)])) rfl (by rw [hml]; rfl) (ps := [(.object "java/lang/Object")]) (r := none) (by decide +kernel) rfl rfl (W := 0) (by show 2 * 0 + _ ≤ _; exact Nat.le_of_eq rfl) (hb hby at_59) (by decide) (by decide) (by decide) (by decide)
      have x128 := own_ext_keep x126 Kq128 (allS js (allS ja all0))
      have N128 := Fr.app N127 Nq128
      refine own_go st128 ?_
      show own_G p e below _ T128 (mkF m 62 #[.val (.int i0), .val (.int i1), .val (.int (3 : Int32)), .val (.int (3 : Int32)), .val (.ref s1), .unset] [])
      refine own_go (fun t k => XS.iloadN X128.here hx rfl (hb hby at_62) rfl k) ?_
      show own_G p e below _ T128 (mkF m 63 #[.val (.int i0), .val (.int i1), .val (.int (3 : Int32)), .val (.int (3 : Int32)), .val (.ref s1), .unset] [(.int (3 : Int32))])
      refine own_go (fun t k => XS.iconst X128.here hx rfl (hb hby at_63) k) ?_
      show own_G p e below _ T128 (mkF m 64 #[.val (.int i0), .val (.int i1), .val (.int (3 : Int32)), .val (.int (3 : Int32)), .val (.ref s1), .unset] [(.int (3 : Int32)), (.int (3 : Int32))])
      refine own_go (fun t k => XS.icmpNo X128.here hx rfl (hb hby at_64) rfl (by decide) k) ?_
      show own_G p e below _ T128 (mkF m 67 #[.val (.int i0), .val (.int i1), .val (.int (3 : Int32)), .val (.int (3 : Int32)), .val (.ref s1), .unset] [])
      refine own_go (fun t k => XS.aload X128.here hx rfl (hb hby at_67) rfl rfl k) ?_
      show own_G p e below _ T128 (mkF m 69 #[.val (.int i0), .val (.int i1), .val (.int (3 : Int32)), .val (.int (3 : Int32)), .val (.ref s1), .unset] [(.ref s1)])
      refine own_go (fun t k => XS.iconst X128.here hx rfl (hb hby at_69) k) ?_
      show own_G p e below _ T128 (mkF m 70 #[.val (.int i0), .val (.int i1), .val (.int (3 : Int32)), .val (.int (3 : Int32)), .val (.ref s1), .unset] [(.int (3 : Int32)), (.ref s1)])
      obtain ⟨T129, L129, v129, X129, ⟨rfl, rfl, q129⟩, st129⟩ := own_callS X128 hx hH (y := (⟨"java/lang/Integer", "valueOf", "(I)Ljava/lang/Integer;"⟩ : MethodName)) hown (hw _ (List.mem_of_getElem? (i := 14) rfl)) (hw _ (List.mem_of_getElem? (i := 15) rfl)) (hw _ (List.mem_of_getElem? (i := 16) rfl)) (hw _ (List.mem_of_getElem? (i := 17) rfl)) (by decide) (c_valueOf_3 l Z a0 hw ac r0 r1 r2 r3 clc T128.heap (own_B_ext x128 B)) rfl (argsL := [(.int (3 : Int32))]) (rest := [(.ref s1)]) (g := (mkF m 70 #[.val (.int i0), .val (.int i1), .val (.int (3 : Int32)), .val (.int (3 : Int32)), .val (.ref s1), .unset] [(.int (3 : Int32)), (.ref s1)])) rfl (by rw [hml]; rfl) (ps := [.int]) (r := (some (.object "java/lang/Integer"))) (by decide +kernel) rfl rfl (W := 1) (by show 2 * 0 + _ ≤ _; exact Nat.le_of_eq rfl) (hb hby at_70) (by decide) (by decide) (by decide) (by decide)
      have N129 := Fr.app N128 (Fr.nil n0)
      refine own_go st129 ?_
      show own_G p e below _ T129 (mkF m 73 #[.val (.int i0), .val (.int i1), .val (.int (3 : Int32)), .val (.int (3 : Int32)), .val (.ref s1), .unset] [(.ref r3), (.ref s1)])
      obtain ⟨T130, L130, v130, X130, ⟨rfl, Nq130, Kq130, Sq130⟩, st130⟩ := own_callV X129 hx hH (y := (⟨"com/example/halyard/halyard/engine/OperandStack", "push", "(Ljava/lang/Object;)V"⟩ : MethodName)) (z := (⟨"com/example/halyard/halyard/engine/OperandStack", "push", "(Ljava/lang/Object;)V"⟩ : MethodName)) hown (hw _ (List.mem_of_getElem? (i := 21) rfl)) (hw _ (List.mem_of_getElem? (i := 22) rfl)) (hw _ (List.mem_of_getElem? (i := 24) rfl)) (hw _ (List.mem_of_getElem? (i := 24) rfl)) (hw _ (List.mem_of_getElem? (i := 23) rfl)) (hw _ (List.mem_of_getElem? (i := 25) rfl)) (hw _ (List.mem_of_getElem? (i := 3) rfl)) (notFace_of_selects (args := #[]) (mvT hZ (hw _ (List.mem_of_getElem? (i := 24) rfl)))) (by decide) (c_push_3A l Z a0 hw s1 ar r3 (.ref r0) (.ref r1) (.ref r2) .null T128.heap n0 (Nat.le_trans Z0 x128.1) Sq128 (own_ST_sto Sq128 (Ins.of_exa (E_3.ext x128) (hw _ (List.mem_of_getElem? (i := 28) rfl)))) g1 g2) q129 Sq128.1 (argsL := [(.ref r3)]) (rest := []) (g := (mkF m 73 #[.val (.int i0), .val (.int i1), .val (.int (3 : Int32)), .val (.int (3 : Int32)), .val (.ref s1), .unset] [(.ref r3), (.ref s1)])) rfl (by rw [hml]; rfl) (ps := [(.object "java/lang/Object")]) (r := none) (by decide +kernel) rfl rfl (W := 0) (by show 2 * 0 + _ ≤ _; exact Nat.le_of_eq rfl) (hb hby at_73) (by decide) (by decide) (by decide) (by decide)
      have x130 := own_ext_keep x128 Kq130 (allS js (allS ja all0))
      have N130 := Fr.app N129 Nq130
      refine own_go st130 ?_
      show own_G p e below _ T130 (mkF m 76 #[.val (.int i0), .val (.int i1), .val (.int (3 : Int32)), .val (.int (3 : Int32)), .val (.ref s1), .unset] [])
      refine own_go (fun t k => XS.aload X130.here hx rfl (hb hby at_76) rfl rfl k) ?_
      show own_G p e below _ T130 (mkF m 78 #[.val (.int i0), .val (.int i1), .val (.int (3 : Int32)), .val (.int (3 : Int32)), .val (.ref s1), .unset] [(.ref s1)])
      refine own_go (fun t k => XS.iloadN X130.here hx rfl (hb hby at_78) rfl k) ?_
      show own_G p e below _ T130 (mkF m 79 #[.val (.int i0), .val (.int i1), .val (.int (3 : Int32)), .val (.int (3 : Int32)), .val (.ref s1), .unset] [(.int (3 : Int32)), (.ref s1)])
      obtain ⟨T131, L131, v131, X131, ⟨rfl, Nq131, Kq131, Sq131⟩, st131⟩ := own_callV X130 hx hH (y := (⟨"com/example/halyard/halyard/engine/OperandStack", "drop", "(I)V"⟩ : MethodName)) (z := (⟨"com/example/halyard/halyard/engine/OperandStack", "drop", "(I)V"⟩ : MethodName)) hown (hw _ (List.mem_of_getElem? (i := 29) rfl)) (hw _ (List.mem_of_getElem? (i := 30) rfl)) (hw _ (List.mem_of_getElem? (i := 32) rfl)) (hw _ (List.mem_of_getElem? (i := 32) rfl)) (hw _ (List.mem_of_getElem? (i := 31) rfl)) (hw _ (List.mem_of_getElem? (i := 33) rfl)) (hw _ (List.mem_of_getElem? (i := 3) rfl)) (notFace_of_selects (args := #[]) (mvT hZ (hw _ (List.mem_of_getElem? (i := 32) rfl)))) (by decide) (c_drop_4_3 l Z a0 hw s1 ar (.ref r0) (.ref r1) (.ref r2) (.ref r3) T130.heap n0 (Nat.le_trans Z0 x130.1) Sq130 g1 g2) rfl Sq130.1 (argsL := [(.int (3 : Int32))]) (rest := []) (g := (mkF m 79 #[.val (.int i0), .val (.int i1), .val (.int (3 : Int32)), .val (.int (3 : Int32)), .val (.ref s1), .unset] [(.int (3 : Int32)), (.ref s1)])) rfl (by rw [hml]; rfl) (ps := [.int]) (r := none) (by decide +kernel) rfl rfl (W := 0) (by show 2 * 0 + _ ≤ _; exact Nat.le_of_eq rfl) (hb hby at_79) (by decide) (by decide) (by decide) (by decide)
      have x131 := own_ext_keep x130 Kq131 (allS js (allS ja all0))
      have N131 := Fr.app N130 Nq131
      refine own_go st131 ?_
      show own_G p e below _ T131 (mkF m 82 #[.val (.int i0), .val (.int i1), .val (.int (3 : Int32)), .val (.int (3 : Int32)), .val (.ref s1), .unset] [])
      refine own_go (fun t k => XS.iloadN X131.here hx rfl (hb hby at_82) rfl k) ?_
      show own_G p e below _ T131 (mkF m 83 #[.val (.int i0), .val (.int i1), .val (.int (3 : Int32)), .val (.int (3 : Int32)), .val (.ref s1), .unset] [(.int (3 : Int32))])
      refine own_go (fun t k => XS.iloadN X131.here hx rfl (hb hby at_83) rfl k) ?_
      show own_G p e below _ T131 (mkF m 84 #[.val (.int i0), .val (.int i1), .val (.int (3 : Int32)), .val (.int (3 : Int32)), .val (.ref s1), .unset] [(.int (3 : Int32)), (.int (3 : Int32))])
      refine own_go (fun t k => XS.isub X131.here hx rfl (hb hby at_84) rfl k) ?_
      show own_G p e below _ T131 (mkF m 85 #[.val (.int i0), .val (.int i1), .val (.int (3 : Int32)), .val (.int (3 : Int32)), .val (.ref s1), .unset] [(.int (0 : Int32))])
      refine own_go (fun t k => XS.istore X131.here hx rfl (hb hby at_85) rfl (l' := #[.val (.int i0), .val (.int i1), .val (.int (3 : Int32)), .val (.int (3 : Int32)), .val (.ref s1), .val (.int (0 : Int32))]) rfl k) ?_
      show own_G p e below _ T131 (mkF m 87 #[.val (.int i0), .val (.int i1), .val (.int (3 : Int32)), .val (.int (3 : Int32)), .val (.ref s1), .val (.int (0 : Int32))] [])
      refine own_go (fun t k => XS.aload X131.here hx rfl (hb hby at_87) rfl rfl k) ?_
      show own_G p e below _ T131 (mkF m 89 #[.val (.int i0), .val (.int i1), .val (.int (3 : Int32)), .val (.int (3 : Int32)), .val (.ref s1), .val (.int (0 : Int32))] [(.ref s1)])
      refine own_go (fun t k => XS.iconst X131.here hx rfl (hb hby at_89) k) ?_
      show own_G p e below _ T131 (mkF m 90 #[.val (.int i0), .val (.int i1), .val (.int (3 : Int32)), .val (.int (3 : Int32)), .val (.ref s1), .val (.int (0 : Int32))] [(.int (0 : Int32)), (.ref s1)])
      refine own_go (fun t k => XS.iloadN X131.here hx rfl (hb hby at_90) rfl k) ?_
      show own_G p e below _ T131 (mkF m 91 #[.val (.int i0), .val (.int i1), .val (.int (3 : Int32)), .val (.int (3 : Int32)), .val (.ref s1), .val (.int (0 : Int32))] [(.int (3 : Int32)), (.int (0 : Int32)), (.ref s1)])
      refine own_go (fun t k => XS.iload X131.here hx rfl (hb hby at_91) rfl k) ?_
      show own_G p e below _ T131 (mkF m 93 #[.val (.int i0), .val (.int i1), .val (.int (3 : Int32)), .val (.int (3 : Int32)), .val (.ref s1), .val (.int (0 : Int32))] [(.int (0 : Int32)), (.int (3 : Int32)), (.int (0 : Int32)), (.ref s1)])
      obtain ⟨T132, L132, v132, X132, ⟨rfl, rfl, q132⟩, st132⟩ := own_callS X131 hx hH (y := (⟨"com/example/halyard/halyard/engine/OperandStackDropPinLaw", "slot", "(Lcom/example/halyard/halyard/engine/OperandStack;III)Z"⟩ : MethodName)) hown (hw _ (List.mem_of_getElem? (i := 34) rfl)) (hw _ (List.mem_of_getElem? (i := 35) rfl)) (hw _ (List.mem_of_getElem? (i := 36) rfl)) (hw _ (List.mem_of_getElem? (i := 37) rfl)) (by decide) (c_slot_b0 l Z a0 hw s1 (3 : Int32) (0 : Int32) ar r0 .null .null .null T131.heap (by decide) (by decide) Sq131 (E_0.ext x131) (F_0.ext x131)) rfl (argsL := [(.ref s1), (.int (0 : Int32)), (.int (3 : Int32)), (.int (0 : Int32))]) (rest := []) (g := (mkF m 93 #[.val (.int i0), .val (.int i1), .val (.int (3 : Int32)), .val (.int (3 : Int32)), .val (.ref s1), .val (.int (0 : Int32))] [(.int (0 : Int32)), (.int (3 : Int32)), (.int (0 : Int32)), (.ref s1)])) rfl (by rw [hml]; rfl) (ps := [(.object "com/example/halyard/halyard/engine/OperandStack"), .int, .int, .int]) (r := (some .boolean)) (by decide +kernel) rfl rfl (W := 0) (by show 2 * 0 + _ ≤ _; exact Nat.le_of_eq rfl) (hb hby at_93) (by decide) (by decide) (by decide) (by decide)
      have x132 := own_ext_trans x131 q132
      have S132 := own_ST_ext q132 Sq131
      have N132 := Fr.app N131 (Fr.nil n0)
      refine own_go st132 ?_
      show own_G p e below _ T132 (mkF m 96 #[.val (.int i0), .val (.int i1), .val (.int (3 : Int32)), .val (.int (3 : Int32)), .val (.ref s1), .val (.int (0 : Int32))] [(.int (1 : Int32))])
      refine own_go (fun t k => XS.ifNo X132.here hx rfl (hb hby at_96) rfl (by decide) k) ?_
      show own_G p e below _ T132 (mkF m 99 #[.val (.int i0), .val (.int i1), .val (.int (3 : Int32)), .val (.int (3 : Int32)), .val (.ref s1), .val (.int (0 : Int32))] [])
      refine own_go (fun t k => XS.aload X132.here hx rfl (hb hby at_99) rfl rfl k) ?_
      show own_G p e below _ T132 (mkF m 101 #[.val (.int i0), .val (.int i1), .val (.int (3 : Int32)), .val (.int (3 : Int32)), .val (.ref s1), .val (.int (0 : Int32))] [(.ref s1)])
      refine own_go (fun t k => XS.iconst X132.here hx rfl (hb hby at_101) k) ?_
      show own_G p e below _ T132 (mkF m 102 #[.val (.int i0), .val (.int i1), .val (.int (3 : Int32)), .val (.int (3 : Int32)), .val (.ref s1), .val (.int (0 : Int32))] [(.int (1 : Int32)), (.ref s1)])
      refine own_go (fun t k => XS.iloadN X132.here hx rfl (hb hby at_102) rfl k) ?_
      show own_G p e below _ T132 (mkF m 103 #[.val (.int i0), .val (.int i1), .val (.int (3 : Int32)), .val (.int (3 : Int32)), .val (.ref s1), .val (.int (0 : Int32))] [(.int (3 : Int32)), (.int (1 : Int32)), (.ref s1)])
      refine own_go (fun t k => XS.iload X132.here hx rfl (hb hby at_103) rfl k) ?_
      show own_G p e below _ T132 (mkF m 105 #[.val (.int i0), .val (.int i1), .val (.int (3 : Int32)), .val (.int (3 : Int32)), .val (.ref s1), .val (.int (0 : Int32))] [(.int (0 : Int32)), (.int (3 : Int32)), (.int (1 : Int32)), (.ref s1)])
      obtain ⟨T133, L133, v133, X133, ⟨rfl, rfl, q133⟩, st133⟩ := own_callS X132 hx hH (y := (⟨"com/example/halyard/halyard/engine/OperandStackDropPinLaw", "slot", "(Lcom/example/halyard/halyard/engine/OperandStack;III)Z"⟩ : MethodName)) hown (hw _ (List.mem_of_getElem? (i := 34) rfl)) (hw _ (List.mem_of_getElem? (i := 35) rfl)) (hw _ (List.mem_of_getElem? (i := 36) rfl)) (hw _ (List.mem_of_getElem? (i := 37) rfl)) (by decide) (c_slot_c1 l Z a0 hw s1 (3 : Int32) (0 : Int32) ar (.ref r0) .null .null T132.heap (by decide) (by decide) S132) rfl (argsL := [(.ref s1), (.int (1 : Int32)), (.int (3 : Int32)), (.int (0 : Int32))]) (rest := []) (g := (mkF m 105 #[.val (.int i0), .val (.int i1), .val (.int (3 : Int32)), .val (.int (3 : Int32)), .val (.ref s1), .val (.int (0 : Int32))] [(.int (0 : Int32)), (.int (3 : Int32)), (.int (1 : Int32)), (.ref s1)])) rfl (by rw [hml]; rfl) (ps := [(.object "com/example/halyard/halyard/engine/OperandStack"), .int, .int, .int]) (r := (some .boolean)) (by decide +kernel) rfl rfl (W := 0) (by show 2 * 0 + _ ≤ _; exact Nat.le_of_eq rfl) (hb hby at_105) (by decide) (by decide) (by decide) (by decide)
      have x133 := own_ext_trans x132 q133
      have S133 := own_ST_ext q133 S132
      have N133 := Fr.app N132 (Fr.nil n0)
      refine own_go st133 ?_
      show own_G p e below _ T133 (mkF m 108 #[.val (.int i0), .val (.int i1), .val (.int (3 : Int32)), .val (.int (3 : Int32)), .val (.ref s1), .val (.int (0 : Int32))] [(.int (1 : Int32))])
      refine own_go (fun t k => XS.ifNo X133.here hx rfl (hb hby at_108) rfl (by decide) k) ?_
      show own_G p e below _ T133 (mkF m 111 #[.val (.int i0), .val (.int i1), .val (.int (3 : Int32)), .val (.int (3 : Int32)), .val (.ref s1), .val (.int (0 : Int32))] [])
      refine own_go (fun t k => XS.aload X133.here hx rfl (hb hby at_111) rfl rfl k) ?_
      show own_G p e below _ T133 (mkF m 113 #[.val (.int i0), .val (.int i1), .val (.int (3 : Int32)), .val (.int (3 : Int32)), .val (.ref s1), .val (.int (0 : Int32))] [(.ref s1)])
      refine own_go (fun t k => XS.iconst X133.here hx rfl (hb hby at_113) k) ?_
      show own_G p e below _ T133 (mkF m 114 #[.val (.int i0), .val (.int i1), .val (.int (3 : Int32)), .val (.int (3 : Int32)), .val (.ref s1), .val (.int (0 : Int32))] [(.int (2 : Int32)), (.ref s1)])
      refine own_go (fun t k => XS.iloadN X133.here hx rfl (hb hby at_114) rfl k) ?_
      show own_G p e below _ T133 (mkF m 115 #[.val (.int i0), .val (.int i1), .val (.int (3 : Int32)), .val (.int (3 : Int32)), .val (.ref s1), .val (.int (0 : Int32))] [(.int (3 : Int32)), (.int (2 : Int32)), (.ref s1)])
      refine own_go (fun t k => XS.iload X133.here hx rfl (hb hby at_115) rfl k) ?_
      show own_G p e below _ T133 (mkF m 117 #[.val (.int i0), .val (.int i1), .val (.int (3 : Int32)), .val (.int (3 : Int32)), .val (.ref s1), .val (.int (0 : Int32))] [(.int (0 : Int32)), (.int (3 : Int32)), (.int (2 : Int32)), (.ref s1)])
      obtain ⟨T134, L134, v134, X134, ⟨rfl, rfl, q134⟩, st134⟩ := own_callS X133 hx hH (y := (⟨"com/example/halyard/halyard/engine/OperandStackDropPinLaw", "slot", "(Lcom/example/halyard/halyard/engine/OperandStack;III)Z"⟩ : MethodName)) hown (hw _ (List.mem_of_getElem? (i := 34) rfl)) (hw _ (List.mem_of_getElem? (i := 35) rfl)) (hw _ (List.mem_of_getElem? (i := 36) rfl)) (hw _ (List.mem_of_getElem? (i := 37) rfl)) (by decide) (c_slot_c2 l Z a0 hw s1 (3 : Int32) (0 : Int32) ar (.ref r0) .null .null T133.heap (by decide) (by decide) S133) rfl (argsL := [(.ref s1), (.int (2 : Int32)), (.int (3 : Int32)), (.int (0 : Int32))]) (rest := []) (g := (mkF m 117 #[.val (.int i0), .val (.int i1), .val (.int (3 : Int32)), .val (.int (3 : Int32)), .val (.ref s1), .val (.int (0 : Int32))] [(.int (0 : Int32)), (.int (3 : Int32)), (.int (2 : Int32)), (.ref s1)])) rfl (by rw [hml]; rfl) (ps := [(.object "com/example/halyard/halyard/engine/OperandStack"), .int, .int, .int]) (r := (some .boolean)) (by decide +kernel) rfl rfl (W := 0) (by show 2 * 0 + _ ≤ _; exact Nat.le_of_eq rfl) (hb hby at_117) (by decide) (by decide) (by decide) (by decide)
      have x134 := own_ext_trans x133 q134
      have S134 := own_ST_ext q134 S133
      have N134 := Fr.app N133 (Fr.nil n0)
      refine own_go st134 ?_
      show own_G p e below _ T134 (mkF m 120 #[.val (.int i0), .val (.int i1), .val (.int (3 : Int32)), .val (.int (3 : Int32)), .val (.ref s1), .val (.int (0 : Int32))] [(.int (1 : Int32))])
      refine own_go (fun t k => XS.ifNo X134.here hx rfl (hb hby at_120) rfl (by decide) k) ?_
      show own_G p e below _ T134 (mkF m 123 #[.val (.int i0), .val (.int i1), .val (.int (3 : Int32)), .val (.int (3 : Int32)), .val (.ref s1), .val (.int (0 : Int32))] [])
      refine own_go (fun t k => XS.aload X134.here hx rfl (hb hby at_123) rfl rfl k) ?_
      show own_G p e below _ T134 (mkF m 125 #[.val (.int i0), .val (.int i1), .val (.int (3 : Int32)), .val (.int (3 : Int32)), .val (.ref s1), .val (.int (0 : Int32))] [(.ref s1)])
      refine own_go (fun t k => XS.iconst X134.here hx rfl (hb hby at_125) k) ?_
      show own_G p e below _ T134 (mkF m 126 #[.val (.int i0), .val (.int i1), .val (.int (3 : Int32)), .val (.int (3 : Int32)), .val (.ref s1), .val (.int (0 : Int32))] [(.int (3 : Int32)), (.ref s1)])
      refine own_go (fun t k => XS.iloadN X134.here hx rfl (hb hby at_126) rfl k) ?_
      show own_G p e below _ T134 (mkF m 127 #[.val (.int i0), .val (.int i1), .val (.int (3 : Int32)), .val (.int (3 : Int32)), .val (.ref s1), .val (.int (0 : Int32))] [(.int (3 : Int32)), (.int (3 : Int32)), (.ref s1)])
      refine own_go (fun t k => XS.iload X134.here hx rfl (hb hby at_127) rfl k) ?_
      show own_G p e below _ T134 (mkF m 129 #[.val (.int i0), .val (.int i1), .val (.int (3 : Int32)), .val (.int (3 : Int32)), .val (.ref s1), .val (.int (0 : Int32))] [(.int (0 : Int32)), (.int (3 : Int32)), (.int (3 : Int32)), (.ref s1)])
      obtain ⟨T135, L135, v135, X135, ⟨rfl, rfl, q135⟩, st135⟩ := own_callS X134 hx hH (y := (⟨"com/example/halyard/halyard/engine/OperandStackDropPinLaw", "slot", "(Lcom/example/halyard/halyard/engine/OperandStack;III)Z"⟩ : MethodName)) hown (hw _ (List.mem_of_getElem? (i := 34) rfl)) (hw _ (List.mem_of_getElem? (i := 35) rfl)) (hw _ (List.mem_of_getElem? (i := 36) rfl)) (hw _ (List.mem_of_getElem? (i := 37) rfl)) (by decide) (c_slot_c3 l Z a0 hw s1 (3 : Int32) (0 : Int32) ar (.ref r0) .null .null T134.heap (by decide) (by decide) S134) rfl (argsL := [(.ref s1), (.int (3 : Int32)), (.int (3 : Int32)), (.int (0 : Int32))]) (rest := []) (g := (mkF m 129 #[.val (.int i0), .val (.int i1), .val (.int (3 : Int32)), .val (.int (3 : Int32)), .val (.ref s1), .val (.int (0 : Int32))] [(.int (0 : Int32)), (.int (3 : Int32)), (.int (3 : Int32)), (.ref s1)])) rfl (by rw [hml]; rfl) (ps := [(.object "com/example/halyard/halyard/engine/OperandStack"), .int, .int, .int]) (r := (some .boolean)) (by decide +kernel) rfl rfl (W := 0) (by show 2 * 0 + _ ≤ _; exact Nat.le_of_eq rfl) (hb hby at_129) (by decide) (by decide) (by decide) (by decide)
      have x135 := own_ext_trans x134 q135
      have S135 := own_ST_ext q135 S134
      have N135 := Fr.app N134 (Fr.nil n0)
      refine own_go st135 ?_
      show own_G p e below _ T135 (mkF m 132 #[.val (.int i0), .val (.int i1), .val (.int (3 : Int32)), .val (.int (3 : Int32)), .val (.ref s1), .val (.int (0 : Int32))] [(.int (1 : Int32))])
      refine own_go (fun t k => XS.ifNo X135.here hx rfl (hb hby at_132) rfl (by decide) k) ?_
      show own_G p e below _ T135 (mkF m 135 #[.val (.int i0), .val (.int i1), .val (.int (3 : Int32)), .val (.int (3 : Int32)), .val (.ref s1), .val (.int (0 : Int32))] [])
      refine own_go (fun t k => XS.iconst X135.here hx rfl (hb hby at_135) k) ?_
      show own_G p e below _ T135 (mkF m 136 #[.val (.int i0), .val (.int i1), .val (.int (3 : Int32)), .val (.int (3 : Int32)), .val (.ref s1), .val (.int (0 : Int32))] [(.int (1 : Int32))])
      refine own_go (fun t k => XS.goto X135.here hx rfl (pc0 := 136) (pc' := 140) rfl (hb hby at_136) (by decide) (by decide) k) ?_
      show own_G p e below _ T135 (mkF m 140 #[.val (.int i0), .val (.int i1), .val (.int (3 : Int32)), .val (.int (3 : Int32)), .val (.ref s1), .val (.int (0 : Int32))] [(.int (1 : Int32))])
      exact own_retN X135 hx hlk hret (by simp) (hb hby at_140) (by decide) (by decide) ⟨rfl, N135⟩
set_option maxRecDepth 65536 in
set_option maxHeartbeats 40000000 in
theorem comes_1 {Post : Tables → Env → Array Value → State → Outcome → State → Prop} (hpost : ∀ tb e args s v u, (limb_1_1.after args s (.returned v) u = true ∧ limb_1_2.after args s (.returned v) u = true ∧ True) → FrameEnd s (.returned v) u (Jvm.fieldLocs frame_1_writes args s ++ Jvm.arrayLocs frame_1_arrays args s ++ Jvm.staticLocs frame_1_statics s) 24 256 → Post tb e args s (.returned v) u) :
    ArmFor flags0 classFile x code maxLocals ret World_1 tables_1 room_1 Calls_1 rest_1 Pre_1 Post := by
  intro l hfl _ _ p e ha hc hk s m args below hf hA hF happ hP
  obtain ⟨hcalls, hrest, hpre⟩ := hP
  obtain ⟨-, -, -, hnamed, -, -, -, hat⟩ := (Spec.applies_iff hf).mp happ
  obtain ⟨hg, hn⟩ := and_e (Cond.before_iff.mp (show (Jvm.Cond.and given_1 narrow_1).before args s = true from hpre))
  obtain ⟨h1, hg⟩ := and_e hg
  obtain ⟨w0, w1, rfl⟩ : ∃ w0 w1 : Value, args = #[w0, w1] := by
    have hs : args.size = 2 := by simpa [Cond.value, given_1] using h1
    obtain ⟨L⟩ := args
    match L, hs with
    | [w0, w1], _ => exact ⟨w0, w1, rfl⟩
  obtain ⟨hi0, hg⟩ := and_e hg
  obtain ⟨i0, ei0⟩ := is_v hi0
  obtain rfl : w0 = (.int i0) := Option.some.inj ei0
  obtain ⟨i1, ei1⟩ := is_v hg
  obtain rfl : w1 = (.int i1) := Option.some.inj ei1
  have hw := fun d (hd : d ∈ tables_1) => atoms_spec (ws := Jvm.Cond.code x code maxLocals ret :: tables_1) hat d (List.mem_cons_of_mem _ hd)
  obtain ⟨hsets, hown0⟩ := atoms_of _ (rest_1_c_eq ▸ (show rest_1_c.before _ s = true from hrest))
  have q_h := Jvm.Cond.before_iff.mp (hsets _ (List.mem_of_getElem? (i := 3) rfl))
  obtain ⟨x_h, y_h, e_h1, e_h2, k_h1, k_h2⟩ := cmp_v (Or.inl q_h)
  obtain rfl : y_h = .int 127 := (Option.some.inj e_h2).symm
  obtain ⟨z_h, rfl⟩ := k_h2
  have z_h1 := gotT (Jvm.Cond.eq_ints e_h1 e_h2) q_h
  rw [z_h1] at e_h1
  have S_h := Sta.start e_h1 (Or.inl (hsets _ (List.mem_of_getElem? (i := 1) rfl)))
  have q_a := Jvm.Cond.before_iff.mp (hsets _ (List.mem_of_getElem? (i := 4) rfl))
  obtain ⟨ac, v_c⟩ := arr_v q_a
  have S_c := Sta.start v_c (Or.inr ⟨(hw _ (List.mem_of_getElem? (i := 19) rfl)), (hsets _ (List.mem_of_getElem? (i := 2) rfl))⟩)
  obtain ⟨clc, A_c⟩ := Arr.start v_c q_a
  have Z_c : clc.slots.size = 256 := own_len v_c A_c (Jvm.Cond.before_iff.mp (hsets _ (List.mem_of_getElem? (i := 6) rfl)))
  have H_c := own_cache (ac := ac) (cl := clc) v_c A_c Z_c (Jvm.Cond.before_iff.mp (hsets _ (List.mem_of_getElem? (i := 7) rfl)))
  obtain ⟨r0, V_0, E_0, F_0⟩ := H_c 128 (by decide)
  obtain ⟨r1, V_1, E_1, F_1⟩ := H_c 129 (by decide)
  obtain ⟨r2, V_2, E_2, F_2⟩ := H_c 130 (by decide)
  obtain ⟨r3, V_3, E_3, F_3⟩ := H_c 131 (by decide)
  have B : own_B s s.heap ac r0 r1 r2 r3 clc := ⟨S_h, S_c, A_c, Z_c, V_0, E_0, F_0, V_1, E_1, F_1, V_2, E_2, F_2, V_3, E_3, F_3⟩
  obtain ⟨n, o, h1, h2, h3, _, L, rfl, ⟨rfl, N⟩, hq⟩ := rm0 l s _ hw i0 i1 ac r0 r1 r2 r3 clc s.heap s.heap.size (Nat.le_refl _) B tables_1 p e ha hc hk s m _ below hf ((Spec.applies_iff_loose hf).mp happ).1 ⟨rfl, State.WarmedH.refl s, rfl⟩ trivial
  refine ⟨n, _, h1, h2, h3, hpost _ _ _ _ _ _ ⟨Jvm.Cond.after_iff.mpr rfl, Jvm.Cond.after_iff.mpr (eq_i res_at (Term.int_eval (1)) rfl), trivial⟩ ⟨hq.1, hq.2.1, (hq.2.2.sift fun y hy => Or.inr (N y hy)).mono (by decide) (by decide)⟩⟩
theorem main_1_1 : Claimed_1_1 := comes_1 fun _ _ _ _ _ _ h hF => ⟨h.1, wide hF⟩
theorem main_1_2 : Claimed_1_2 := comes_1 fun _ _ _ _ _ _ h hF => ⟨h.2.1, wide hF⟩
end Jvm.Pilot.@@N@@
namespace Jvm.Pilot.@@N@@
open Jvm Jvm.ClassFile Sem Op Lib Jvm.Free Jvm.Stand Jvm.Pilot.@@N@@.Jvm.D
/-! MADE BY PROGRAM (witnessworld.py) out of the Statement's table words and the real class files: 19 classes; the members and pool entries that the words name. The judged class is class 1, her method 1. -/
namespace start1
open Jvm.ClassFile
def u (s : String) : CpInfo := .utf8 (stringToUtf16 s)
/-- a pool by its gaps: so many unusable entries, then the entry; so many at the end -/
def gap : Nat → List CpInfo → List CpInfo
  | 0, r => r
  | n + 1, r => .unusable :: gap n r
def poolList (es : List (Nat × CpInfo)) (last : Nat) : List CpInfo := es.foldr (fun e r => gap e.1 (e.2 :: r)) (gap last [])
def pool (es : List (Nat × CpInfo)) (last : Nat) : Array CpInfo := ⟨poolList es last⟩
def fileOf (pool : Array CpInfo) (this : Nat) (attrs : Array Attribute := #[]) (ms : Array MethodInfo := #[]) (fl : Nat := 33) (sup : Nat := 0) (ifs : Array Nat := #[]) (fds : Array FieldInfo := #[]) : ClassFile where
  minorVersion := 0
  majorVersion := 65
  constantPool := pool
  accessFlags := fl
  thisClass := this
  superClass := sup
  interfaces := ifs
  fields := fds
  methods := ms
  attributes := attrs
def plain (name : String) (sup : Option ClassId) : Class where
  name := name
  kind := .ordinary
  loader := none
  accessFlags := 33
  super := sup
  interfaces := #[]
  cf := none
  fields := #[]
  methods := #[]
  instanceTypes := #[]
  staticTypes := #[]
  resolved := #[]
  callSites := []
  init := .initialized
  statics := none
  mirror := none

def pool0 : Array CpInfo := pool [(5, u "<init>"), (0, u "()V"), (1, .class_ 10), (1, u "java/lang/Object")] 113

def k0c0 : Code := { maxStack := 0, maxLocals := 1, code := object_method_1_code, exceptionTable := #[], attributes := #[] }
def k0m0 : Method := { name := "<init>", desc := "()V", sig := { parameters := [], returnType := none }, accessFlags := 1, code := some k0c0 }
/-- java/lang/Object -/
def k0 : Class := { plain "java/lang/Object" none with
  accessFlags := 33
  interfaces := #[]
  cf := some (fileOf pool0 8 #[] #[{ accessFlags := 1, nameIndex := 5, descriptorIndex := 6, attributes := #[] }] 33 0 #[] #[])
  fields := #[]
  methods := #[k0m0]
  instanceTypes := #[]
  staticTypes := #[]
  resolved := Array.replicate 124 none
  statics := none }

def pool1 : Array CpInfo := pool [(2, .class_ 4), (0, .nameAndType 5 6), (0, u "java/lang/Object"), (0, u "<init>"), (0, u "()V"), (0, .integer 2147483647), (0, .class_ 9), (0, u "com/example/halyard/halyard/engine/OperandStack"), (0, .methodref 8 3), (0, .methodref 12 13), (0, .class_ 14), (0, .nameAndType 15 16), (0, u "java/lang/Integer"), (0, u "valueOf"), (0, u "(I)Ljava/lang/Integer;"), (0, .methodref 8 18), (0, .nameAndType 19 20), (0, u "push"), (0, u "(Ljava/lang/Object;)V"), (0, .methodref 8 22), (0, .nameAndType 23 24), (0, u "drop"), (0, u "(I)V"), (0, .methodref 26 27), (0, .class_ 28), (0, .nameAndType 29 30), (0, u "com/example/halyard/halyard/engine/OperandStackDropPinLaw"), (0, u "slot"), (0, u "(Lcom/example/halyard/halyard/engine/OperandStack;III)Z"), (0, .methodref 8 32), (0, .nameAndType 33 34), (0, u "operand"), (0, u "(II)Lcom/example/halyard/halyard/engine/Code;"), (0, .interfaceMethodref 36 37), (0, .class_ 38), (0, .nameAndType 39 40), (0, u "com/example/halyard/halyard/engine/Code"), (0, u "run"), (0, u "(Lcom/example/halyard/halyard/engine/Frame;)Ljava/lang/Object;"), (0, .methodref 12 42), (0, .nameAndType 43 44), (0, u "intValue"), (0, u "()I"), (2, u "law"), (0, u "(II)Z")] 6

def k1m0 : Method := { name := "<init>", desc := "()V", sig := { parameters := [], returnType := none }, accessFlags := 1, code := none }
def k1c1 : Code := { maxStack := 4, maxLocals := 6, code := code, exceptionTable := #[], attributes := #[] }
def k1m1 : Method := { name := "law", desc := "(II)Z", sig := { parameters := [.int, .int], returnType := some .boolean }, accessFlags := 9, code := some k1c1 }
def k1c2 : Code := { maxStack := 4, maxLocals := 5, code := method_3_code, exceptionTable := #[], attributes := #[] }
def k1m2 : Method := { name := "slot", desc := "(Lcom/example/halyard/halyard/engine/OperandStack;III)Z", sig := { parameters := [(.object "com/example/halyard/halyard/engine/OperandStack"), .int, .int, .int], returnType := some .boolean }, accessFlags := 10, code := some k1c2 }
/-- com/example/halyard/halyard/engine/OperandStackDropPinLaw -/
def k1 : Class := { plain "com/example/halyard/halyard/engine/OperandStackDropPinLaw" (some 0) with
  accessFlags := 49
  interfaces := #[]
  cf := some (fileOf pool1 26 #[] #[{ accessFlags := 1, nameIndex := 5, descriptorIndex := 6, attributes := #[] }, { accessFlags := 9, nameIndex := 47, descriptorIndex := 48, attributes := #[] }, { accessFlags := 10, nameIndex := 29, descriptorIndex := 30, attributes := #[] }] 49 2 #[] #[])
  fields := #[]
  methods := #[k1m0, k1m1, k1m2]
  instanceTypes := #[]
  staticTypes := #[]
  resolved := Array.replicate 55 none
  statics := none }

def pool2 : Array CpInfo := pool [(1, .methodref 2 3), (0, .class_ 4), (0, .nameAndType 5 6), (0, u "java/lang/Object"), (0, u "<init>"), (0, u "()V"), (0, .fieldref 8 9), (0, .class_ 10), (0, .nameAndType 11 12), (0, u "com/example/halyard/halyard/engine/OperandStack"), (0, u "values"), (0, u "[Ljava/lang/Object;"), (0, .fieldref 8 14), (0, .nameAndType 15 16), (0, u "size"), (0, u "I"), (8, u "drop"), (0, u "(I)V"), (0, .invokeDynamic 0 28), (0, .nameAndType 29 30), (0, u "run"), (0, u "(Lcom/example/halyard/halyard/engine/OperandStack;II)Lcom/example/halyard/halyard/engine/Code;"), (2, u "push"), (0, u "(Ljava/lang/Object;)V"), (3, u "operand"), (0, u "(II)Lcom/example/halyard/halyard/engine/Code;"), (0, u "lambda$operand$0"), (0, u "(IILcom/example/halyard/halyard/engine/Frame;)Ljava/lang/Object;"), (8, .methodType 51), (0, u "(Lcom/example/halyard/halyard/engine/Frame;)Ljava/lang/Object;"), (0, .methodHandle 5 53), (0, .methodref 8 54), (0, .nameAndType 40 41), (0, .methodHandle 6 56), (0, .methodref 57 58), (0, .class_ 59), (0, .nameAndType 60 61), (0, u "java/lang/invoke/LambdaMetafactory"), (0, u "metafactory"), (0, u "(Ljava/lang/invoke/MethodHandles$Lookup;Ljava/lang/String;Ljava/lang/invoke/MethodType;Ljava/lang/invoke/MethodType;Ljava/lang/invoke/MethodHandle;Ljava/lang/invoke/MethodType;)Ljava/lang/invoke/CallSite;")] 6

def k2c0 : Code := { maxStack := 2, maxLocals := 1, code := prog_114_method_1_code, exceptionTable := #[], attributes := #[] }
def k2m0 : Method := { name := "<init>", desc := "()V", sig := { parameters := [], returnType := none }, accessFlags := 0, code := some k2c0 }
def k2c1 : Code := { maxStack := 5, maxLocals := 2, code := prog_114_method_2_code, exceptionTable := #[], attributes := #[] }
def k2m1 : Method := { name := "push", desc := "(Ljava/lang/Object;)V", sig := { parameters := [(.object "java/lang/Object")], returnType := none }, accessFlags := 0, code := some k2c1 }
def k2c2 : Code := { maxStack := 4, maxLocals := 3, code := prog_114_method_4_code, exceptionTable := #[], attributes := #[] }
def k2m2 : Method := { name := "drop", desc := "(I)V", sig := { parameters := [.int], returnType := none }, accessFlags := 0, code := some k2c2 }
def k2c3 : Code := { maxStack := 3, maxLocals := 3, code := prog_114_method_5_code, exceptionTable := #[], attributes := #[] }
def k2m3 : Method := { name := "operand", desc := "(II)Lcom/example/halyard/halyard/engine/Code;", sig := { parameters := [.int, .int], returnType := some (.object "com/example/halyard/halyard/engine/Code") }, accessFlags := 0, code := some k2c3 }
def k2c4 : Code := { maxStack := 3, maxLocals := 4, code := prog_114_method_6_code, exceptionTable := #[], attributes := #[] }
def k2m4 : Method := { name := "lambda$operand$0", desc := "(IILcom/example/halyard/halyard/engine/Frame;)Ljava/lang/Object;", sig := { parameters := [.int, .int, (.object "com/example/halyard/halyard/engine/Frame")], returnType := some (.object "java/lang/Object") }, accessFlags := 4098, code := some k2c4 }
/-- com/example/halyard/halyard/engine/OperandStack -/
def k2 : Class := { plain "com/example/halyard/halyard/engine/OperandStack" (some 0) with
  accessFlags := 48
  interfaces := #[]
  cf := some (fileOf pool2 8 #[.bootstrapMethods #[⟨55, #[50, 52, 50]⟩]] #[{ accessFlags := 0, nameIndex := 5, descriptorIndex := 6, attributes := #[] }, { accessFlags := 0, nameIndex := 33, descriptorIndex := 34, attributes := #[] }, { accessFlags := 0, nameIndex := 25, descriptorIndex := 26, attributes := #[] }, { accessFlags := 0, nameIndex := 38, descriptorIndex := 39, attributes := #[] }, { accessFlags := 4098, nameIndex := 40, descriptorIndex := 41, attributes := #[] }] 48 2 #[] #[{ accessFlags := 2, nameIndex := 11, descriptorIndex := 12, attributes := #[] }, { accessFlags := 2, nameIndex := 15, descriptorIndex := 16, attributes := #[] }])
  fields := #[{ name := "values", type := (.array (.object "java/lang/Object")), accessFlags := 2, slot := 0, constantValue := 0 }, { name := "size", type := .int, accessFlags := 2, slot := 1, constantValue := 0 }]
  methods := #[k2m0, k2m1, k2m2, k2m3, k2m4]
  instanceTypes := #[(.array (.object "java/lang/Object")), .int]
  staticTypes := #[]
  resolved := Array.replicate 68 none
  callSites := [(3, 3, .makes 18)]
  statics := none }

def pool3 : Array CpInfo := pool [(1, .class_ 2), (0, u "java/io/Serializable"), (0, .class_ 4), (0, u "java/lang/Object")] 2

/-- java/io/Serializable -/
def k3 : Class := { plain "java/io/Serializable" (some 0) with
  accessFlags := 1537
  interfaces := #[]
  cf := some (fileOf pool3 1 #[] #[] 1537 3 #[] #[])
  fields := #[]
  methods := #[]
  instanceTypes := #[]
  staticTypes := #[]
  resolved := Array.replicate 7 none
  statics := none }

def pool4 : Array CpInfo := pool [(2, .class_ 4), (1, u "java/lang/Object"), (0, u "<init>"), (0, u "()V"), (1, .class_ 10), (1, u "java/lang/Number"), (2, .class_ 14), (0, u "java/io/Serializable"), (0, u "serialVersionUID"), (0, u "J")] 20

def k4m0 : Method := { name := "<init>", desc := "()V", sig := { parameters := [], returnType := none }, accessFlags := 1, code := none }
/-- java/lang/Number -/
def k4 : Class := { plain "java/lang/Number" (some 0) with
  accessFlags := 1057
  interfaces := #[3]
  cf := some (fileOf pool4 8 #[] #[{ accessFlags := 1, nameIndex := 5, descriptorIndex := 6, attributes := #[] }] 1057 2 #[13] #[{ accessFlags := 26, nameIndex := 15, descriptorIndex := 16, attributes := #[] }])
  fields := #[{ name := "serialVersionUID", type := .long, accessFlags := 26, slot := 0, constantValue := 0 }]
  methods := #[k4m0]
  instanceTypes := #[]
  staticTypes := #[.long]
  resolved := Array.replicate 37 none
  statics := none }

def pool5 : Array CpInfo := pool [(1, .class_ 2), (0, u "java/lang/Comparable"), (0, .class_ 4), (0, u "java/lang/Object")] 7

/-- java/lang/Comparable -/
def k5 : Class := { plain "java/lang/Comparable" (some 0) with
  accessFlags := 1537
  interfaces := #[]
  cf := some (fileOf pool5 1 #[] #[] 1537 3 #[] #[])
  fields := #[]
  methods := #[]
  instanceTypes := #[]
  staticTypes := #[]
  resolved := Array.replicate 12 none
  statics := none }

def pool6 : Array CpInfo := pool [(1, .class_ 2), (0, u "java/lang/constant/Constable"), (0, .class_ 4), (0, u "java/lang/Object")] 6

/-- java/lang/constant/Constable -/
def k6 : Class := { plain "java/lang/constant/Constable" (some 0) with
  accessFlags := 1537
  interfaces := #[]
  cf := some (fileOf pool6 1 #[] #[] 1537 3 #[] #[])
  fields := #[]
  methods := #[]
  instanceTypes := #[]
  staticTypes := #[]
  resolved := Array.replicate 11 none
  statics := none }

def pool7 : Array CpInfo := pool [(1, .class_ 2), (0, u "java/lang/constant/ConstantDesc"), (0, .class_ 4), (0, u "java/lang/Object")] 32

/-- java/lang/constant/ConstantDesc -/
def k7 : Class := { plain "java/lang/constant/ConstantDesc" (some 0) with
  accessFlags := 1537
  interfaces := #[]
  cf := some (fileOf pool7 1 #[] #[] 1537 3 #[] #[])
  fields := #[]
  methods := #[]
  instanceTypes := #[]
  staticTypes := #[]
  resolved := Array.replicate 37 none
  statics := none }

def pool8 : Array CpInfo := pool [(1, .class_ 2), (0, u "java/lang/Integer"), (16, u "digits"), (0, u "[C"), (64, u "DigitOnes"), (0, u "[B"), (2, u "DigitTens"), (31, u "()I"), (65, u "valueOf"), (0, u "(I)Ljava/lang/Integer;"), (0, .class_ 190), (0, u "java/lang/Integer$IntegerCache"), (0, .fieldref 189 192), (0, .nameAndType 193 194), (0, u "high"), (0, u "I"), (0, .fieldref 189 196), (0, .nameAndType 197 198), (0, u "cache"), (0, u "[Ljava/lang/Integer;"), (4, .class_ 204), (0, u "java/lang/Number"), (0, .fieldref 1 206), (0, .nameAndType 207 194), (0, u "value"), (5, u "intValue"), (88, u "TYPE"), (0, u "Ljava/lang/Class;"), (0, .class_ 305), (0, u "java/lang/Comparable"), (0, .class_ 307), (0, u "java/lang/constant/Constable"), (0, .class_ 309), (0, u "java/lang/constant/ConstantDesc"), (0, u "MIN_VALUE"), (1, u "MAX_VALUE"), (3, u "SIZE"), (1, u "BYTES"), (1, u "serialVersionUID"), (0, u "J")] 131

def k8c0 : Code := { maxStack := 3, maxLocals := 1, code := jdk_33_method_22_code, exceptionTable := #[], attributes := #[] }
def k8m0 : Method := { name := "valueOf", desc := "(I)Ljava/lang/Integer;", sig := { parameters := [.int], returnType := some (.object "java/lang/Integer") }, accessFlags := 9, code := some k8c0 }
def k8c1 : Code := { maxStack := 1, maxLocals := 1, code := jdk_33_method_27_code, exceptionTable := #[], attributes := #[] }
def k8m1 : Method := { name := "intValue", desc := "()I", sig := { parameters := [], returnType := some .int }, accessFlags := 1, code := some k8c1 }
/-- java/lang/Integer -/
def k8 : Class := { plain "java/lang/Integer" (some 4) with
  accessFlags := 49
  interfaces := #[5, 6, 7]
  cf := some (fileOf pool8 1 #[.nestMembers #[189]] #[{ accessFlags := 9, nameIndex := 187, descriptorIndex := 188, attributes := #[] }, { accessFlags := 1, nameIndex := 213, descriptorIndex := 121, attributes := #[] }] 49 203 #[304, 306, 308] #[{ accessFlags := 25, nameIndex := 310, descriptorIndex := 194, attributes := #[] }, { accessFlags := 25, nameIndex := 312, descriptorIndex := 194, attributes := #[] }, { accessFlags := 25, nameIndex := 302, descriptorIndex := 303, attributes := #[] }, { accessFlags := 24, nameIndex := 19, descriptorIndex := 20, attributes := #[] }, { accessFlags := 24, nameIndex := 89, descriptorIndex := 86, attributes := #[] }, { accessFlags := 24, nameIndex := 85, descriptorIndex := 86, attributes := #[] }, { accessFlags := 18, nameIndex := 207, descriptorIndex := 194, attributes := #[] }, { accessFlags := 25, nameIndex := 316, descriptorIndex := 194, attributes := #[] }, { accessFlags := 25, nameIndex := 318, descriptorIndex := 194, attributes := #[] }, { accessFlags := 26, nameIndex := 320, descriptorIndex := 321, attributes := #[] }])
  fields := #[{ name := "MIN_VALUE", type := .int, accessFlags := 25, slot := 0, constantValue := 0 }, { name := "MAX_VALUE", type := .int, accessFlags := 25, slot := 1, constantValue := 0 }, { name := "TYPE", type := (.object "java/lang/Class"), accessFlags := 25, slot := 2, constantValue := 0 }, { name := "digits", type := (.array .char), accessFlags := 24, slot := 3, constantValue := 0 }, { name := "DigitTens", type := (.array .byte), accessFlags := 24, slot := 4, constantValue := 0 }, { name := "DigitOnes", type := (.array .byte), accessFlags := 24, slot := 5, constantValue := 0 }, { name := "value", type := .int, accessFlags := 18, slot := 0, constantValue := 0 }, { name := "SIZE", type := .int, accessFlags := 25, slot := 6, constantValue := 0 }, { name := "BYTES", type := .int, accessFlags := 25, slot := 7, constantValue := 0 }, { name := "serialVersionUID", type := .long, accessFlags := 26, slot := 8, constantValue := 0 }]
  methods := #[k8m0, k8m1]
  instanceTypes := #[.int]
  staticTypes := #[.int, .int, (.object "java/lang/Class"), (.array .char), (.array .byte), (.array .byte), .int, .int, .long]
  resolved := Array.replicate 453 none
  statics := none }

def pool9 : Array CpInfo := pool [(2, .class_ 4), (1, u "java/lang/Object"), (0, u "<init>"), (0, u "()V"), (0, .class_ 8), (0, u "java/lang/Integer"), (7, .class_ 18), (1, u "java/lang/Integer$IntegerCache"), (0, u "$assertionsDisabled"), (0, u "Z"), (26, u "high"), (0, u "I"), (8, u "archivedCache"), (0, u "[Ljava/lang/Integer;"), (12, u "cache"), (0, u "low")] 27

def k9m0 : Method := { name := "<init>", desc := "()V", sig := { parameters := [], returnType := none }, accessFlags := 2, code := none }
/-- java/lang/Integer$IntegerCache -/
def k9 : Class := { plain "java/lang/Integer$IntegerCache" (some 0) with
  accessFlags := 48
  interfaces := #[]
  cf := some (fileOf pool9 16 #[.nestHost 7] #[{ accessFlags := 2, nameIndex := 5, descriptorIndex := 6, attributes := #[] }] 48 2 #[] #[{ accessFlags := 24, nameIndex := 72, descriptorIndex := 48, attributes := #[] }, { accessFlags := 24, nameIndex := 47, descriptorIndex := 48, attributes := #[] }, { accessFlags := 24, nameIndex := 71, descriptorIndex := 58, attributes := #[] }, { accessFlags := 8, nameIndex := 57, descriptorIndex := 58, attributes := #[] }, { accessFlags := 4120, nameIndex := 19, descriptorIndex := 20, attributes := #[] }])
  fields := #[{ name := "low", type := .int, accessFlags := 24, slot := 0, constantValue := 0 }, { name := "high", type := .int, accessFlags := 24, slot := 1, constantValue := 0 }, { name := "cache", type := (.array (.object "java/lang/Integer")), accessFlags := 24, slot := 2, constantValue := 0 }, { name := "archivedCache", type := (.array (.object "java/lang/Integer")), accessFlags := 8, slot := 3, constantValue := 0 }, { name := "$assertionsDisabled", type := .boolean, accessFlags := 4120, slot := 4, constantValue := 0 }]
  methods := #[k9m0]
  instanceTypes := #[]
  staticTypes := #[.int, .int, (.array (.object "java/lang/Integer")), (.array (.object "java/lang/Integer")), .boolean]
  resolved := Array.replicate 100 none
  statics := some 0 }

def pool10 : Array CpInfo := pool [(1, .class_ 2), (0, u "com/example/halyard/halyard/engine/Code"), (0, .class_ 4), (0, u "java/lang/Object"), (0, u "run"), (0, u "(Lcom/example/halyard/halyard/engine/Frame;)Ljava/lang/Object;")] 9

def k10m0 : Method := { name := "run", desc := "(Lcom/example/halyard/halyard/engine/Frame;)Ljava/lang/Object;", sig := { parameters := [(.object "com/example/halyard/halyard/engine/Frame")], returnType := some (.object "java/lang/Object") }, accessFlags := 1025, code := none }
/-- com/example/halyard/halyard/engine/Code -/
def k10 : Class := { plain "com/example/halyard/halyard/engine/Code" (some 0) with
  accessFlags := 1536
  interfaces := #[]
  cf := some (fileOf pool10 1 #[] #[{ accessFlags := 1025, nameIndex := 5, descriptorIndex := 6, attributes := #[] }] 1536 3 #[] #[])
  fields := #[]
  methods := #[k10m0]
  instanceTypes := #[]
  staticTypes := #[]
  resolved := Array.replicate 16 none
  statics := none }

def pool11 : Array CpInfo := pool [(1, u "java/lang/Cloneable"), (0, .class_ 1), (0, u "java/lang/Object"), (0, .class_ 3)] 3

/-- java/lang/Cloneable -/
def k11 : Class := { plain "java/lang/Cloneable" (some 0) with
  accessFlags := 1537
  interfaces := #[]
  cf := some (fileOf pool11 2 #[] #[] 1537 4 #[] #[])
  fields := #[]
  methods := #[]
  instanceTypes := #[]
  staticTypes := #[]
  resolved := Array.replicate 8 none
  statics := none }

/-- the primitive byte -/
def k12 : Class := { plain "byte" none with kind := .primitive 'B', accessFlags := 0x411 }
/-- [B -/
def k13 : Class := { plain "[B" (some 0) with kind := .array 12 .byte, interfaces := #[11, 3], accessFlags := 1041 }

/-- the primitive int -/
def k14 : Class := { plain "int" none with kind := .primitive 'I', accessFlags := 0x411 }
/-- [I -/
def k15 : Class := { plain "[I" (some 0) with kind := .array 14 .int, interfaces := #[11, 3], accessFlags := 1041 }

/-- [Ljava/lang/Integer; -/
def k16 : Class := { plain "[Ljava/lang/Integer;" (some 0) with kind := .array 8 (.object "java/lang/Integer"), interfaces := #[11, 3], accessFlags := 1041 }

/-- [Ljava/lang/Object; -/
def k17 : Class := { plain "[Ljava/lang/Object;" (some 0) with kind := .array 0 (.object "java/lang/Object"), interfaces := #[11, 3], accessFlags := 1041 }

def classes0 : Array Class := #[k0, k1, k2, k3, k4, k5, k6, k7, k8, k9, k10, k11, k12, k13, k14, k15, k16, k17]
/-- the class that the rule has made for the site at 3 of com/example/halyard/halyard/engine/OperandStack.operand -/
def k18 : Class := Jvm.LamKit.madeRec { classes := classes0 } "com/example/halyard/halyard/engine/OperandStack" (Jvm.Lambda.Shape.mk "com/example/halyard/halyard/engine/Code" "run" (Jvm.ClassFile.MethodDescriptor.mk ([(Jvm.ClassFile.FieldType.object "com/example/halyard/halyard/engine/Frame")] : List Jvm.ClassFile.FieldType) (Option.some (Jvm.ClassFile.FieldType.object "java/lang/Object"))) ([(Jvm.ClassFile.FieldType.object "com/example/halyard/halyard/engine/OperandStack"), Jvm.ClassFile.FieldType.int, Jvm.ClassFile.FieldType.int] : List Jvm.ClassFile.FieldType) (5 : Nat) "com/example/halyard/halyard/engine/OperandStack" "lambda$operand$0" (Jvm.ClassFile.MethodDescriptor.mk ([Jvm.ClassFile.FieldType.int, Jvm.ClassFile.FieldType.int, (Jvm.ClassFile.FieldType.object "com/example/halyard/halyard/engine/Frame")] : List Jvm.ClassFile.FieldType) (Option.some (Jvm.ClassFile.FieldType.object "java/lang/Object"))) false (Jvm.ClassFile.MethodDescriptor.mk ([(Jvm.ClassFile.FieldType.object "com/example/halyard/halyard/engine/Frame")] : List Jvm.ClassFile.FieldType) (Option.some (Jvm.ClassFile.FieldType.object "java/lang/Object")))) 18

def heap : Heap := #[{ cls := 9, slots := #[.int 0, .int 127, .ref 1, .null, .int 0], vm := .statics 9 },
  { cls := 16, slots := #[.ref 2, .ref 3, .ref 4, .ref 5, .ref 6, .ref 7, .ref 8, .ref 9, .ref 10, .ref 11, .ref 12, .ref 13, .ref 14, .ref 15, .ref 16, .ref 17, .ref 18, .ref 19, .ref 20, .ref 21, .ref 22, .ref 23, .ref 24, .ref 25, .ref 26, .ref 27, .ref 28, .ref 29, .ref 30, .ref 31, .ref 32, .ref 33, .ref 34, .ref 35, .ref 36, .ref 37, .ref 38, .ref 39, .ref 40, .ref 41, .ref 42, .ref 43, .ref 44, .ref 45, .ref 46, .ref 47, .ref 48, .ref 49, .ref 50, .ref 51, .ref 52, .ref 53, .ref 54, .ref 55, .ref 56, .ref 57, .ref 58, .ref 59, .ref 60, .ref 61, .ref 62, .ref 63, .ref 64, .ref 65, .ref 66, .ref 67, .ref 68, .ref 69, .ref 70, .ref 71, .ref 72, .ref 73, .ref 74, .ref 75, .ref 76, .ref 77, .ref 78, .ref 79, .ref 80, .ref 81, .ref 82, .ref 83, .ref 84, .ref 85, .ref 86, .ref 87, .ref 88, .ref 89, .ref 90, .ref 91, .ref 92, .ref 93, .ref 94, .ref 95, .ref 96, .ref 97, .ref 98, .ref 99, .ref 100, .ref 101, .ref 102, .ref 103, .ref 104, .ref 105, .ref 106, .ref 107, .ref 108, .ref 109, .ref 110, .ref 111, .ref 112, .ref 113, .ref 114, .ref 115, .ref 116, .ref 117, .ref 118, .ref 119, .ref 120, .ref 121, .ref 122, .ref 123, .ref 124, .ref 125, .ref 126, .ref 127, .ref 128, .ref 129, .ref 130, .ref 131, .ref 132, .ref 133, .ref 134, .ref 135, .ref 136, .ref 137, .ref 138, .ref 139, .ref 140, .ref 141, .ref 142, .ref 143, .ref 144, .ref 145, .ref 146, .ref 147, .ref 148, .ref 149, .ref 150, .ref 151, .ref 152, .ref 153, .ref 154, .ref 155, .ref 156, .ref 157, .ref 158, .ref 159, .ref 160, .ref 161, .ref 162, .ref 163, .ref 164, .ref 165, .ref 166, .ref 167, .ref 168, .ref 169, .ref 170, .ref 171, .ref 172, .ref 173, .ref 174, .ref 175, .ref 176, .ref 177, .ref 178, .ref 179, .ref 180, .ref 181, .ref 182, .ref 183, .ref 184, .ref 185, .ref 186, .ref 187, .ref 188, .ref 189, .ref 190, .ref 191, .ref 192, .ref 193, .ref 194, .ref 195, .ref 196, .ref 197, .ref 198, .ref 199, .ref 200, .ref 201, .ref 202, .ref 203, .ref 204, .ref 205, .ref 206, .ref 207, .ref 208, .ref 209, .ref 210, .ref 211, .ref 212, .ref 213, .ref 214, .ref 215, .ref 216, .ref 217, .ref 218, .ref 219, .ref 220, .ref 221, .ref 222, .ref 223, .ref 224, .ref 225, .ref 226, .ref 227, .ref 228, .ref 229, .ref 230, .ref 231, .ref 232, .ref 233, .ref 234, .ref 235, .ref 236, .ref 237, .ref 238, .ref 239, .ref 240, .ref 241, .ref 242, .ref 243, .ref 244, .ref 245, .ref 246, .ref 247, .ref 248, .ref 249, .ref 250, .ref 251, .ref 252, .ref 253, .ref 254, .ref 255, .ref 256, .ref 257], vm := .none },
  { cls := 8, slots := #[.int (-128)], vm := .none },
  { cls := 8, slots := #[.int (-127)], vm := .none },
  { cls := 8, slots := #[.int (-126)], vm := .none },
  { cls := 8, slots := #[.int (-125)], vm := .none },
  { cls := 8, slots := #[.int (-124)], vm := .none },
  { cls := 8, slots := #[.int (-123)], vm := .none },
  { cls := 8, slots := #[.int (-122)], vm := .none },
  { cls := 8, slots := #[.int (-121)], vm := .none },
  { cls := 8, slots := #[.int (-120)], vm := .none },
  { cls := 8, slots := #[.int (-119)], vm := .none },
  { cls := 8, slots := #[.int (-118)], vm := .none },
  { cls := 8, slots := #[.int (-117)], vm := .none },
  { cls := 8, slots := #[.int (-116)], vm := .none },
  { cls := 8, slots := #[.int (-115)], vm := .none },
  { cls := 8, slots := #[.int (-114)], vm := .none },
  { cls := 8, slots := #[.int (-113)], vm := .none },
  { cls := 8, slots := #[.int (-112)], vm := .none },
  { cls := 8, slots := #[.int (-111)], vm := .none },
  { cls := 8, slots := #[.int (-110)], vm := .none },
  { cls := 8, slots := #[.int (-109)], vm := .none },
  { cls := 8, slots := #[.int (-108)], vm := .none },
  { cls := 8, slots := #[.int (-107)], vm := .none },
  { cls := 8, slots := #[.int (-106)], vm := .none },
  { cls := 8, slots := #[.int (-105)], vm := .none },
  { cls := 8, slots := #[.int (-104)], vm := .none },
  { cls := 8, slots := #[.int (-103)], vm := .none },
  { cls := 8, slots := #[.int (-102)], vm := .none },
  { cls := 8, slots := #[.int (-101)], vm := .none },
  { cls := 8, slots := #[.int (-100)], vm := .none },
  { cls := 8, slots := #[.int (-99)], vm := .none },
  { cls := 8, slots := #[.int (-98)], vm := .none },
  { cls := 8, slots := #[.int (-97)], vm := .none },
  { cls := 8, slots := #[.int (-96)], vm := .none },
  { cls := 8, slots := #[.int (-95)], vm := .none },
  { cls := 8, slots := #[.int (-94)], vm := .none },
  { cls := 8, slots := #[.int (-93)], vm := .none },
  { cls := 8, slots := #[.int (-92)], vm := .none },
  { cls := 8, slots := #[.int (-91)], vm := .none },
  { cls := 8, slots := #[.int (-90)], vm := .none },
  { cls := 8, slots := #[.int (-89)], vm := .none },
  { cls := 8, slots := #[.int (-88)], vm := .none },
  { cls := 8, slots := #[.int (-87)], vm := .none },
  { cls := 8, slots := #[.int (-86)], vm := .none },
  { cls := 8, slots := #[.int (-85)], vm := .none },
  { cls := 8, slots := #[.int (-84)], vm := .none },
  { cls := 8, slots := #[.int (-83)], vm := .none },
  { cls := 8, slots := #[.int (-82)], vm := .none },
  { cls := 8, slots := #[.int (-81)], vm := .none },
  { cls := 8, slots := #[.int (-80)], vm := .none },
  { cls := 8, slots := #[.int (-79)], vm := .none },
  { cls := 8, slots := #[.int (-78)], vm := .none },
  { cls := 8, slots := #[.int (-77)], vm := .none },
  { cls := 8, slots := #[.int (-76)], vm := .none },
  { cls := 8, slots := #[.int (-75)], vm := .none },
  { cls := 8, slots := #[.int (-74)], vm := .none },
  { cls := 8, slots := #[.int (-73)], vm := .none },
  { cls := 8, slots := #[.int (-72)], vm := .none },
  { cls := 8, slots := #[.int (-71)], vm := .none },
  { cls := 8, slots := #[.int (-70)], vm := .none },
  { cls := 8, slots := #[.int (-69)], vm := .none },
  { cls := 8, slots := #[.int (-68)], vm := .none },
  { cls := 8, slots := #[.int (-67)], vm := .none },
  { cls := 8, slots := #[.int (-66)], vm := .none },
  { cls := 8, slots := #[.int (-65)], vm := .none },
  { cls := 8, slots := #[.int (-64)], vm := .none },
  { cls := 8, slots := #[.int (-63)], vm := .none },
  { cls := 8, slots := #[.int (-62)], vm := .none },
  { cls := 8, slots := #[.int (-61)], vm := .none },
  { cls := 8, slots := #[.int (-60)], vm := .none },
  { cls := 8, slots := #[.int (-59)], vm := .none },
  { cls := 8, slots := #[.int (-58)], vm := .none },
  { cls := 8, slots := #[.int (-57)], vm := .none },
  { cls := 8, slots := #[.int (-56)], vm := .none },
  { cls := 8, slots := #[.int (-55)], vm := .none },
  { cls := 8, slots := #[.int (-54)], vm := .none },
  { cls := 8, slots := #[.int (-53)], vm := .none },
  { cls := 8, slots := #[.int (-52)], vm := .none },
  { cls := 8, slots := #[.int (-51)], vm := .none },
  { cls := 8, slots := #[.int (-50)], vm := .none },
  { cls := 8, slots := #[.int (-49)], vm := .none },
  { cls := 8, slots := #[.int (-48)], vm := .none },
  { cls := 8, slots := #[.int (-47)], vm := .none },
  { cls := 8, slots := #[.int (-46)], vm := .none },
  { cls := 8, slots := #[.int (-45)], vm := .none },
  { cls := 8, slots := #[.int (-44)], vm := .none },
  { cls := 8, slots := #[.int (-43)], vm := .none },
  { cls := 8, slots := #[.int (-42)], vm := .none },
  { cls := 8, slots := #[.int (-41)], vm := .none },
  { cls := 8, slots := #[.int (-40)], vm := .none },
  { cls := 8, slots := #[.int (-39)], vm := .none },
  { cls := 8, slots := #[.int (-38)], vm := .none },
  { cls := 8, slots := #[.int (-37)], vm := .none },
  { cls := 8, slots := #[.int (-36)], vm := .none },
  { cls := 8, slots := #[.int (-35)], vm := .none },
  { cls := 8, slots := #[.int (-34)], vm := .none },
  { cls := 8, slots := #[.int (-33)], vm := .none },
  { cls := 8, slots := #[.int (-32)], vm := .none },
  { cls := 8, slots := #[.int (-31)], vm := .none },
  { cls := 8, slots := #[.int (-30)], vm := .none },
  { cls := 8, slots := #[.int (-29)], vm := .none },
  { cls := 8, slots := #[.int (-28)], vm := .none },
  { cls := 8, slots := #[.int (-27)], vm := .none },
  { cls := 8, slots := #[.int (-26)], vm := .none },
  { cls := 8, slots := #[.int (-25)], vm := .none },
  { cls := 8, slots := #[.int (-24)], vm := .none },
  { cls := 8, slots := #[.int (-23)], vm := .none },
  { cls := 8, slots := #[.int (-22)], vm := .none },
  { cls := 8, slots := #[.int (-21)], vm := .none },
  { cls := 8, slots := #[.int (-20)], vm := .none },
  { cls := 8, slots := #[.int (-19)], vm := .none },
  { cls := 8, slots := #[.int (-18)], vm := .none },
  { cls := 8, slots := #[.int (-17)], vm := .none },
  { cls := 8, slots := #[.int (-16)], vm := .none },
  { cls := 8, slots := #[.int (-15)], vm := .none },
  { cls := 8, slots := #[.int (-14)], vm := .none },
  { cls := 8, slots := #[.int (-13)], vm := .none },
  { cls := 8, slots := #[.int (-12)], vm := .none },
  { cls := 8, slots := #[.int (-11)], vm := .none },
  { cls := 8, slots := #[.int (-10)], vm := .none },
  { cls := 8, slots := #[.int (-9)], vm := .none },
  { cls := 8, slots := #[.int (-8)], vm := .none },
  { cls := 8, slots := #[.int (-7)], vm := .none },
  { cls := 8, slots := #[.int (-6)], vm := .none },
  { cls := 8, slots := #[.int (-5)], vm := .none },
  { cls := 8, slots := #[.int (-4)], vm := .none },
  { cls := 8, slots := #[.int (-3)], vm := .none },
  { cls := 8, slots := #[.int (-2)], vm := .none },
  { cls := 8, slots := #[.int (-1)], vm := .none },
  { cls := 8, slots := #[.int 0], vm := .none },
  { cls := 8, slots := #[.int 1], vm := .none },
  { cls := 8, slots := #[.int 2], vm := .none },
  { cls := 8, slots := #[.int 3], vm := .none },
  { cls := 8, slots := #[.int 4], vm := .none },
  { cls := 8, slots := #[.int 5], vm := .none },
  { cls := 8, slots := #[.int 6], vm := .none },
  { cls := 8, slots := #[.int 7], vm := .none },
  { cls := 8, slots := #[.int 8], vm := .none },
  { cls := 8, slots := #[.int 9], vm := .none },
  { cls := 8, slots := #[.int 10], vm := .none },
  { cls := 8, slots := #[.int 11], vm := .none },
  { cls := 8, slots := #[.int 12], vm := .none },
  { cls := 8, slots := #[.int 13], vm := .none },
  { cls := 8, slots := #[.int 14], vm := .none },
  { cls := 8, slots := #[.int 15], vm := .none },
  { cls := 8, slots := #[.int 16], vm := .none },
  { cls := 8, slots := #[.int 17], vm := .none },
  { cls := 8, slots := #[.int 18], vm := .none },
  { cls := 8, slots := #[.int 19], vm := .none },
  { cls := 8, slots := #[.int 20], vm := .none },
  { cls := 8, slots := #[.int 21], vm := .none },
  { cls := 8, slots := #[.int 22], vm := .none },
  { cls := 8, slots := #[.int 23], vm := .none },
  { cls := 8, slots := #[.int 24], vm := .none },
  { cls := 8, slots := #[.int 25], vm := .none },
  { cls := 8, slots := #[.int 26], vm := .none },
  { cls := 8, slots := #[.int 27], vm := .none },
  { cls := 8, slots := #[.int 28], vm := .none },
  { cls := 8, slots := #[.int 29], vm := .none },
  { cls := 8, slots := #[.int 30], vm := .none },
  { cls := 8, slots := #[.int 31], vm := .none },
  { cls := 8, slots := #[.int 32], vm := .none },
  { cls := 8, slots := #[.int 33], vm := .none },
  { cls := 8, slots := #[.int 34], vm := .none },
  { cls := 8, slots := #[.int 35], vm := .none },
  { cls := 8, slots := #[.int 36], vm := .none },
  { cls := 8, slots := #[.int 37], vm := .none },
  { cls := 8, slots := #[.int 38], vm := .none },
  { cls := 8, slots := #[.int 39], vm := .none },
  { cls := 8, slots := #[.int 40], vm := .none },
  { cls := 8, slots := #[.int 41], vm := .none },
  { cls := 8, slots := #[.int 42], vm := .none },
  { cls := 8, slots := #[.int 43], vm := .none },
  { cls := 8, slots := #[.int 44], vm := .none },
  { cls := 8, slots := #[.int 45], vm := .none },
  { cls := 8, slots := #[.int 46], vm := .none },
  { cls := 8, slots := #[.int 47], vm := .none },
  { cls := 8, slots := #[.int 48], vm := .none },
  { cls := 8, slots := #[.int 49], vm := .none },
  { cls := 8, slots := #[.int 50], vm := .none },
  { cls := 8, slots := #[.int 51], vm := .none },
  { cls := 8, slots := #[.int 52], vm := .none },
  { cls := 8, slots := #[.int 53], vm := .none },
  { cls := 8, slots := #[.int 54], vm := .none },
  { cls := 8, slots := #[.int 55], vm := .none },
  { cls := 8, slots := #[.int 56], vm := .none },
  { cls := 8, slots := #[.int 57], vm := .none },
  { cls := 8, slots := #[.int 58], vm := .none },
  { cls := 8, slots := #[.int 59], vm := .none },
  { cls := 8, slots := #[.int 60], vm := .none },
  { cls := 8, slots := #[.int 61], vm := .none },
  { cls := 8, slots := #[.int 62], vm := .none },
  { cls := 8, slots := #[.int 63], vm := .none },
  { cls := 8, slots := #[.int 64], vm := .none },
  { cls := 8, slots := #[.int 65], vm := .none },
  { cls := 8, slots := #[.int 66], vm := .none },
  { cls := 8, slots := #[.int 67], vm := .none },
  { cls := 8, slots := #[.int 68], vm := .none },
  { cls := 8, slots := #[.int 69], vm := .none },
  { cls := 8, slots := #[.int 70], vm := .none },
  { cls := 8, slots := #[.int 71], vm := .none },
  { cls := 8, slots := #[.int 72], vm := .none },
  { cls := 8, slots := #[.int 73], vm := .none },
  { cls := 8, slots := #[.int 74], vm := .none },
  { cls := 8, slots := #[.int 75], vm := .none },
  { cls := 8, slots := #[.int 76], vm := .none },
  { cls := 8, slots := #[.int 77], vm := .none },
  { cls := 8, slots := #[.int 78], vm := .none },
  { cls := 8, slots := #[.int 79], vm := .none },
  { cls := 8, slots := #[.int 80], vm := .none },
  { cls := 8, slots := #[.int 81], vm := .none },
  { cls := 8, slots := #[.int 82], vm := .none },
  { cls := 8, slots := #[.int 83], vm := .none },
  { cls := 8, slots := #[.int 84], vm := .none },
  { cls := 8, slots := #[.int 85], vm := .none },
  { cls := 8, slots := #[.int 86], vm := .none },
  { cls := 8, slots := #[.int 87], vm := .none },
  { cls := 8, slots := #[.int 88], vm := .none },
  { cls := 8, slots := #[.int 89], vm := .none },
  { cls := 8, slots := #[.int 90], vm := .none },
  { cls := 8, slots := #[.int 91], vm := .none },
  { cls := 8, slots := #[.int 92], vm := .none },
  { cls := 8, slots := #[.int 93], vm := .none },
  { cls := 8, slots := #[.int 94], vm := .none },
  { cls := 8, slots := #[.int 95], vm := .none },
  { cls := 8, slots := #[.int 96], vm := .none },
  { cls := 8, slots := #[.int 97], vm := .none },
  { cls := 8, slots := #[.int 98], vm := .none },
  { cls := 8, slots := #[.int 99], vm := .none },
  { cls := 8, slots := #[.int 100], vm := .none },
  { cls := 8, slots := #[.int 101], vm := .none },
  { cls := 8, slots := #[.int 102], vm := .none },
  { cls := 8, slots := #[.int 103], vm := .none },
  { cls := 8, slots := #[.int 104], vm := .none },
  { cls := 8, slots := #[.int 105], vm := .none },
  { cls := 8, slots := #[.int 106], vm := .none },
  { cls := 8, slots := #[.int 107], vm := .none },
  { cls := 8, slots := #[.int 108], vm := .none },
  { cls := 8, slots := #[.int 109], vm := .none },
  { cls := 8, slots := #[.int 110], vm := .none },
  { cls := 8, slots := #[.int 111], vm := .none },
  { cls := 8, slots := #[.int 112], vm := .none },
  { cls := 8, slots := #[.int 113], vm := .none },
  { cls := 8, slots := #[.int 114], vm := .none },
  { cls := 8, slots := #[.int 115], vm := .none },
  { cls := 8, slots := #[.int 116], vm := .none },
  { cls := 8, slots := #[.int 117], vm := .none },
  { cls := 8, slots := #[.int 118], vm := .none },
  { cls := 8, slots := #[.int 119], vm := .none },
  { cls := 8, slots := #[.int 120], vm := .none },
  { cls := 8, slots := #[.int 121], vm := .none },
  { cls := 8, slots := #[.int 122], vm := .none },
  { cls := 8, slots := #[.int 123], vm := .none },
  { cls := 8, slots := #[.int 124], vm := .none },
  { cls := 8, slots := #[.int 125], vm := .none },
  { cls := 8, slots := #[.int 126], vm := .none },
  { cls := 8, slots := #[.int 127], vm := .none }]
def classes : Array Class := #[k0, k1, k2, k3, k4, k5, k6, k7, k8, k9, k10, k11, k12, k13, k14, k15, k16, k17, k18]
def interned : List (Array UInt16 × Addr) := []
def slotsUsed : Nat := 517
def theMethod : MethodId := ⟨1, 1⟩
def args0 : Array Value := #[.int 2, .int 1]
def aboutOver (below : List Frame) : State where
  vm := { classes := classes, interned := interned.toArray }
  heap := heap
  slotsUsed := slotsUsed
  threads := #[{ frames := .invoking theMethod args0 :: below }]
def below0 : List Frame := [.native { method := ⟨0, 0⟩, args := #[] }]
def about1 : State := aboutOver below0
def p0 : Program := .bare "" "" ""
def e0 : Env := launch0.env 0 0 0
theorem w_frames : about1.frames = Frame.invoking theMethod args0 :: below0 := rfl
set_option maxRecDepth 65536 in
theorem w_args : argsFit about1.vm theMethod args0 = true := by decide +kernel
set_option maxRecDepth 65536 in
theorem w_heap : heapFits about1 = true := by decide +kernel
set_option maxRecDepth 65536 in
theorem w_runnable : about1.curStatus? = some .runnable := by decide +kernel
set_option maxRecDepth 65536 in
theorem w_alone : about1.alone = true := by decide +kernel
set_option maxRecDepth 65536 in
theorem w_named : about1.methodNamed? x = some theMethod := by decide +kernel
set_option maxRecDepth 65536 in
theorem w_hears : about1.hears theMethod below0 = true := by decide +kernel
set_option maxRecDepth 65536 in
theorem w_ripe : about1.ripe theMethod args0 below0 = true := by decide +kernel
theorem w_running : about1.status = .running := rfl
set_option maxRecDepth 65536 in
theorem w_room : about1.hasRoom e0.platform room_1 = true :=
  launch0.hasRoom_least _ room_1 (by decide +kernel) (by decide +kernel) (by decide +kernel) (by decide +kernel) (by decide +kernel) (by decide +kernel)
theorem allAtoms_all (ts : List Jvm.Cond) (a : Array Jvm.Value) (st : Jvm.State) : (allAtoms ts).before a st = ts.all (fun c => c.before a st) := by
  induction ts with
  | nil => rfl
  | cons c t ih =>
    show (Jvm.Cond.and c (allAtoms t)).before a st = _
    rw [Jvm.Cond.before_and, ih, List.all_cons]
def words1 : List Jvm.Cond := Jvm.Cond.code x code maxLocals ret :: tables_1
/-- a 'code' word, met by the world's own term for the bytes: nothing is compared byte by byte -/
theorem code_word {y : MethodName} {bytes : ByteArray} {mx : Nat} {rt : Option FieldType} {a : Array Value} {s : State} {m : MethodId} {meth : Method} {c : Code} (h1 : s.methodNamed? y = some m) (h2 : s.vm.method? m = some meth) (h3 : meth.code = some c) (h4 : c.code = bytes)
    (h5 : (c.maxLocals == mx && c.exceptionTable.isEmpty && decide (c.maxStack ≤ mostOperands) && decide (meth.sig.returnType = rt) && !meth.locks && decide (parseMethodDescriptor y.desc = some meth.sig)) = true) : (Jvm.Cond.code y bytes mx rt).before a s = true := by
  simp only [Bool.and_eq_true, beq_iff_eq, Bool.not_eq_true', decide_eq_true_eq] at h5
  obtain ⟨⟨⟨⟨⟨g1, g2⟩, g3⟩, g4⟩, g5⟩, g6⟩ := h5
  simp [Cond.before, Cond.holds, Cond.value, h1, h2, h3, h4, g1, g2, g3, g4, g5, g6]
def isCode : Jvm.Cond → Bool
  | .code _ _ _ _ => true
  | _ => false
theorem all_split {L : List Jvm.Cond} {P : Jvm.Cond → Bool} (h1 : L.all (fun c => isCode c || P c) = true) (h2 : ∀ c ∈ L.filter isCode, P c = true) : L.all P = true := by
  refine List.all_eq_true.mpr fun c hc => ?_
  have h := List.all_eq_true.mp h1 c hc
  rcases Bool.eq_false_or_eq_true (isCode c) with hi | hi
  · exact h2 c (List.mem_filter.mpr ⟨hc, hi⟩)
  · simpa [hi] using h
set_option maxRecDepth 65536 in
theorem w_c0 : (Jvm.Cond.code x code maxLocals ret).before args0 about1 = true := code_word (m := ⟨1, 1⟩) (meth := k1m1) (c := k1c1) (by decide +kernel) rfl rfl rfl (by decide +kernel)
set_option maxRecDepth 65536 in
theorem w_c1 : (Jvm.Cond.code ({ cls := "com/example/halyard/halyard/engine/OperandStack", name := "<init>", desc := "()V" } : Jvm.MethodName) prog_114_method_1_code (1 : Nat) (Option.none : Option Jvm.ClassFile.FieldType)).before args0 about1 = true := code_word (m := ⟨2, 0⟩) (meth := k2m0) (c := k2c0) (by decide +kernel) rfl rfl rfl (by decide +kernel)
set_option maxRecDepth 65536 in
theorem w_c2 : (Jvm.Cond.code ({ cls := "java/lang/Object", name := "<init>", desc := "()V" } : Jvm.MethodName) object_method_1_code (1 : Nat) (Option.none : Option Jvm.ClassFile.FieldType)).before args0 about1 = true := code_word (m := ⟨0, 0⟩) (meth := k0m0) (c := k0c0) (by decide +kernel) rfl rfl rfl (by decide +kernel)
set_option maxRecDepth 65536 in
theorem w_c3 : (Jvm.Cond.code ({ cls := "java/lang/Integer", name := "valueOf", desc := "(I)Ljava/lang/Integer;" } : Jvm.MethodName) jdk_33_method_22_code (1 : Nat) (Option.some (Jvm.ClassFile.FieldType.object "java/lang/Integer"))).before args0 about1 = true := code_word (m := ⟨8, 0⟩) (meth := k8m0) (c := k8c0) (by decide +kernel) rfl rfl rfl (by decide +kernel)
set_option maxRecDepth 65536 in
theorem w_c4 : (Jvm.Cond.code ({ cls := "com/example/halyard/halyard/engine/OperandStack", name := "push", desc := "(Ljava/lang/Object;)V" } : Jvm.MethodName) prog_114_method_2_code (2 : Nat) (Option.none : Option Jvm.ClassFile.FieldType)).before args0 about1 = true := code_word (m := ⟨2, 1⟩) (meth := k2m1) (c := k2c1) (by decide +kernel) rfl rfl rfl (by decide +kernel)
set_option maxRecDepth 65536 in
theorem w_c5 : (Jvm.Cond.code ({ cls := "com/example/halyard/halyard/engine/OperandStack", name := "drop", desc := "(I)V" } : Jvm.MethodName) prog_114_method_4_code (3 : Nat) (Option.none : Option Jvm.ClassFile.FieldType)).before args0 about1 = true := code_word (m := ⟨2, 2⟩) (meth := k2m2) (c := k2c2) (by decide +kernel) rfl rfl rfl (by decide +kernel)
set_option maxRecDepth 65536 in
theorem w_c6 : (Jvm.Cond.code ({ cls := "com/example/halyard/halyard/engine/OperandStackDropPinLaw", name := "slot", desc := "(Lcom/example/halyard/halyard/engine/OperandStack;III)Z" } : Jvm.MethodName) method_3_code (5 : Nat) (Option.some Jvm.ClassFile.FieldType.boolean)).before args0 about1 = true := code_word (m := ⟨1, 2⟩) (meth := k1m2) (c := k1c2) (by decide +kernel) rfl rfl rfl (by decide +kernel)
set_option maxRecDepth 65536 in
theorem w_c7 : (Jvm.Cond.code ({ cls := "com/example/halyard/halyard/engine/OperandStack", name := "operand", desc := "(II)Lcom/example/halyard/halyard/engine/Code;" } : Jvm.MethodName) prog_114_method_5_code (3 : Nat) (Option.some (Jvm.ClassFile.FieldType.object "com/example/halyard/halyard/engine/Code"))).before args0 about1 = true := code_word (m := ⟨2, 3⟩) (meth := k2m3) (c := k2c3) (by decide +kernel) rfl rfl rfl (by decide +kernel)
set_option maxRecDepth 65536 in
theorem w_c8 : (Jvm.Cond.code ({ cls := "com/example/halyard/halyard/engine/OperandStack", name := "lambda$operand$0", desc := "(IILcom/example/halyard/halyard/engine/Frame;)Ljava/lang/Object;" } : Jvm.MethodName) prog_114_method_6_code (4 : Nat) (Option.some (Jvm.ClassFile.FieldType.object "java/lang/Object"))).before args0 about1 = true := code_word (m := ⟨2, 4⟩) (meth := k2m4) (c := k2c4) (by decide +kernel) rfl rfl rfl (by decide +kernel)
set_option maxRecDepth 65536 in
theorem w_c9 : (Jvm.Cond.code ({ cls := "java/lang/Integer", name := "intValue", desc := "()I" } : Jvm.MethodName) jdk_33_method_27_code (1 : Nat) (Option.some Jvm.ClassFile.FieldType.int)).before args0 about1 = true := code_word (m := ⟨8, 1⟩) (meth := k8m1) (c := k8c1) (by decide +kernel) rfl rfl rfl (by decide +kernel)
def codes1 : List Jvm.Cond := [Jvm.Cond.code x code maxLocals ret, Jvm.Cond.code ({ cls := "com/example/halyard/halyard/engine/OperandStack", name := "<init>", desc := "()V" } : Jvm.MethodName) prog_114_method_1_code (1 : Nat) (Option.none : Option Jvm.ClassFile.FieldType), Jvm.Cond.code ({ cls := "java/lang/Object", name := "<init>", desc := "()V" } : Jvm.MethodName) object_method_1_code (1 : Nat) (Option.none : Option Jvm.ClassFile.FieldType), Jvm.Cond.code ({ cls := "java/lang/Integer", name := "valueOf", desc := "(I)Ljava/lang/Integer;" } : Jvm.MethodName) jdk_33_method_22_code (1 : Nat) (Option.some (Jvm.ClassFile.FieldType.object "java/lang/Integer")), Jvm.Cond.code ({ cls := "com/example/halyard/halyard/engine/OperandStack", name := "push", desc := "(Ljava/lang/Object;)V" } : Jvm.MethodName) prog_114_method_2_code (2 : Nat) (Option.none : Option Jvm.ClassFile.FieldType), Jvm.Cond.code ({ cls := "com/example/halyard/halyard/engine/OperandStack", name := "drop", desc := "(I)V" } : Jvm.MethodName) prog_114_method_4_code (3 : Nat) (Option.none : Option Jvm.ClassFile.FieldType), Jvm.Cond.code ({ cls := "com/example/halyard/halyard/engine/OperandStackDropPinLaw", name := "slot", desc := "(Lcom/example/halyard/halyard/engine/OperandStack;III)Z" } : Jvm.MethodName) method_3_code (5 : Nat) (Option.some Jvm.ClassFile.FieldType.boolean), Jvm.Cond.code ({ cls := "com/example/halyard/halyard/engine/OperandStack", name := "operand", desc := "(II)Lcom/example/halyard/halyard/engine/Code;" } : Jvm.MethodName) prog_114_method_5_code (3 : Nat) (Option.some (Jvm.ClassFile.FieldType.object "com/example/halyard/halyard/engine/Code")), Jvm.Cond.code ({ cls := "com/example/halyard/halyard/engine/OperandStack", name := "lambda$operand$0", desc := "(IILcom/example/halyard/halyard/engine/Frame;)Ljava/lang/Object;" } : Jvm.MethodName) prog_114_method_6_code (4 : Nat) (Option.some (Jvm.ClassFile.FieldType.object "java/lang/Object")), Jvm.Cond.code ({ cls := "java/lang/Integer", name := "intValue", desc := "()I" } : Jvm.MethodName) jdk_33_method_27_code (1 : Nat) (Option.some Jvm.ClassFile.FieldType.int)]
set_option maxRecDepth 65536 in
theorem codes_eq : words1.filter isCode = codes1 := rfl
theorem w_codes : ∀ c ∈ words1.filter isCode, c.before args0 about1 = true := by
  rw [codes_eq]
  intro c hc
  simp only [codes1, List.mem_cons, List.not_mem_nil, or_false] at hc
  rcases hc with rfl | rfl | rfl | rfl | rfl | rfl | rfl | rfl | rfl | rfl
  · exact w_c0
  · exact w_c1
  · exact w_c2
  · exact w_c3
  · exact w_c4
  · exact w_c5
  · exact w_c6
  · exact w_c7
  · exact w_c8
  · exact w_c9
set_option maxRecDepth 65536 in
theorem w_t1 : (words1.take 24).all (fun c => isCode c || c.before args0 about1) = true := by decide +kernel
set_option maxRecDepth 65536 in
theorem w_t2 : ((words1.drop 24).take 24).all (fun c => isCode c || c.before args0 about1) = true := by decide +kernel
set_option maxRecDepth 65536 in
theorem w_t3 : ((words1.drop 24).drop 24).all (fun c => isCode c || c.before args0 about1) = true := by decide +kernel
theorem w_tables : (allAtoms (Jvm.Cond.code x code maxLocals ret :: tables_1)).before args0 about1 = true := by
  rw [allAtoms_all]
  show words1.all (fun c => c.before args0 about1) = true
  refine all_split ?_ w_codes
  rw [← List.take_append_drop 24 words1, List.all_append, w_t1, ← List.take_append_drop 24 (words1.drop 24), List.all_append, w_t2, w_t3]
  rfl
set_option maxRecDepth 65536 in
theorem w_rest : rest_1_c.before args0 about1 = true := by decide +kernel
set_option maxRecDepth 65536 in
theorem w_case : (Jvm.Cond.and given_1 narrow_1).before args0 about1 = true := by decide +kernel
theorem w_applies : (headSpec (Jvm.Cond.code x code maxLocals ret :: tables_1) room_1).applies x e0.platform about1 = true :=
  (Spec.applies_iff w_frames).mpr ⟨w_running, w_runnable, w_alone, w_named, w_hears, w_ripe, w_room, w_tables⟩
theorem atStart : AtStart classFile x code maxLocals ret World_1 tables_1 room_1 Calls_1 rest_1 Pre_1 launch0 p0 e0 about1 theMethod args0 below0 :=
  ⟨lists_1, trivial, launch0.admits_env _ _ _, launch0.least_env, fairChoices_fair.cas, fairChoices_fair.clock, w_frames, w_args, w_heap, w_applies, trivial, w_rest, w_case⟩
end start1
theorem witness_1 : WitnessClaimed_1 := ⟨start1.p0, start1.e0, start1.about1, start1.theMethod, start1.args0, start1.below0, start1.atStart⟩
end Jvm.Pilot.@@N@@
